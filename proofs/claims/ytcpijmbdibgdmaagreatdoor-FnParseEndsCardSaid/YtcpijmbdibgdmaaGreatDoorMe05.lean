/-
  package model: where a literal string ends.
  package model: where a line ends.
  spec.reader.pass: white space and comments are gone over.
  package model: trimLeftSpace goes where the reader's pass goes, up to a sign of percent that ends the text.
  package model: trimLeftSpace.
-/
import Derived.Test.YtcpijmbdibgdmaaGreatDoorMe04
import Derived.Test.YtcpijmbdibgdmaaGreatDoorMe00
import Derived.Deep.LoopGhost
import Derived.Test.YtcpijmbdibgdmaaGreatDoorMe02
import Derived.Laws.RangeAny
set_option linter.all false
namespace Go.Proofs.YtcpijmbdibgdmaaGreatDoor
open Go.RowKit
attribute [local go_sem] ba_get store_flt

/-- The place of the parenthesis that closes, as the package looks for it (x: behind a reverse solidus; j: how many are open). -/
def parM : List UInt8 → Bool → Int → Option Nat
  | [], _, _ => none
  | b :: l, x, j =>
    if x = true then (parM l false j).map (· + 1)
    else if b.toNat = 92 then (parM l true j).map (· + 1)
    else if b.toNat = 40 then (if j + 1 = 0 then some 0 else (parM l false (j + 1)).map (· + 1))
    else if b.toNat = 41 then (if j - 1 = 0 then some 0 else (parM l false (j - 1)).map (· + 1))
    else if j = 0 then some 0 else (parM l false j).map (· + 1)
theorem parM_esc {b : UInt8} {l : List UInt8} {j : Int} : parM (b :: l) true j = (parM l false j).map (· + 1) := by rw [parM, if_pos rfl]
theorem parM_92 {b : UInt8} {l : List UInt8} {j : Int} (h : b.toNat = 92) : parM (b :: l) false j = (parM l true j).map (· + 1) := by rw [parM, if_neg (by simp), if_pos h]
theorem parM_40 {b : UInt8} {l : List UInt8} {j : Int} (h : b.toNat = 40) (hj : j + 1 ≠ 0) : parM (b :: l) false j = (parM l false (j + 1)).map (· + 1) := by rw [parM, if_neg (by simp), if_neg (by omega), if_pos h, if_neg hj]
theorem parM_40z {b : UInt8} {l : List UInt8} {j : Int} (h : b.toNat = 40) (hj : j + 1 = 0) : parM (b :: l) false j = some 0 := by rw [parM, if_neg (by simp), if_neg (by omega), if_pos h, if_pos hj]
theorem parM_41 {b : UInt8} {l : List UInt8} {j : Int} (h : b.toNat = 41) (hj : j - 1 ≠ 0) : parM (b :: l) false j = (parM l false (j - 1)).map (· + 1) := by rw [parM, if_neg (by simp), if_neg (by omega), if_neg (by omega), if_pos h, if_neg hj]
theorem parM_41z {b : UInt8} {l : List UInt8} {j : Int} (h : b.toNat = 41) (hj : j - 1 = 0) : parM (b :: l) false j = some 0 := by rw [parM, if_neg (by simp), if_neg (by omega), if_neg (by omega), if_pos h, if_pos hj]
theorem parM_else {b : UInt8} {l : List UInt8} {j : Int} (h1 : b.toNat ≠ 92) (h2 : b.toNat ≠ 40) (h3 : b.toNat ≠ 41) (hj : j ≠ 0) : parM (b :: l) false j = (parM l false j).map (· + 1) := by rw [parM, if_neg (by simp), if_neg h1, if_neg h2, if_neg h3, if_neg hj]
theorem parM_elsez {b : UInt8} {l : List UInt8} {j : Int} (h1 : b.toNat ≠ 92) (h2 : b.toNat ≠ 40) (h3 : b.toNat ≠ 41) (hj : j = 0) : parM (b :: l) false j = some 0 := by rw [parM, if_neg (by simp), if_neg h1, if_neg h2, if_neg h3, if_pos hj]

theorem parM_lt : ∀ (l : List UInt8) (x : Bool) (j : Int) (i : Nat), parM l x j = some i → i < l.length
  | [], _, _, _, h => by rw [parM] at h; cases h
  | b :: l, x, j, i, h => by
    have key : ∀ {o : Option Nat}, (∀ i', o = some i' → i' < l.length) → o.map (· + 1) = some i → i < (b :: l).length := by
      intro o ho hm
      rcases o with _ | i'
      · cases hm
      · have := ho i' rfl
        have hm' : i' + 1 = i := by simpa using hm
        simp
        omega
    rw [parM] at h
    repeat' split at h
    all_goals first | (exact key (parM_lt l _ _) h) | (injection h with h; simp; omega)
theorem parM_oct (j : Int) (hj : j ≠ 0) : ∀ (n : Nat) (l : List UInt8) (o : Nat), parM l false j = (parM (l.drop (octM n l o).2) false j).map (· + (octM n l o).2)
  | 0, l, o => by simp [octM]
  | n + 1, [], o => by simp [octM, parM]
  | n + 1, b :: l, o => by
    rw [octM]
    split
    · rename_i h
      rw [parM_else (by omega) (by omega) (by omega) hj, parM_oct j hj n l (8 * o + (b.toNat - 48)), Option.map_map]
      simp only [List.drop_succ_cons]
      congr 1
    · simp
theorem parM_escF (j : Int) (hj : j ≠ 0) (l : List UInt8) : parM l true j = (parM (l.drop (escF l).2.2) false j).map (· + (escF l).2.2) := by
  cases l with
  | nil => simp [parM]
  | cons b l =>
    rw [parM_esc]
    by_cases h : 48 ≤ b.toNat ∧ b.toNat ≤ 55
    · rw [escF_oct h.1 h.2]
      simp only [List.drop_succ_cons]
      rw [parM_oct j hj 2 l (b.toNat - 48), Option.map_map]
      congr 1
    · by_cases h13 : b.toNat = 13
      · rw [escF_13 h13]
        simp only
        split
        · rename_i hh
          rcases l with _ | ⟨c, l⟩
          · cases hh
          · have hc : c.toNat = 10 := by simpa using hh
            rw [parM_else (by omega) (by omega) (by omega) hj, Option.map_map]
            simp only [List.drop_succ_cons, List.drop_zero]
            congr 1
        · simp
      · have e : (escF (b :: l)).2.2 = 1 := by
          rw [escF_cons]
          repeat' split
          all_goals first | rfl | omega
        rw [e]
        simp
theorem par_lit : ∀ (n : Nat) (l : List UInt8) (o : Nat), l.length < n → 1 ≤ o → parM l false o = (litM n l o).map (fun p => p.2 - 1)
  | 0, _, _, h, _ => by omega
  | n + 1, [], o, _, _ => by simp [litM, parM]
  | n + 1, b :: l, o, h, ho => by
    have hl : l.length < n := by simp at h; omega
    have pos : ∀ m l' o' p, litM m l' o' = some p → 1 ≤ p.2 := by
      intro m
      induction m with
      | zero => intro l' o' p hp; cases hp
      | succ m ih =>
        intro l' o' p hp
        rcases l' with _ | ⟨c, l'⟩
        · cases hp
        · rw [litM] at hp
          repeat' split at hp
          all_goals first | (injection hp with hp; rw [← hp]; exact Nat.le_refl _) | (obtain ⟨q, hq, rfl⟩ := Option.map_eq_some_iff.1 hp; simp only; omega)
    have key : ∀ (d : Nat) (m : Nat) (l' : List UInt8) (o' : Nat) (f : List UInt8 × Nat → List UInt8 × Nat), (∀ p, (f p).2 = p.2 + d) → ((litM m l' o').map (fun p => p.2 - 1)).map (· + d) = ((litM m l' o').map f).map (fun p => p.2 - 1) := by
      intro d m l' o' f hf
      rcases hm : litM m l' o' with _ | p
      · rfl
      · have := pos _ _ _ _ hm
        simp only [Option.map_some, hf]
        congr 1
        omega
    by_cases h40 : b.toNat = 40
    · rw [litM_open h40 ho, parM_40 h40 (by omega)]
      have := par_lit n l (o + 1) hl (by omega)
      rw [show ((o : Int) + 1) = ((o + 1 : Nat) : Int) by omega, this]
      exact key 1 n l (o + 1) _ (fun p => rfl)
    by_cases h41 : b.toNat = 41
    · by_cases ho1 : o = 1
      · subst ho1
        rw [litM_end h41, parM_41z h41 (by omega)]
        rfl
      · rw [litM_shut h41 ho1, parM_41 h41 (by omega)]
        have := par_lit n l (o - 1) hl (by omega)
        rw [show ((o : Int) - 1) = ((o - 1 : Nat) : Int) by omega, this]
        exact key 1 n l (o - 1) _ (fun p => rfl)
    by_cases h92 : b.toNat = 92
    · rw [parM_92 h92, parM_escF _ (by omega) l]
      have hle : (l.drop (escF l).2.2).length < n := by rw [List.length_drop]; omega
      rw [par_lit n _ o hle ho]
      cases hb : (escF l).2.1 with
      | true =>
        rw [litM_esc h92 hb, Option.map_map]
        rw [← key (1 + (escF l).2.2) n (l.drop (escF l).2.2) o _ (fun p => by simp only; omega)]
        congr 1
        funext x
        simp only [Function.comp]
        omega
      | false =>
        rw [litM_esc0 h92 hb, Option.map_map]
        rw [← key (1 + (escF l).2.2) n (l.drop (escF l).2.2) o _ (fun p => by simp only; omega)]
        congr 1
        funext x
        simp only [Function.comp]
        omega
    by_cases h13 : b.toNat = 13
    · rw [parM_else (by omega) (by omega) (by omega) (by omega)]
      by_cases hh : (l.head?.map UInt8.toNat) = some 10
      · rw [litM_crlf h13 hh]
        rcases l with _ | ⟨c, l⟩
        · cases hh
        · have hc : c.toNat = 10 := by simpa using hh
          rw [parM_else (by omega) (by omega) (by omega) (by omega), par_lit n l o (by simp at hl; omega) ho, Option.map_map]
          simp only [List.drop_succ_cons, List.drop_zero]
          rw [← key 2 n l o _ (fun p => rfl)]
          congr 1
      · rw [litM_cr h13 hh, par_lit n l o hl ho]
        exact key 1 n l o _ (fun p => rfl)
    · rw [parM_else h92 h40 h41 (by omega), litM_else h40 h41 h13 h92, par_lit n l o hl ho]
      exact key 1 n l o _ (fun p => rfl)
/-- The package finds the same end as the reader. -/
theorem par_litAt (s : List UInt8) (k : Nat) (hk : k < s.length) (hc : s[k].toNat = 40) : parM (s.drop k) false 0 = (litAt s k).map (fun p => p.2 - 1 - k) := by
  have e : s.drop k = s[k] :: s.drop (k + 1) := List.drop_eq_getElem_cons hk
  unfold litAt
  rw [e, parM_40 hc (by omega), litM_open0 hc]
  have := par_lit s.length (s.drop (k + 1)) 1 (by rw [List.length_drop]; omega) (Nat.le_refl _)
  rw [show ((0 : Int) + 1) = ((1 : Nat) : Int) by omega, this]
  rcases hm : litM s.length (s.drop (k + 1)) 1 with _ | p
  · rfl
  · have hp : 1 ≤ p.2 := by
      rw [hm] at this
      rcases h0 : s.drop (k + 1) with _ | ⟨b, l⟩
      · rw [h0] at hm
        rcases s with _ | ⟨a, s⟩
        · simp at hk
        · rw [List.length_cons, litM] at hm; cases hm
      · have pos : ∀ m l' o' p, litM m l' o' = some p → 1 ≤ p.2 := by
          intro m
          induction m with
          | zero => intro l' o' p hp; cases hp
          | succ m ih =>
            intro l' o' p hp
            rcases l' with _ | ⟨c, l'⟩
            · cases hp
            · rw [litM] at hp
              repeat' split at hp
              all_goals first | (injection hp with hp; rw [← hp]; exact Nat.le_refl _) | (obtain ⟨q, hq, rfl⟩ := Option.map_eq_some_iff.1 hp; simp only; omega)
        exact pos _ _ _ _ hm
    simp only [Option.map_some]
    congr 1
    omega

def parRet (fin : Option Nat) : Value := .int .i64 (match fin with | some i => (i : Int) | none => -1)
set_option maxHeartbeats 4000000 in
set_option maxRecDepth 100000 in
theorem par_any (s : List UInt8) (w : World) (hs : s.length ≤ 1048576) : Calls Tryz.prog 143 #[S s] w fun e w' => e = .returned (parRet (parM s false 0)) ∧ w = w' := by
  obtain ⟨fin, hfin⟩ : ∃ fin, fin = parM s false 0 := ⟨_, rfl⟩
  rw [← hfin]
  have Hf := Lib.hid hfin
  clear hfin
  go_enter Tryz.func143, Tryz.ntmps143
  go_wp2_with fail
  go_loopg [3, 4, 5] s.length (fun g s3 s4 s5 wr => ∃ (j : Int) (x : Bool) (i : Nat), s3 = .int .i64 j ∧ s4 = .bool x ∧ s5 = .int .i64 i ∧ i + g = s.length ∧ -(i : Int) ≤ j ∧ j ≤ i ∧ wr = w ∧ Hid (fin = (parM (s.drop i) x j).map (· + i)))
  case atStart => exact ⟨0, false, 0, rfl, rfl, rfl, by omega, by omega, by omega, rfl, Lib.hid (by rw [Hf.out]; simp)⟩
  case round =>
    obtain ⟨j, x, i, rfl, rfl, rfl, hg, hj1, hj2, rfl, H⟩ := hrel
    have Hg := Lib.hid hg
    clear hg
    by_cases hi : i < s.length
    · have ti : decide ((i : Int) < (s.length : Int)) = true := by rw [decide_eq_true_eq]; omega
      have e1 : s.drop i = s[i] :: s.drop (i + 1) := List.drop_eq_getElem_cons hi
      have H1 := H.out
      rw [e1] at H1
      have next : ∀ {a : Option Nat} {P : Prop}, (fin = (a.map (· + 1)).map (· + i)) → fin = a.map (· + (i + 1)) := fun h => by
        rw [h, Option.map_map]; congr 1; funext q; simp only [Function.comp]; omega
      clear e1
      cases x with
      | true =>
        have H2 := Lib.hid H1
        clear H1
        go_wp2_with fail
        go_roundg (s.length - (i + 1))
        case measure => have := Hg.out; omega
        case rel => exact ⟨j, false, i + 1, by go_num, rfl, by go_num, by omega, by omega, by omega, rfl, Lib.hid (next (P := True) (by have h := H2.out; rw [parM_esc] at h; exact h))⟩
      | false =>
        by_cases h92 : s[i].toNat = 92
        · have t92 : (((s[i].toNat : Nat) : Int) == 92) = true := by rw [beq_iff_eq]; omega
          have H2 := Lib.hid H1
          clear H1
          go_wp2_with fail
          go_roundg (s.length - (i + 1))
          case measure => have := Hg.out; omega
          case rel => exact ⟨j, true, i + 1, by go_num, rfl, by go_num, by omega, by omega, by omega, rfl, Lib.hid (next (P := True) (by have h := H2.out; rw [parM_92 h92] at h; exact h))⟩
        · have t92 : (((s[i].toNat : Nat) : Int) == 92) = false := by rw [beq_eq_false_iff_ne]; omega
          by_cases h40 : s[i].toNat = 40
          · have t40 : (((s[i].toNat : Nat) : Int) == 40) = true := by rw [beq_iff_eq]; omega
            have t41 : (((s[i].toNat : Nat) : Int) == 41) = false := by rw [beq_eq_false_iff_ne]; omega
            by_cases hz : j + 1 = 0
            · have tz : ((j + 1 : Int) == 0) = true := by rw [beq_iff_eq]; omega
              have H2 := Lib.hid H1
              clear H1
              go_wp2_with fail
              go_ret
              refine ⟨?_, rfl⟩
              have h := H2.out
              rw [parM_40z h40 hz] at h
              rw [h]
              simp [parRet]
            · have tz : ((j + 1 : Int) == 0) = false := by rw [beq_eq_false_iff_ne]; omega
              have H2 := Lib.hid H1
              clear H1
              go_wp2_with fail
              go_roundg (s.length - (i + 1))
              case measure => have := Hg.out; omega
              case rel => exact ⟨j + 1, false, i + 1, by go_num, rfl, by go_num, by omega, by omega, by omega, rfl, Lib.hid (next (P := True) (by have h := H2.out; rw [parM_40 h40 hz] at h; exact h))⟩
          · have t40 : (((s[i].toNat : Nat) : Int) == 40) = false := by rw [beq_eq_false_iff_ne]; omega
            by_cases h41 : s[i].toNat = 41
            · have t41 : (((s[i].toNat : Nat) : Int) == 41) = true := by rw [beq_iff_eq]; omega
              by_cases hz : j - 1 = 0
              · have tz : ((j - 1 : Int) == 0) = true := by rw [beq_iff_eq]; omega
                have H2 := Lib.hid H1
                clear H1
                go_wp2_with fail
                go_ret
                refine ⟨?_, rfl⟩
                have h := H2.out
                rw [parM_41z h41 hz] at h
                rw [h]
                simp [parRet]
              · have tz : ((j - 1 : Int) == 0) = false := by rw [beq_eq_false_iff_ne]; omega
                have H2 := Lib.hid H1
                clear H1
                go_wp2_with fail
                go_roundg (s.length - (i + 1))
                case measure => have := Hg.out; omega
                case rel => exact ⟨j - 1, false, i + 1, by go_num, rfl, by go_num, by omega, by omega, by omega, rfl, Lib.hid (next (P := True) (by have h := H2.out; rw [parM_41 h41 hz] at h; exact h))⟩
            · have t41 : (((s[i].toNat : Nat) : Int) == 41) = false := by rw [beq_eq_false_iff_ne]; omega
              by_cases hz : j = 0
              · have tz : ((j : Int) == 0) = true := by rw [beq_iff_eq]; omega
                have H2 := Lib.hid H1
                clear H1
                go_wp2_with fail
                go_ret
                refine ⟨?_, rfl⟩
                have h := H2.out
                rw [parM_elsez h92 h40 h41 hz] at h
                rw [h]
                simp [parRet]
              · have tz : ((j : Int) == 0) = false := by rw [beq_eq_false_iff_ne]; omega
                have H2 := Lib.hid H1
                clear H1
                go_wp2_with fail
                go_roundg (s.length - (i + 1))
                case measure => have := Hg.out; omega
                case rel => exact ⟨j, false, i + 1, by go_num, rfl, by go_num, by omega, by omega, by omega, rfl, Lib.hid (next (P := True) (by have h := H2.out; rw [parM_else h92 h40 h41 hz] at h; exact h))⟩
    · have ti : decide ((i : Int) < (s.length : Int)) = false := by rw [decide_eq_false_iff_not]; omega
      go_wp2_with fail
      go_ret
      refine ⟨?_, rfl⟩
      have H1 := H.out
      rw [List.drop_eq_nil_of_le (by omega), parM] at H1
      rw [H1]; rfl
end Go.Proofs.YtcpijmbdibgdmaaGreatDoor

namespace Go.Proofs.YtcpijmbdibgdmaaGreatDoor
open Go.RowKit
attribute [local go_sem] ba_get store_flt

def eolB (b : UInt8) : Bool := decide (b.toNat = 10 ∨ b.toNat = 13)
def eolS : List UInt8 := [10, 13]
theorem eolB_iff (b : UInt8) : eolB b = eolS.any (fun c => b == c) := by
  have H : ∀ b : Fin 256, eolB (UInt8.ofNat b.val) = eolS.any (fun c => UInt8.ofNat b.val == c) := by decide +kernel
  have := H ⟨b.toNat, b.toNat_lt⟩
  simpa using this
def eolM : List UInt8 → Nat
  | [] => 0
  | b :: l => if eolB b = true then 0 else eolM l + 1
theorem eolM_le : ∀ l, eolM l ≤ l.length
  | [] => Nat.le_refl _
  | b :: l => by rw [eolM]; split <;> simp; exact eolM_le l
theorem eolM_go {b : UInt8} {l : List UInt8} (h : eolB b = false) : eolM (b :: l) = eolM l + 1 := by rw [eolM, if_neg (by simp [h])]
theorem eolM_stop {b : UInt8} {l : List UInt8} (h : eolB b = true) : eolM (b :: l) = 0 := by rw [eolM, if_pos h]
/-- All is ASCII up to where the line ends. -/
def cleanE : List UInt8 → Prop
  | [] => True
  | b :: l => b.toNat < 128 ∧ (eolB b = false → cleanE l)
def eolRet (s : List UInt8) : Value := .tuple #[S (s.drop (eolM s)), .int .i64 (if eolM s < s.length then (eolM s : Int) else 0)]

set_option maxHeartbeats 4000000 in
set_option maxRecDepth 100000 in
theorem eol_any (s : List UInt8) (w : World) (hs : s.length ≤ 1048576) (hcl : cleanE s) :
    Calls Tryz.prog 113 #[S s] w fun e w' => e = .returned (eolRet s) ∧ Below w.heap.size w w' := by
  go_enter Tryz.func113, Tryz.ntmps113
  go_wp2_with fail
  go_loopg [] s.length (fun g wr => ∃ pos : Nat, wr.heap[w.heap.size]? = some (.stringIter ⟨s.toArray⟩ pos) ∧ Below w.heap.size w wr ∧ pos + g = s.length ∧ cleanE (s.drop pos) ∧ pos + eolM (s.drop pos) = eolM s)
  case atStart => exact ⟨0, World.iter_heap w _ 0, (Below.refl _ w).alloc (Nat.le_refl _) _, by omega, hcl, by simp⟩
  case round =>
    obtain ⟨pos, hit, hbw, hg, hcl, hn⟩ := hrel
    have Hg := Lib.hid hg
    clear hg
    by_cases hp : pos < s.length
    · have e1 : s.drop pos = s[pos] :: s.drop (pos + 1) := List.drop_eq_getElem_cons hp
      rw [e1] at hcl hn
      obtain ⟨hasc, hcl⟩ := hcl
      have hsz : w.heap.size < wr.heap.size := (Array.getElem?_eq_some_iff.1 hit).1
      have hnx : ∀ ty, (Instr.next (.pointer (some ⟨w.heap.size, 0, none⟩)) true ty).run Tryz.prog wr = _ := fun ty => Lib.run_next_ascii_at wr w.heap.size ⟨s.toArray⟩ pos ty hit hp hasc
      have hit2 := Lib.iterAt_heap wr w.heap.size ⟨s.toArray⟩ pos (pos + 1) hit
      have hbw2 := Lib.below_iterAt hbw (k := w.heap.size) (Nat.le_refl _) ⟨s.toArray⟩ (pos + 1)
      have hsz2 := Lib.iterAt_size wr w.heap.size ⟨s.toArray⟩ (pos + 1)
      obtain ⟨W, hWd⟩ : ∃ W, wr.iterAt w.heap.size ⟨s.toArray⟩ (pos + 1) = W := ⟨_, rfl⟩
      rw [hWd] at hnx hit2 hbw2 hsz2
      have hnx2 : ∀ ty, (Instr.next (.pointer (some ⟨w.heap.size, 0, none⟩)) true ty).run Tryz.prog wr = .ok (.tuple #[.bool true, .int .i64 pos, .int .i32 (s[pos].toNat : Nat)]) W := hnx
      clear hnx hWd
      have Hn := Lib.hid hn
      have Hcl := Lib.hid hcl
      clear hn hcl
      have Hsz2 := Lib.hid hsz2
      clear hsz2
      go_wp2_with fail
      go_loopg [] 2 (fun g wy => ∃ j : Nat, wy.heap[W.heap.size]? = some (.stringIter ⟨eolS.toArray⟩ j) ∧ Below W.heap.size W wy ∧ j + g = 2 ∧ ((eolS.take j).any fun c => s[pos] == c) = false)
      case atStart => exact ⟨0, World.iter_heap W _ 0, (Below.refl _ W).alloc (Nat.le_refl _) _, by omega, rfl⟩
      case round =>
        obtain ⟨j, hjt, hbj, hgj, hno⟩ := hrel
        have Hgj := Lib.hid hgj
        have Hno := Lib.hid hno
        clear hgj hno
        by_cases hj : j < eolS.length
        · have hcj : (eolS[j]).toNat < 128 := (show ∀ c ∈ eolS, c.toNat < 128 by decide) _ (List.getElem_mem hj)
          have hny : ∀ ty, (Instr.next (.pointer (some ⟨W.heap.size, 0, none⟩)) true ty).run Tryz.prog wr = _ := fun ty => Lib.run_next_ascii_at wr W.heap.size ⟨eolS.toArray⟩ j ty hjt hj hcj
          have hjt2 := Lib.iterAt_heap wr W.heap.size ⟨eolS.toArray⟩ j (j + 1) hjt
          have hbj2 := Lib.below_iterAt hbj (k := W.heap.size) (Nat.le_refl _) ⟨eolS.toArray⟩ (j + 1)
          obtain ⟨Y, hYd⟩ : ∃ Y, wr.iterAt W.heap.size ⟨eolS.toArray⟩ (j + 1) = Y := ⟨_, rfl⟩
          rw [hYd] at hny hjt2 hbj2
          have hny2 : ∀ ty, (Instr.next (.pointer (some ⟨W.heap.size, 0, none⟩)) true ty).run Tryz.prog wr = .ok (.tuple #[.bool true, .int .i64 j, .int .i32 (eolS[j].toNat : Nat)]) Y := hny
          clear hny hYd
          by_cases hcm : s[pos] = eolS[j]
          · have tcm : (((s[pos].toNat : Nat) : Int) == ((eolS[j].toNat : Nat) : Int)) = true := by rw [beq_iff_eq, hcm]
            have hst : eolB s[pos] = true := by
              rw [eolB_iff]
              exact List.any_eq_true.2 ⟨eolS[j], List.getElem_mem hj, by rw [hcm]; simp⟩
            have Hst := Lib.hid hst
            clear hst hcm
            go_wp2_with fail
            refine bodyPost_ret (v := .tuple #[.string ((ByteArray.mk s.toArray).extract pos s.length), .int .i64 pos]) (by simp [results, Tryz.results113, go_sem]) rfl ?_
            refine ⟨?_, hbw2.trans (hbj2.mono (by have := Hsz2.out; omega))⟩
            have hx := Hn.out
            rw [eolM_stop Hst.out] at hx
            have e : eolM s = pos := by omega
            unfold eolRet
            rw [e, if_pos hp, ByteArray.extract_mk, List.take_of_length_le (by rw [List.length_drop]; omega)]
          · have tcm : (((s[pos].toNat : Nat) : Int) == ((eolS[j].toNat : Nat) : Int)) = false := by rw [beq_eq_false_iff_ne]; intro h; exact hcm (UInt8.toNat_inj.1 (Int.ofNat.inj h))
            have Hcm := Lib.hid hcm
            clear hcm
            go_wp2_with fail
            go_roundg (2 - (j + 1))
            case measure => have := Hgj.out; simp [eolS] at hj; omega
            case rel =>
              refine ⟨j + 1, hjt2, hbj2, by simp [eolS] at hj; omega, ?_⟩
              rw [List.take_succ_eq_append_getElem hj, List.any_append, Hno.out]
              simp [Hcm.out]
        · have hny : ∀ ty, (Instr.next (.pointer (some ⟨W.heap.size, 0, none⟩)) true ty).run Tryz.prog wr = _ := fun ty => Lib.run_next_end_at wr W.heap.size ⟨eolS.toArray⟩ j ty hjt hj
          have hnst : eolB s[pos] = false := by
            have h1 := Hno.out
            rw [List.take_of_length_le (by omega)] at h1
            rw [eolB_iff, h1]
          have Hns := Lib.hid hnst
          clear hnst
          go_wp2_with fail
          go_roundg (s.length - (pos + 1))
          case measure => have := Hg.out; omega
          case rel =>
            have hx := Hn.out
            rw [eolM_go Hns.out] at hx
            exact ⟨pos + 1, (hbj.block _ (by have := Hsz2.out; omega)).trans hit2, hbw2.trans (hbj.mono (by have := Hsz2.out; omega)), by omega, Hcl.out Hns.out, by omega⟩
    · have hnx : ∀ ty, (Instr.next (.pointer (some ⟨w.heap.size, 0, none⟩)) true ty).run Tryz.prog wr = _ := fun ty => Lib.run_next_end_at wr w.heap.size ⟨s.toArray⟩ pos ty hit hp
      have hn0 : eolM s = s.length := by
        rw [List.drop_eq_nil_of_le (by omega), eolM] at hn
        have := eolM_le s
        have := Hg.out
        omega
      go_wp2_with fail
      refine bodyPost_ret (v := .tuple #[S [], .int .i64 0]) (by simp [results, Tryz.results113, go_sem]) rfl ?_
      refine ⟨?_, hbw⟩
      simp [eolRet, hn0]
end Go.Proofs.YtcpijmbdibgdmaaGreatDoor

namespace Go.Proofs.YtcpijmbdibgdmaaGreatDoor
open Go.RowKit
attribute [local go_sem] ba_get

/-- How far white space and comments go (c: within a comment), and whether there is something odd in them. -/
def passM : Bool → List UInt8 → Bool → Nat × Bool
  | _, [], o => (0, o)
  | true, b :: l, o => if b.toNat = 10 ∨ b.toNat = 13 then ((passM false l o).1 + 1, (passM false l o).2) else ((passM true l (o || !plainB b)).1 + 1, (passM true l (o || !plainB b)).2)
  | false, b :: l, o => if whiteB b = true then ((passM false l o).1 + 1, (passM false l o).2) else if b.toNat = 37 then ((passM true l o).1 + 1, (passM true l o).2) else (0, o)
theorem passM_white {b : UInt8} {l : List UInt8} {o : Bool} (h : whiteB b = true) : passM false (b :: l) o = ((passM false l o).1 + 1, (passM false l o).2) := by rw [passM, if_pos h]
theorem passM_stop {b : UInt8} {l : List UInt8} {o : Bool} (h : whiteB b = false) (h' : b.toNat ≠ 37) : passM false (b :: l) o = (0, o) := by rw [passM, if_neg (by simp [h]), if_neg h']
theorem passM_in {b : UInt8} {l : List UInt8} {o : Bool} (h : b.toNat ≠ 10) (h' : b.toNat ≠ 13) : passM true (b :: l) o = ((passM true l (o || !plainB b)).1 + 1, (passM true l (o || !plainB b)).2) := by rw [passM, if_neg (by omega)]
theorem passM_open {b : UInt8} {l : List UInt8} {o : Bool} (h' : b.toNat = 37) : passM false (b :: l) o = passM true (b :: l) o := by
  have h : whiteB b = false := by simp [whiteB, h']
  have hp : plainB b = true := by simp [plainB, h']
  have e1 : passM false (b :: l) o = ((passM true l o).1 + 1, (passM true l o).2) := by rw [passM, if_neg (by simp [h]), if_pos h']
  have e2 : passM true (b :: l) o = ((passM true l o).1 + 1, (passM true l o).2) := by rw [passM_in (by omega) (by omega), hp]; simp
  rw [e1, e2]
theorem passM_shut {b : UInt8} {l : List UInt8} {o : Bool} (h : b.toNat = 10 ∨ b.toNat = 13) : passM true (b :: l) o = passM false (b :: l) o := by
  have hw : whiteB b = true := by simp [whiteB]; omega
  rw [passM, if_pos h, passM, if_pos hw]

set_option maxHeartbeats 4000000 in
set_option maxRecDepth 100000 in
theorem pass_any (r : Nat) (s : List UInt8) (k bad deep : Nat) (odd ends : Bool) (w : World) (hk : k ≤ s.length) (hs : s.length ≤ 1048576) (h : Rd w r s k bad deep odd ends) :
    Calls Tryz.prog 33 #[.pointer (some ⟨r, 0, none⟩)] w fun e w' => e = .returned (.tuple #[]) ∧
      Rd w' r s (k + (passM false (s.drop k) odd).1) bad deep (passM false (s.drop k) odd).2 ends ∧ Only w w' r := by
  go_enter Tryz.func33, Tryz.ntmps33
  go_wp2_with fail
  go_loopg [] (s.length - k) (fun g wr => ∃ j o, g + j = s.length ∧ k ≤ j ∧ Rd wr r s j bad deep o ends ∧ Only w wr r ∧ j + (passM false (s.drop j) o).1 = k + (passM false (s.drop k) odd).1 ∧ (passM false (s.drop j) o).2 = (passM false (s.drop k) odd).2)
  case atStart => exact ⟨k, odd, by omega, Nat.le_refl _, h, only_refl _ _, rfl, rfl⟩
  case round =>
    obtain ⟨j, o, hg, hkj, hR, hO, A⟩ := hrel
    have A := Lib.hid A
    rename_i A0
    clear A0 h
    have hjl : j ≤ s.length := by omega
    have hg := Lib.hid hg
    rename_i hg0
    clear hg0
    obtain ⟨c0, c1, c2, c3, c4, c5⟩ := hR.cs
    obtain ⟨f1, f2, f3, f4, f5⟩ := hR.fs
    by_cases hlt : j < s.length
    · go_wp2_with fail
      go_quiet (fail)
      go_wp2_with fail
      go_quiet ((go_at_call 67; first | exact quiet_add_left (white_any s[j] _) | exact quiet_left (white_any s[j] _)))
      cases hr : whiteB s[j] with
      | true =>
        go_wp2_with fail
        go_roundg (gk - 1)
        case measure => have := hg.out; omega
        case rel =>
          have A1 := A.out
          rw [drop_at hlt, passM_white hr] at A1
          refine ⟨j + 1, o, by have := hg.out; omega, by omega, hR.at_ _ rfl, (by repeat first | exact hO | refine only_drewN ?_ _ | refine only_set ?_ _ _ | refine only_drew ?_), ?_⟩
          simpa [Nat.add_assoc, Nat.add_comm 1] using A1
      | false =>
        by_cases h37 : s[j].toNat = 37
        · have t37 : ((s[j].toNat : Int) == 37) = true := by rw [beq_iff_eq]; omega
          go_wp2_with fail
          go_quiet (fail)
          go_wp2_with fail
          refine wp_gen (fun wo => Rd wo r s j bad deep o ends ∧ Only w wo r) ⟨hR, (by repeat first | exact hO | refine only_drewN ?_ _ | refine only_set ?_ _ _ | refine only_drew ?_)⟩ ?_
          rintro wo ⟨hR2, hO2⟩
          clear c0 c1 c2 c3 c4 c5 f1 f2 f3 f4 f5 hR hO 
          have hR := hR2
          have hO := hO2
          clear hR2 hO2
          obtain ⟨c0, c1, c2, c3, c4, c5⟩ := hR.cs
          obtain ⟨f1, f2, f3, f4, f5⟩ := hR.fs
          have tx : s[j].toNat ≠ 10 ∧ s[j].toNat ≠ 13 := by omega
          have A2 : Hid (j + (passM true (s.drop j) o).1 = k + (passM false (s.drop k) odd).1 ∧ (passM true (s.drop j) o).2 = (passM false (s.drop k) odd).2) := by
            have A1 := A.out
            rw [drop_at hlt, passM_open h37, ← drop_at hlt] at A1
            exact A1
          clear A t37
          go_loopg [] (s.length - j) (fun g wr => ∃ i o, g + i = s.length ∧ (j < i ∨ i = j) ∧ Rd wr r s i bad deep o ends ∧ Only w wr r ∧ i + (passM true (s.drop i) o).1 = k + (passM false (s.drop k) odd).1 ∧ (passM true (s.drop i) o).2 = (passM false (s.drop k) odd).2)
          case atStart => exact ⟨j, o, by omega, .inr rfl, hR, hO, A2.out⟩
          case round =>
            obtain ⟨i, o', hgi, hji, hR2, hO2, B⟩ := hrel
            have B := Lib.hid B
            rename_i B0
            clear B0
            clear c0 c1 c2 c3 c4 c5 f1 f2 f3 f4 f5 hR hO 
            have hR := hR2
            have hO := hO2
            clear hR2 hO2
            have hil : i ≤ s.length := by omega
            have hgi := Lib.hid hgi
            rename_i hgi0
            clear hgi0
            obtain ⟨c0, c1, c2, c3, c4, c5⟩ := hR.cs
            obtain ⟨f1, f2, f3, f4, f5⟩ := hR.fs
            by_cases hlt2 : i < s.length
            · by_cases h10 : s[i].toNat = 10
              · have t10 : ((s[i].toNat : Int) == 10) = true := by rw [beq_iff_eq]; omega
                have t10' : ((s[i].toNat : Int) != 10) = false := by rw [bne, t10]; rfl
                have hne : j < i := by rcases hji with h | rfl; exact h; omega
                go_wp2_with fail
                go_quiet (fail)
                go_wp2_with fail
                go_roundg (s.length - i)
                case measure => have := hg.out; have := hgi.out; omega
                case rel =>
                  have B1 := B.out
                  refine ⟨i, o', by omega, by omega, hR, (by repeat first | exact hO | refine only_drewN ?_ _ | refine only_set ?_ _ _ | refine only_drew ?_), ?_⟩
                  rw [drop_at hlt2, passM_shut (.inl h10), ← drop_at hlt2] at B1
                  exact B1
              · have t10 : ((s[i].toNat : Int) == 10) = false := by rw [beq_eq_false_iff_ne]; omega
                have t10' : ((s[i].toNat : Int) != 10) = true := by rw [bne, t10]; rfl
                by_cases h13 : s[i].toNat = 13
                · have t13 : ((s[i].toNat : Int) == 13) = true := by rw [beq_iff_eq]; omega
                  have t13' : ((s[i].toNat : Int) != 13) = false := by rw [bne, t13]; rfl
                  have hne : j < i := by rcases hji with h | rfl; exact h; omega
                  go_wp2_with fail
                  go_quiet (fail)
                  go_wp2_with fail
                  go_roundg (s.length - i)
                  case measure => have := hg.out; have := hgi.out; omega
                  case rel =>
                    have B1 := B.out
                    refine ⟨i, o', by omega, by omega, hR, (by repeat first | exact hO | refine only_drewN ?_ _ | refine only_set ?_ _ _ | refine only_drew ?_), ?_⟩
                    rw [drop_at hlt2, passM_shut (.inr h13), ← drop_at hlt2] at B1
                    exact B1
                · have t13 : ((s[i].toNat : Int) == 13) = false := by rw [beq_eq_false_iff_ne]; omega
                  have t13' : ((s[i].toNat : Int) != 13) = true := by rw [bne, t13]; rfl
                  go_wp2_with fail
                  go_quiet (fail)
                  go_wp2_with fail
                  refine region_tailq 18 (by kernel_rfl) (by kernel_rfl) ?_
                  intro w2 e2
                  have hR2 : Rd w2 r s i bad deep o' ends := by rw [e2]; exact hR
                  have hO2 : Only w w2 r := by rw [e2]; exact only_drew (only_drewN hO _)
                  clear e2
                  clear c0 c1 c2 c3 c4 c5 f1 f2 f3 f4 f5 hR hO 
                  have hR := hR2
                  have hO := hO2
                  clear hR2 hO2
                  obtain ⟨c0, c1, c2, c3, c4, c5⟩ := hR.cs
                  obtain ⟨f1, f2, f3, f4, f5⟩ := hR.fs
                  simp only [List.take_succ_cons, List.take_zero, List.drop_succ_cons, List.drop_zero]
                  cases o' with
                  | false =>
                    repeat (go_big_quiet_step (fail))
                    go_big_quiet_want; go_big_quiet_op
                    refine ⟨_, (plain_any s[i] _).mono fun _ _ ⟨a, b⟩ => ⟨a, b.symm⟩, ?_⟩
                    go_big_quiet_on
                    repeat (go_big_quiet_step (fail))
                    refine wpQuiet_nil ?_
                    go_wp2_with fail
                    go_roundg (gk - 1)
                    case measure => have := hgi.out; omega
                    case rel =>
                      have B1 := B.out
                      rw [drop_at hlt2, passM_in h10 h13] at B1
                      refine ⟨i + 1, !plainB s[i], by have := hgi.out; omega, by omega, (hR.odd_ _ rfl).at_ _ rfl, only_set (only_set hO _ _) _ _, ?_⟩
                      simpa [Nat.add_assoc, Nat.add_comm 1] using B1
                  | true =>
                    repeat (go_big_quiet_step (fail))
                    refine wpQuiet_nil ?_
                    go_wp2_with fail
                    go_roundg (gk - 1)
                    case measure => have := hgi.out; omega
                    case rel =>
                      have B1 := B.out
                      rw [drop_at hlt2, passM_in h10 h13] at B1
                      refine ⟨i + 1, true, by have := hgi.out; omega, by omega, (hR.odd_ _ rfl).at_ _ rfl, only_set (only_set hO _ _) _ _, ?_⟩
                      simpa [Nat.add_assoc, Nat.add_comm 1] using B1
            · have hne : j < i := by rcases hji with h | rfl; exact h; omega
              go_wp2_with fail
              go_quiet (fail)
              go_wp2_with fail
              go_roundg (s.length - i)
              case measure => have := hg.out; have := hgi.out; omega
              case rel =>
                have B1 := B.out
                refine ⟨i, o', by omega, by omega, hR, (by repeat first | exact hO | refine only_drewN ?_ _ | refine only_set ?_ _ _ | refine only_drew ?_), ?_⟩
                rw [List.drop_eq_nil_of_le (by omega)] at B1 ⊢
                exact B1
        · have t37 : ((s[j].toNat : Int) == 37) = false := by rw [beq_eq_false_iff_ne]; omega
          go_wp2_with fail
          go_quiet (fail)
          go_wp2_with fail
          refine bodyPost_ret (results_none rfl _ _ _) rfl ?_
          have e0 : passM false (s.drop j) o = (0, o) := by rw [drop_at hlt]; exact passM_stop hr h37
          have A1 := A.out
          rw [e0] at A1
          refine ⟨rfl, ?_, (by repeat first | exact hO | refine only_drewN ?_ _ | refine only_set ?_ _ _ | refine only_drew ?_)⟩
          rw [← A1.1, ← A1.2]; exact hR
    · go_wp2_with fail
      go_quiet (fail)
      go_wp2_with fail
      go_end0
      have e0 : passM false (s.drop j) o = (0, o) := by rw [List.drop_eq_nil_of_le (by omega)]; rfl
      have A1 := A.out
      rw [e0] at A1
      refine ⟨rfl, ?_, (by repeat first | exact hO | refine only_drewN ?_ _ | refine only_set ?_ _ _ | refine only_drew ?_)⟩
      rw [← A1.1, ← A1.2]; exact hR
end Go.Proofs.YtcpijmbdibgdmaaGreatDoor

namespace Go.Proofs.YtcpijmbdibgdmaaGreatDoor
open Go.RowKit
attribute [local go_sem] ba_get store_flt

/-- How many characters of white space stand ahead. -/
def wrun : List UInt8 → Nat
  | [] => 0
  | b :: l => if whiteB b = true then wrun l + 1 else 0
theorem wrun_le : ∀ l, wrun l ≤ l.length
  | [] => Nat.le_refl _
  | b :: l => by rw [wrun]; split <;> simp; exact wrun_le l
theorem passM_wrun : ∀ (l : List UInt8) (o : Bool), passM false l o = (wrun l + (passM false (l.drop (wrun l)) o).1, (passM false (l.drop (wrun l)) o).2)
  | [], o => by simp [wrun]
  | b :: l, o => by
    rw [wrun]
    split
    · rename_i h
      rw [passM_white h, passM_wrun l o]
      simp only [List.drop_succ_cons, Prod.mk.injEq, and_true]
      omega
    · simp
theorem wrun_stop : ∀ (l : List UInt8) (h : wrun l < l.length), whiteB (l[wrun l]'h) = false
  | [], h => by simp at h
  | b :: l, h => by
    by_cases hb : whiteB b = true
    · have e : wrun (b :: l) = wrun l + 1 := by rw [wrun, if_pos hb]
      simp only [e, List.getElem_cons_succ]
      exact wrun_stop l (by rw [e] at h; simp at h; omega)
    · have e : wrun (b :: l) = 0 := by rw [wrun, if_neg hb]
      simp only [e, List.getElem_cons_zero]
      simpa using hb
theorem wrun_all : ∀ (l : List UInt8) (j : Nat) (h : j < l.length), j < wrun l → whiteB (l[j]'h) = true
  | [], _, h, _ => by simp at h
  | b :: l, j, h, hj => by
    by_cases hb : whiteB b = true
    · have e : wrun (b :: l) = wrun l + 1 := by rw [wrun, if_pos hb]
      rcases j with _ | j
      · simpa using hb
      · simp only [List.getElem_cons_succ]
        exact wrun_all l j (by simp at h; omega) (by omega)
    · have e : wrun (b :: l) = 0 := by rw [wrun, if_neg hb]
      omega
theorem white_ws (b : UInt8) : whiteB b = true → b.toNat < 128 ∧ wsR b.toNat = true := by
  have H : ∀ b : Fin 256, whiteB (UInt8.ofNat b.val) = true → (UInt8.ofNat b.val).toNat < 128 ∧ wsR (UInt8.ofNat b.val).toNat = true := by decide +kernel
  have := H ⟨b.toNat, b.toNat_lt⟩
  simpa using this
theorem plain_ws (b : UInt8) : plainB b = true → whiteB b = false → b.toNat < 128 ∧ wsR b.toNat = false := by
  have H : ∀ b : Fin 256, plainB (UInt8.ofNat b.val) = true → whiteB (UInt8.ofNat b.val) = false → (UInt8.ofNat b.val).toNat < 128 ∧ wsR (UInt8.ofNat b.val).toNat = false := by decide +kernel
  have := H ⟨b.toNat, b.toNat_lt⟩
  simpa using this

/-- Where the package's trimming of the left stops. -/
theorem idx_ws (p : Nat → Bool) (s : List UInt8) (m : Nat) (hm : m ≤ s.length) (h1 : ∀ j (h : j < s.length), j < m → s[j].toNat < 128 ∧ p s[j].toNat = true) (h2 : ∀ h : m < s.length, s[m].toNat < 128 ∧ p s[m].toNat = false) :
    ∀ f pos : Nat, pos ≤ m → s.length ≤ f + pos → Lib.idxFuncFrom p false ⟨s.toArray⟩ f pos = if m < s.length then (m : Int) else -1
  | 0, pos, hp, hf => by rw [if_neg (by omega)]; rfl
  | f + 1, pos, hp, hf => by
    unfold Lib.idxFuncFrom
    have hsz : (ByteArray.mk s.toArray).size = s.length := rfl
    by_cases hl : pos < s.length
    · have ha : s[pos].toNat < 128 := by
        by_cases e : pos = m
        · subst e; exact (h2 hl).1
        · exact (h1 pos hl (by omega)).1
      have hd : Utf8.decode ⟨s.toArray⟩ pos = (s[pos].toNat, 1) := decode_ascii ⟨s.toArray⟩ pos hl ha
      rw [if_pos (by rw [hsz]; exact hl), hd]
      by_cases e : pos = m
      · subst e
        rw [if_pos (h2 hl).2, if_pos hl]
      · rw [if_neg (by simp only; rw [(h1 pos hl (by omega)).2]; simp)]
        exact idx_ws p s m hm h1 h2 f (pos + 1) (by omega) (by omega)
    · rw [if_neg (by rw [hsz]; exact hl), if_neg (by omega)]
theorem trimLeft_ws (p : Nat → Bool) (s : List UInt8) (m : Nat) (hm : m ≤ s.length) (h1 : ∀ j (h : j < s.length), j < m → s[j].toNat < 128 ∧ p s[j].toNat = true) (h2 : ∀ h : m < s.length, s[m].toNat < 128 ∧ p s[m].toNat = false) :
    Lib.trimLeftF p ⟨s.toArray⟩ = ⟨(s.drop m).toArray⟩ := by
  have e : Lib.idxFunc p false ⟨s.toArray⟩ = if m < s.length then (m : Int) else -1 := idx_ws p s m hm h1 h2 s.length 0 (by omega) (by omega)
  unfold Lib.trimLeftF
  rw [e]
  by_cases hl : m < s.length
  · rw [if_pos hl, if_neg (by omega)]
    rw [show ((m : Int)).toNat = m by omega, show (ByteArray.mk s.toArray).size = s.length from rfl, ByteArray.extract_mk, List.take_of_length_le (by rw [List.length_drop]; omega)]
  · rw [if_neg hl, if_pos rfl, List.drop_eq_nil_of_le (by omega)]

theorem predWs (w : World) : PredAt Tryz.prog 109 #[] encR wsR w := fun W x _ => by
  have := trimSp_any x W
  exact this.mono fun e w' ⟨h1, h2⟩ => ⟨h1, 0, h2.symm⟩
theorem predSp (w : World) : PredAt Tryz.prog 110 #[] encR spR w := fun W x _ => by
  have := isSpace_any x W
  exact this.mono fun e w' ⟨h1, h2⟩ => ⟨h1, 0, h2.symm⟩
theorem enters109 : ∀ args w, (callFunc 109 args).run Tryz.prog w = .ok (.enter 109 args) w := enters_of Tryz.func109 (by kernel_rfl) rfl
theorem enters110 : ∀ args w, (callFunc 110 args).run Tryz.prog w = .ok (.enter 110 args) w := enters_of Tryz.func110 (by kernel_rfl) rfl
theorem trimWs_any (s : List UInt8) (w : World) : Calls Tryz.prog 112 #[S s, .func (.func 109) #[] #[]] w fun e w' => e = .returned (.string (Lib.trimLeftF wsR ⟨s.toArray⟩)) ∧ Below w.heap.size w w' :=
  Tryz.strings_TrimLeftFunc 109 #[] enters109 wsR ⟨s.toArray⟩ w (predWs w)
/-- A text whose white space and comments, n characters of it, are plain. -/
structure Clear (l : List UInt8) (n : Nat) : Prop where
  pass : passM false l false = (n, false)
  stop : ∀ h : n < l.length, plainB (l[n]'h) = true
theorem trimWs_at {l : List UInt8} {n : Nat} (h : Clear l n) : Lib.trimLeftF wsR ⟨l.toArray⟩ = ⟨(l.drop (wrun l)).toArray⟩ := by
  refine trimLeft_ws wsR l (wrun l) (wrun_le l) (fun j hj hw => white_ws _ (wrun_all l j hj hw)) (fun hl => ?_)
  have hw := wrun_stop l hl
  refine plain_ws _ ?_ hw
  have e := h.pass
  rw [passM_wrun, List.drop_eq_getElem_cons hl] at e
  by_cases h37 : (l[wrun l]'hl).toNat = 37
  · unfold plainB; rw [decide_eq_true_eq]; omega
  · rw [passM_stop hw h37] at e
    have : n = wrun l := by injection e with e; omega
    subst this
    exact h.stop hl
end Go.Proofs.YtcpijmbdibgdmaaGreatDoor

namespace Go.Proofs.YtcpijmbdibgdmaaGreatDoor
open Go.RowKit
attribute [local go_sem] ba_get store_flt

theorem passM_odd : ∀ (l : List UInt8) (c : Bool), (passM c l true).2 = true
  | [], c => by cases c <;> rfl
  | b :: l, true => by
    rw [passM]
    split
    · exact passM_odd l false
    · simp only [Bool.true_or]; exact passM_odd l true
  | b :: l, false => by
    rw [passM]
    split
    · exact passM_odd l false
    · split
      · exact passM_odd l true
      · rfl
theorem passM_com : ∀ (l : List UInt8), (passM true l false).2 = false → cleanE l ∧ passM true l false = (eolM l + (passM false (l.drop (eolM l)) false).1, (passM false (l.drop (eolM l)) false).2)
  | [], _ => by refine ⟨trivial, ?_⟩; simp [eolM, passM]
  | b :: l, h => by
    by_cases hb : b.toNat = 10 ∨ b.toNat = 13
    · have he : eolB b = true := by unfold eolB; rw [decide_eq_true_eq]; exact hb
      refine ⟨⟨by omega, fun h0 => by rw [he] at h0; cases h0⟩, ?_⟩
      rw [eolM_stop he, passM_shut hb]
      simp
    · have he : eolB b = false := by unfold eolB; rw [decide_eq_false_iff_not]; exact hb
      rw [passM_in (by omega) (by omega)] at h ⊢
      have hp : plainB b = true := by
        cases hp : plainB b with
        | true => rfl
        | false =>
          rw [hp] at h
          simp only [Bool.not_false, Bool.or_true] at h
          rw [passM_odd] at h
          cases h
      rw [hp] at h ⊢
      simp only [Bool.not_true, Bool.or_false] at h ⊢
      obtain ⟨h1, h2⟩ := passM_com l h
      refine ⟨⟨by unfold plainB at hp; rw [decide_eq_true_eq] at hp; omega, fun _ => h1⟩, ?_⟩
      rw [eolM_go he, h2]
      simp only [List.drop_succ_cons, Prod.mk.injEq, and_true]
      omega

/-- What trimLeftSpace leaves: what stands behind the n characters; or the sign of percent that ends the text. -/
def TrimPost (l : List UInt8) (n : Nat) (w : World) (e : Ending) (w' : World) : Prop :=
  (∃ r : List UInt8, e = .returned (.tuple #[S r, .bool false]) ∧ (r = l.drop n ∨ (n = l.length ∧ r = [37]))) ∧ Below w.heap.size w w'

theorem nil_of_le1 {l : List UInt8} (h : l.length ≤ 1) : l = [] ∨ ∃ b, l = [b] := by
  match l, h with
  | [], _ => exact .inl rfl
  | [b], _ => exact .inr ⟨b, rfl⟩

set_option maxHeartbeats 4000000 in
set_option maxRecDepth 100000 in
theorem trim_any (l : List UInt8) (n : Nat) (w : World) (hs : l.length ≤ 1048576) (hc : Clear l n) : Calls Tryz.prog 97 #[S l, .bool false] w (TrimPost l n w) := by
  have HC := Lib.hid hc
  clear hc
  go_enter Tryz.func97, Tryz.ntmps97
  go_wp2_with fail
  go_loopg [0, 8] l.length (fun g s0 s8 wr => ∃ (l1 : List UInt8) (pos : Nat), s0 = S l1 ∧ s8 = .bool false ∧ pos ≤ n ∧ g = l1.length ∧ Below w.heap.size w wr ∧ Hid (l1 = l.drop pos ∧ Clear l1 (n - pos)))
  case atStart => exact ⟨l, 0, rfl, rfl, by omega, rfl, Below.refl _ _, Lib.hid ⟨rfl, HC.out⟩⟩
  case round =>
    obtain ⟨l1, pos, rfl, rfl, hpn, hg, hB, H⟩ := hrel
    have Hg := Lib.hid hg
    have HB := Lib.hid hB
    clear hg hB
    obtain ⟨l2, hl2⟩ : ∃ l2, l2 = l1.drop (wrun l1) := ⟨_, rfl⟩
    have htr := trimWs_at H.out.2
    rw [← hl2] at htr
    have hlen : l2.length ≤ 1048576 := by
      have := H.out.1
      rw [hl2, this, List.length_drop, List.length_drop]; omega
    have hps : passM false l2 false = (n - pos - wrun l1, false) := by
      have e := H.out.2.pass
      rw [passM_wrun, ← hl2] at e
      injection e with e1 e2
      exact Prod.ext (by simp only; omega) e2
    have hwn : wrun l1 ≤ n - pos := by
      have e := H.out.2.pass
      rw [passM_wrun] at e
      injection e with e1 e2
      omega
    have hdr : l2 = l.drop (pos + wrun l1) := by
      have e := H.out.1
      rw [hl2]
      generalize wrun l1 = k
      rw [e, List.drop_drop]
    have hl1n : l1.length = l2.length + wrun l1 := by
      have := wrun_le l1
      rw [hl2, List.length_drop]; omega
    have hln : (n - pos - wrun l1 = 0 → l2 = l.drop n) := fun e => by rw [hdr]; congr 1; omega
    have Hps := Lib.hid hps
    have Hdr := Lib.hid hdr
    have Hl1n := Lib.hid hl1n
    have Hln := Lib.hid hln
    have Hhd := Lib.hid (show ∀ h : 0 < l2.length, whiteB (l2[0]'h) = false from fun h => by
      have h' : wrun l1 < l1.length := by omega
      have e := wrun_stop l1 h'
      have : l2[0]'h = l1[wrun l1]'h' := by simp [hl2]
      rw [this]; exact e)
    clear hl2 hps hdr hl1n hln
    have stay : ∀ W, Below wr.heap.size wr W → (∀ h : 0 < l2.length, (l2[0]'h).toNat ≠ 37 ∨ l2.length = 1) → TrimPost l n w (.returned (.tuple #[S l2, .bool false])) W := fun W hW h37 => by
      refine ⟨⟨l2, rfl, ?_⟩, HB.out.trans (hW.mono HB.out.size)⟩
      have hp := Hps.out
      rcases hx : l2 with _ | ⟨b, l3⟩
      · rw [hx] at hp
        left
        rw [← hx]
        exact Hln.out (by rw [passM] at hp; injection hp with h1 h2; omega)
      · have hb := Hhd.out (by rw [hx]; simp)
        have h3 := h37 (by rw [hx]; simp)
        simp only [hx, List.getElem_cons_zero] at hb h3
        rw [hx] at hp
        by_cases h4 : b.toNat = 37
        · rcases h3 with h3 | h3
          · exact absurd h4 h3
          · have hl3 : l3 = [] := List.eq_nil_of_length_eq_zero (by simpa using h3)
            subst hl3
            right
            have e1 : passM false [b] false = (1, false) := by rw [passM_open h4, passM_in (by omega) (by omega)]; simp [passM, plainB, h4]
            rw [e1] at hp
            have hd := Hdr.out
            have hll : l2.length = l.length - (pos + wrun l1) := by rw [hd, List.length_drop]
            rw [hx] at hll
            simp at hll
            refine ⟨by injection hp with h1 h2; omega, ?_⟩
            rw [show b = 37 from UInt8.toNat_inj.1 h4]
        · left
          rw [← hx]
          exact Hln.out (by rw [passM_stop hb h4] at hp; injection hp with h1 h2; omega)
    have Hst := Lib.hid stay
    clear stay
    by_cases hL : l2.length ≤ 1
    · have tL : decide ((l2.length : Int) ≤ 1) = true := by rw [decide_eq_true_eq]; omega
      go_wp2_with (first | (go_at_call 112; refine (trimWs_any l1 _).mono ?_; rintro e W ⟨rfl, hW⟩; rw [htr]))
      refine bodyPost_ret (v := .tuple #[S l2, .bool false]) (by simp [results, Tryz.results97, go_sem]) rfl ?_
      exact Hst.out _ hW (fun h => .inr (by omega))
    · have tL : decide ((l2.length : Int) ≤ 1) = false := by rw [decide_eq_false_iff_not]; omega
      have h0 : 0 < l2.length := by omega
      by_cases h37 : (l2[0]'h0).toNat = 37
      · have t1 : ((((l2[0]'h0).toNat : Nat) : Int) == 37) = true := by rw [beq_iff_eq]; omega
        have t2 : ((((l2[0]'h0).toNat : Nat) : Int) != 37) = false := by rw [bne_eq_false_iff_eq]; omega
        have hcm : (passM true l2 false).2 = false := by
          have hp := Hps.out
          rcases hx : l2 with _ | ⟨b, l3⟩
          · rfl
          · rw [hx] at hp
            have hb : b.toNat = 37 := by simpa [hx] using h37
            rw [passM_open hb] at hp
            rw [hp]
        obtain ⟨hce, hpe⟩ := passM_com l2 hcm
        obtain ⟨q, hq⟩ : ∃ q : Int, eolRet l2 = .tuple #[S (l2.drop (eolM l2)), .int .i64 q] := ⟨_, rfl⟩
        have Hq := Lib.hid hq
        clear hq
        have Hce := Lib.hid hce
        clear hce
        have Hpe := Lib.hid hpe
        have H37 := Lib.hid h37
        clear hpe hcm h37
        go_wp2_with (first | (go_at_call 112; refine (trimWs_any l1 _).mono ?_; rintro e W ⟨rfl, hW⟩; rw [htr]) | (go_at_call 113; refine (eol_any l2 _ hlen Hce.out).mono ?_; rintro e W2 ⟨rfl, hW2⟩; rw [Hq.out]))
        go_roundg (l2.drop (eolM l2)).length
        case measure =>
          have h1 := Hg.out
          have h2 := Hl1n.out
          have h3 : 1 ≤ eolM l2 := by
            rcases hx : l2 with _ | ⟨b, l3⟩
            · rw [hx] at h0; simp at h0
            · have h4 := H37.out
              have hb : b.toNat = 37 := by simpa [hx] using h4
              rw [eolM_go (by unfold eolB; rw [decide_eq_false_iff_not]; omega)]; omega
          rw [List.length_drop]; omega
        case rel =>
          have hp := Hps.out
          have hpo : passM true l2 false = (n - pos - wrun l1, false) := by
            rcases hx : l2 with _ | ⟨b, l3⟩
            · rw [hx] at h0; simp at h0
            · have h4 := H37.out
              have hb : b.toNat = 37 := by simpa [hx] using h4
              rw [← passM_open hb, ← hx]; exact hp
          have he := Hpe.out
          rw [hpo] at he
          injection he with he1 he2
          have hd := Hdr.out
          have hle := eolM_le l2
          refine ⟨_, pos + wrun l1 + eolM l2, rfl, rfl, by omega, rfl, HB.out.trans ((hW.trans (hW2.mono hW.size)).mono HB.out.size), Lib.hid ⟨?_, ?_, ?_⟩⟩
          · generalize eolM l2 = k
            rw [hd, List.drop_drop]
          · exact Prod.ext (by simp only; omega) he2.symm
          · intro hh
            have e := H.out.2.stop (by rw [Hl1n.out]; rw [List.length_drop] at hh; omega)
            have hx : (l2.drop (eolM l2))[n - (pos + wrun l1 + eolM l2)]'hh = l.get ⟨n, by have h5 := congrArg List.length hd; rw [List.length_drop] at h5 hh; omega⟩ := by
              have h6 : (l2.drop (eolM l2)) = l.drop (pos + wrun l1 + eolM l2) := by
                generalize eolM l2 = k
                rw [hd, List.drop_drop]
              simp only [h6, List.getElem_drop, List.get_eq_getElem]
              congr 1
              omega
            have hy : l1[n - pos]'(by rw [Hl1n.out]; rw [List.length_drop] at hh; omega) = l.get ⟨n, by have h5 := congrArg List.length hd; rw [List.length_drop] at h5 hh; omega⟩ := by
              have h6 := H.out.1
              simp only [h6, List.getElem_drop, List.get_eq_getElem]
              congr 1
              omega
            rw [hx, ← hy]
            exact e
      · have t1 : ((((l2[0]'h0).toNat : Nat) : Int) == 37) = false := by rw [beq_eq_false_iff_ne]; omega
        have t2 : ((((l2[0]'h0).toNat : Nat) : Int) != 37) = true := by rw [bne_iff_ne]; omega
        have H37 := Lib.hid h37
        clear h37
        go_wp2_with (first | (go_at_call 112; refine (trimWs_any l1 _).mono ?_; rintro e W ⟨rfl, hW⟩; rw [htr]))
        refine bodyPost_ret (v := .tuple #[S l2, .bool false]) (by simp [results, Tryz.results97, go_sem]) rfl ?_
        exact Hst.out _ hW (fun h => .inl H37.out)
end Go.Proofs.YtcpijmbdibgdmaaGreatDoor
