/-
  package model: where a word ends, where a line ends (loops over a string's runes; the text is ASCII up to there).
  spec.reader.escape: what stands behind a reverse solidus.
  spec.reader.literal: a literal string.
-/
import Derived.Test.YtcpijmbdibgdmaaGreatDoorMe03
import Derived.Test.YtcpijmbdibgdmaaGreatDoorMe01
import Derived.Lib.OthersKept
set_option linter.all false
namespace Go.Proofs.YtcpijmbdibgdmaaGreatDoor
open Go.RowKit
attribute [local go_sem] ba_get store_flt

/-- The characters at which a word ends. -/
def stopB (C : List UInt8) (b : UInt8) : Bool := decide (b.toNat < 128) && (C.any (fun c => b == c) || wsR b.toNat)
def nextM (C : List UInt8) : List UInt8 → Nat
  | [] => 0
  | b :: l => if stopB C b = true then 0 else nextM C l + 1
theorem nextM_le (C : List UInt8) : ∀ l, nextM C l ≤ l.length
  | [] => Nat.le_refl _
  | b :: l => by rw [nextM]; split <;> simp; exact nextM_le C l
theorem nextM_go {C : List UInt8} {b : UInt8} {l : List UInt8} (h : stopB C b = false) : nextM C (b :: l) = nextM C l + 1 := by rw [nextM, if_neg (by simp [h])]
theorem nextM_stop {C : List UInt8} {b : UInt8} {l : List UInt8} (h : stopB C b = true) : nextM C (b :: l) = 0 := by rw [nextM, if_pos h]
/-- All is ASCII up to where the word ends. -/
def cleanM (C : List UInt8) : List UInt8 → Prop
  | [] => True
  | b :: l => b.toNat < 128 ∧ (stopB C b = false → cleanM C l)
def nextRet (C s : List UInt8) : Value := .tuple #[.int .i64 (if nextM C s < s.length then (nextM C s : Int) else -1), S (if nextM C s < s.length then s.drop (nextM C s) else s)]

set_option maxHeartbeats 4000000 in
set_option maxRecDepth 100000 in
theorem next_any (C s : List UInt8) (w : World) (hs : s.length ≤ 1048576) (hC0 : 0 < C.length) (hC1 : C.length ≤ 1000) (hCa : ∀ c ∈ C, c.toNat < 128) (hcl : cleanM C s) :
    Calls Tryz.prog 139 #[S s, S C] w fun e w' => e = .returned (nextRet C s) ∧ Below w.heap.size w w' := by
  have tC : ((C.length : Int) == 0) = false := by rw [beq_eq_false_iff_ne]; omega
  go_enter Tryz.func139, Tryz.ntmps139
  go_wp2_with fail
  go_loopg [] s.length (fun g wr => ∃ pos : Nat, wr.heap[w.heap.size]? = some (.stringIter ⟨s.toArray⟩ pos) ∧ Below w.heap.size w wr ∧ pos + g = s.length ∧ cleanM C (s.drop pos) ∧ pos + nextM C (s.drop pos) = nextM C s)
  case atStart => exact ⟨0, World.iter_heap w _ 0, (Below.refl _ w).alloc (Nat.le_refl _) _, by omega, hcl, by simp⟩
  case round =>
    obtain ⟨pos, hit, hbw, hg, hcl, hn⟩ := hrel
    have Hg := Lib.hid hg
    clear hg
    by_cases hp : pos < s.length
    · have e1 : s.drop pos = s[pos] :: s.drop (pos + 1) := List.drop_eq_getElem_cons hp
      rw [e1] at hcl hn
      obtain ⟨hasc, hcl⟩ := hcl
      have hsz : w.heap.size < wr.heap.size := (Array.getElem?_eq_some_iff.1 hit).1
      have hnx : ∀ ty, (Instr.next (.pointer (some ⟨w.heap.size, 0, none⟩)) true ty).run Tryz.prog wr = _ := fun ty => Lib.run_next_ascii_at wr w.heap.size ⟨s.toArray⟩ pos ty hit hp hasc
      have hit2 := Lib.iterAt_heap wr w.heap.size ⟨s.toArray⟩ pos (pos + 1) hit
      have hbw2 := Lib.below_iterAt hbw (k := w.heap.size) (Nat.le_refl _) ⟨s.toArray⟩ (pos + 1)
      have hsz2 := Lib.iterAt_size wr w.heap.size ⟨s.toArray⟩ (pos + 1)
      obtain ⟨W, hWd⟩ : ∃ W, wr.iterAt w.heap.size ⟨s.toArray⟩ (pos + 1) = W := ⟨_, rfl⟩
      rw [hWd] at hnx hit2 hbw2 hsz2
      have hnx2 : ∀ ty, (Instr.next (.pointer (some ⟨w.heap.size, 0, none⟩)) true ty).run Tryz.prog wr = .ok (.tuple #[.bool true, .int .i64 pos, .int .i32 (s[pos].toNat : Nat)]) W := hnx
      clear hnx hWd
      have Hn := Lib.hid hn
      have Hcl := Lib.hid hcl
      clear hn hcl
      have Hsz2 := Lib.hid hsz2
      clear hsz2
      go_wp2_with fail
      go_loopg [] C.length (fun g wy => ∃ j : Nat, wy.heap[W.heap.size]? = some (.stringIter ⟨C.toArray⟩ j) ∧ Below W.heap.size W wy ∧ j + g = C.length ∧ ((C.take j).any fun c => s[pos] == c) = false ∧ (0 < j → wsR s[pos].toNat = false))
      case atStart => exact ⟨0, World.iter_heap W _ 0, (Below.refl _ W).alloc (Nat.le_refl _) _, by omega, rfl, by omega⟩
      case round =>
        obtain ⟨j, hjt, hbj, hgj, hno, hws⟩ := hrel
        have Hgj := Lib.hid hgj
        have Hno := Lib.hid hno
        have Hws := Lib.hid hws
        clear hgj hno hws
        by_cases hj : j < C.length
        · have hcj : (C[j]).toNat < 128 := hCa _ (List.getElem_mem hj)
          have hny : ∀ ty, (Instr.next (.pointer (some ⟨W.heap.size, 0, none⟩)) true ty).run Tryz.prog wr = _ := fun ty => Lib.run_next_ascii_at wr W.heap.size ⟨C.toArray⟩ j ty hjt hj hcj
          have hjt2 := Lib.iterAt_heap wr W.heap.size ⟨C.toArray⟩ j (j + 1) hjt
          have hbj2 := Lib.below_iterAt hbj (k := W.heap.size) (Nat.le_refl _) ⟨C.toArray⟩ (j + 1)
          obtain ⟨Y, hYd⟩ : ∃ Y, wr.iterAt W.heap.size ⟨C.toArray⟩ (j + 1) = Y := ⟨_, rfl⟩
          rw [hYd] at hny hjt2 hbj2
          have hny2 : ∀ ty, (Instr.next (.pointer (some ⟨W.heap.size, 0, none⟩)) true ty).run Tryz.prog wr = .ok (.tuple #[.bool true, .int .i64 j, .int .i32 (C[j].toNat : Nat)]) Y := hny
          clear hny hYd
          have eC : C.drop j = C[j] :: C.drop (j + 1) := List.drop_eq_getElem_cons hj
          have hstop : stopB C s[pos] = true → nextRet C s = .tuple #[.int .i64 pos, S (s.drop pos)] := fun h => by
            have := Hn.out
            rw [nextM_stop h] at this
            have e : nextM C s = pos := by omega
            unfold nextRet
            rw [e, if_pos hp, if_pos hp]
          by_cases hcm : s[pos] = C[j]
          · have tcm : (((s[pos].toNat : Nat) : Int) == ((C[j].toNat : Nat) : Int)) = true := by rw [beq_iff_eq, hcm]
            have hst : stopB C s[pos] = true := by
              unfold stopB
              rw [Bool.and_eq_true, decide_eq_true_eq, Bool.or_eq_true]
              exact ⟨hasc, .inl (List.any_eq_true.2 ⟨C[j], List.getElem_mem hj, by rw [hcm]; simp⟩)⟩
            have Hst := Lib.hid hst
            clear hst hcm
            go_wp2_with fail
            go_quiet (fail)
            go_wp2_with fail
            refine bodyPost_ret (v := .tuple #[.int .i64 pos, .string ((ByteArray.mk s.toArray).extract pos s.length)]) (by simp [results, Tryz.results139, go_sem]) rfl ?_
            refine ⟨?_, below_drewN (hbw2.trans (hbj2.mono (by have := Hsz2.out; omega))) _⟩
            rw [hstop Hst.out, ByteArray.extract_mk, List.take_of_length_le (by rw [List.length_drop]; omega)]
          · have tcm : (((s[pos].toNat : Nat) : Int) == ((C[j].toNat : Nat) : Int)) = false := by rw [beq_eq_false_iff_ne]; intro h; exact hcm (UInt8.toNat_inj.1 (Int.ofNat.inj h))
            cases hsp : spR s[pos].toNat with
            | true =>
              have hst : stopB C s[pos] = true := by
                unfold stopB wsR
                rw [Bool.and_eq_true, decide_eq_true_eq, Bool.or_eq_true]
                exact ⟨hasc, .inr (by rw [hsp]; rfl)⟩
              have Hst := Lib.hid hst
              have Hsp := Lib.hid hsp
              clear hst hsp
              go_wp2_with (go_at_call 110; refine (isSpace_any s[pos].toNat _).mono ?_; rintro e w' ⟨rfl, rfl⟩; simp only [Hsp.out])
              go_quiet (fail)
              go_wp2_with fail
              refine bodyPost_ret (v := .tuple #[.int .i64 pos, .string ((ByteArray.mk s.toArray).extract pos s.length)]) (by simp [results, Tryz.results139, go_sem]) rfl ?_
              refine ⟨?_, below_drewN (hbw2.trans (hbj2.mono (by have := Hsz2.out; omega))) _⟩
              rw [hstop Hst.out, ByteArray.extract_mk, List.take_of_length_le (by rw [List.length_drop]; omega)]
            | false =>
              by_cases h0 : s[pos].toNat = 0
              · have t0 : (((s[pos].toNat : Nat) : Int) == 0) = true := by rw [beq_iff_eq]; omega
                have hst : stopB C s[pos] = true := by
                  unfold stopB wsR
                  rw [Bool.and_eq_true, decide_eq_true_eq, Bool.or_eq_true]
                  exact ⟨hasc, .inr (by rw [h0]; rfl)⟩
                have Hst := Lib.hid hst
                have Hsp := Lib.hid hsp
                clear hst hsp h0
                go_wp2_with (go_at_call 110; refine (isSpace_any s[pos].toNat _).mono ?_; rintro e w' ⟨rfl, rfl⟩; simp only [Hsp.out])
                go_quiet (fail)
                go_wp2_with fail
                refine bodyPost_ret (v := .tuple #[.int .i64 pos, .string ((ByteArray.mk s.toArray).extract pos s.length)]) (by simp [results, Tryz.results139, go_sem]) rfl ?_
                refine ⟨?_, below_drewN (hbw2.trans (hbj2.mono (by have := Hsz2.out; omega))) _⟩
                rw [hstop Hst.out, ByteArray.extract_mk, List.take_of_length_le (by rw [List.length_drop]; omega)]
              · have t0 : (((s[pos].toNat : Nat) : Int) == 0) = false := by rw [beq_eq_false_iff_ne]; omega
                have hwf : wsR s[pos].toNat = false := by unfold wsR; rw [hsp]; simp [h0]
                have Hwf := Lib.hid hwf
                have Hsp := Lib.hid hsp
                have Hcm := Lib.hid hcm
                clear hwf hsp hcm h0
                go_wp2_with (go_at_call 110; refine (isSpace_any s[pos].toNat _).mono ?_; rintro e w' ⟨rfl, rfl⟩; simp only [Hsp.out])
                go_roundg (C.length - (j + 1))
                case measure => have := Hgj.out; omega
                case rel =>
                  refine ⟨j + 1, hjt2, hbj2, by omega, ?_, fun _ => Hwf.out⟩
                  rw [List.take_succ_eq_append_getElem hj, List.any_append, Hno.out]
                  simp [Hcm.out]
        · have hny : ∀ ty, (Instr.next (.pointer (some ⟨W.heap.size, 0, none⟩)) true ty).run Tryz.prog wr = _ := fun ty => Lib.run_next_end_at wr W.heap.size ⟨C.toArray⟩ j ty hjt hj
          have hnst : stopB C s[pos] = false := by
            have h1 := Hno.out
            have h2 := Hws.out (by have := Hgj.out; omega)
            rw [List.take_of_length_le (by omega)] at h1
            unfold stopB
            rw [h1, h2]
            simp
          have Hns := Lib.hid hnst
          clear hnst
          go_wp2_with fail
          go_roundg (s.length - (pos + 1))
          case measure => have := Hg.out; omega
          case rel =>
            have hx := Hn.out
            rw [nextM_go Hns.out] at hx
            exact ⟨pos + 1, (hbj.block _ (by have := Hsz2.out; omega)).trans hit2, hbw2.trans (hbj.mono (by have := Hsz2.out; omega)), by omega, Hcl.out Hns.out, by omega⟩
    · have hnx : ∀ ty, (Instr.next (.pointer (some ⟨w.heap.size, 0, none⟩)) true ty).run Tryz.prog wr = _ := fun ty => Lib.run_next_end_at wr w.heap.size ⟨s.toArray⟩ pos ty hit hp
      have hn0 : nextM C s = s.length := by
        rw [List.drop_eq_nil_of_le (by omega), nextM] at hn
        have := nextM_le C s
        have := Hg.out
        omega
      go_wp2_with fail
      refine bodyPost_ret (v := .tuple #[.int .i64 (-1), S s]) (by simp [results, Tryz.results139, go_sem]) rfl ?_
      refine ⟨?_, hbw⟩
      simp [nextRet, hn0]
end Go.Proofs.YtcpijmbdibgdmaaGreatDoor

namespace Go.Proofs.YtcpijmbdibgdmaaGreatDoor
open Go.RowKit
attribute [local go_sem] ba_get

/-- Octal digits, so many at most: the number, and how many there are. -/
def octM : Nat → List UInt8 → Nat → Nat × Nat
  | 0, _, o => (o, 0)
  | _ + 1, [], o => (o, 0)
  | n + 1, b :: l, o => if 48 ≤ b.toNat ∧ b.toNat ≤ 55 then ((octM n l (8 * o + (b.toNat - 48))).1, (octM n l (8 * o + (b.toNat - 48))).2 + 1) else (o, 0)

/-- What stands behind a reverse solidus: the byte, whether there is one, and how much of the text it takes. -/
def escF : List UInt8 → UInt8 × Bool × Nat
  | [] => (0, false, 0)
  | b :: l =>
    if b.toNat = 110 then (10, true, 1) else if b.toNat = 114 then (13, true, 1) else if b.toNat = 116 then (9, true, 1) else if b.toNat = 98 then (8, true, 1) else if b.toNat = 102 then (12, true, 1)
    else if b.toNat = 10 then (0, false, 1) else if b.toNat = 13 then (0, false, if (l.head?.map UInt8.toNat) = some 10 then 2 else 1)
    else if b.toNat < 48 ∨ 55 < b.toNat then (b, true, 1)
    else (UInt8.ofNat (octM 2 l (b.toNat - 48)).1, true, (octM 2 l (b.toNat - 48)).2 + 1)

theorem escF_cons (b : UInt8) (l : List UInt8) : escF (b :: l) =
    if b.toNat = 110 then (10, true, 1) else if b.toNat = 114 then (13, true, 1) else if b.toNat = 116 then (9, true, 1) else if b.toNat = 98 then (8, true, 1) else if b.toNat = 102 then (12, true, 1)
    else if b.toNat = 10 then (0, false, 1) else if b.toNat = 13 then (0, false, if (l.head?.map UInt8.toNat) = some 10 then 2 else 1)
    else if b.toNat < 48 ∨ 55 < b.toNat then (b, true, 1)
    else (UInt8.ofNat (octM 2 l (b.toNat - 48)).1, true, (octM 2 l (b.toNat - 48)).2 + 1) := rfl

theorem escF_110 {b : UInt8} {l : List UInt8} (h : b.toNat = 110) : escF (b :: l) = (10, true, 1) := by rw [escF_cons]; simp [h]
theorem escF_114 {b : UInt8} {l : List UInt8} (h : b.toNat = 114) : escF (b :: l) = (13, true, 1) := by rw [escF_cons]; simp [h]
theorem escF_116 {b : UInt8} {l : List UInt8} (h : b.toNat = 116) : escF (b :: l) = (9, true, 1) := by rw [escF_cons]; simp [h]
theorem escF_98 {b : UInt8} {l : List UInt8} (h : b.toNat = 98) : escF (b :: l) = (8, true, 1) := by rw [escF_cons]; simp [h]
theorem escF_102 {b : UInt8} {l : List UInt8} (h : b.toNat = 102) : escF (b :: l) = (12, true, 1) := by rw [escF_cons]; simp [h]
theorem escF_10 {b : UInt8} {l : List UInt8} (h : b.toNat = 10) : escF (b :: l) = (0, false, 1) := by rw [escF_cons]; simp [h]
theorem escF_13 {b : UInt8} {l : List UInt8} (h : b.toNat = 13) : escF (b :: l) = (0, false, if (l.head?.map UInt8.toNat) = some 10 then 2 else 1) := by rw [escF_cons]; simp [h]
theorem escF_else {b : UInt8} {l : List UInt8} (h0 : b.toNat ≠ 110) (h1 : b.toNat ≠ 114) (h2 : b.toNat ≠ 116) (h3 : b.toNat ≠ 98) (h4 : b.toNat ≠ 102) (h5 : b.toNat ≠ 10) (h6 : b.toNat ≠ 13) (h : b.toNat < 48 ∨ 55 < b.toNat) : escF (b :: l) = (b, true, 1) := by
  rw [escF_cons, if_neg h0, if_neg h1, if_neg h2, if_neg h3, if_neg h4, if_neg h5, if_neg h6, if_pos h]
theorem escF_oct {b : UInt8} {l : List UInt8} (h : 48 ≤ b.toNat) (h' : b.toNat ≤ 55) : escF (b :: l) = (UInt8.ofNat (octM 2 l (b.toNat - 48)).1, true, (octM 2 l (b.toNat - 48)).2 + 1) := by
  rw [escF_cons, if_neg (by omega), if_neg (by omega), if_neg (by omega), if_neg (by omega), if_neg (by omega), if_neg (by omega), if_neg (by omega), if_neg (by omega)]

theorem and255 (a : Nat) (h : a < 512) : (bits .and .i64 (a : Int) 255) % 256 = ((UInt8.ofNat a).toNat : Int) := by
  have H : ∀ a : Fin 512, (bits .and .i64 (a.val : Int) 255) % 256 = ((UInt8.ofNat a.val).toNat : Int) := by decide +kernel
  exact H ⟨a, h⟩

set_option maxHeartbeats 4000000 in
set_option maxRecDepth 100000 in
theorem escape_any (r : Nat) (s : List UInt8) (k bad deep : Nat) (odd ends : Bool) (w : World) (hk : k ≤ s.length) (hs : s.length ≤ 1048576) (hR : Rd w r s k bad deep odd ends) :
    Calls Tryz.prog 72 #[.pointer (some ⟨r, 0, none⟩)] w fun e w' => e = .returned (.tuple #[.int .u8 (escF (s.drop k)).1.toNat, .bool (escF (s.drop k)).2.1]) ∧
      Rd w' r s (k + (escF (s.drop k)).2.2) bad deep odd ends ∧ Only w w' r := by
  have hO := only_refl w r
  obtain ⟨c0, c1, c2, c3, c4, c5⟩ := hR.cs
  obtain ⟨f1, f2, f3, f4, f5⟩ := hR.fs
  by_cases hlt : k < s.length
  · by_cases h110 : s[k].toNat = 110
    · have t110 : ((s[k].toNat : Int) == 110) = true := by rw [beq_iff_eq]; omega
      have E := Lib.hid (show escF (s.drop k) = (10, true, 1) by rw [drop_at hlt]; exact escF_110 h110)
      go_enter Tryz.func72, Tryz.ntmps72
      go_wp2_with fail
      go_quiet (fail)
      go_wp2_with fail
      go_quiet (fail)
      go_wp2_with fail
      go_ret2
      rw [E.out]
      exact ⟨rfl, hR.at_ (k + 1) rfl, (by repeat first | exact hO | refine only_drewN ?_ _ | refine only_set ?_ _ _ | refine only_drew ?_)⟩
    have t110 : ((s[k].toNat : Int) == 110) = false := by rw [beq_eq_false_iff_ne]; omega
    by_cases h114 : s[k].toNat = 114
    · have t114 : ((s[k].toNat : Int) == 114) = true := by rw [beq_iff_eq]; omega
      have E := Lib.hid (show escF (s.drop k) = (13, true, 1) by rw [drop_at hlt]; exact escF_114 h114)
      go_enter Tryz.func72, Tryz.ntmps72
      go_wp2_with fail
      go_quiet (fail)
      go_wp2_with fail
      go_quiet (fail)
      go_wp2_with fail
      go_ret2
      rw [E.out]
      exact ⟨rfl, hR.at_ (k + 1) rfl, (by repeat first | exact hO | refine only_drewN ?_ _ | refine only_set ?_ _ _ | refine only_drew ?_)⟩
    have t114 : ((s[k].toNat : Int) == 114) = false := by rw [beq_eq_false_iff_ne]; omega
    by_cases h116 : s[k].toNat = 116
    · have t116 : ((s[k].toNat : Int) == 116) = true := by rw [beq_iff_eq]; omega
      have E := Lib.hid (show escF (s.drop k) = (9, true, 1) by rw [drop_at hlt]; exact escF_116 h116)
      go_enter Tryz.func72, Tryz.ntmps72
      go_wp2_with fail
      go_quiet (fail)
      go_wp2_with fail
      go_quiet (fail)
      go_wp2_with fail
      go_ret2
      rw [E.out]
      exact ⟨rfl, hR.at_ (k + 1) rfl, (by repeat first | exact hO | refine only_drewN ?_ _ | refine only_set ?_ _ _ | refine only_drew ?_)⟩
    have t116 : ((s[k].toNat : Int) == 116) = false := by rw [beq_eq_false_iff_ne]; omega
    by_cases h98 : s[k].toNat = 98
    · have t98 : ((s[k].toNat : Int) == 98) = true := by rw [beq_iff_eq]; omega
      have E := Lib.hid (show escF (s.drop k) = (8, true, 1) by rw [drop_at hlt]; exact escF_98 h98)
      go_enter Tryz.func72, Tryz.ntmps72
      go_wp2_with fail
      go_quiet (fail)
      go_wp2_with fail
      go_quiet (fail)
      go_wp2_with fail
      go_ret2
      rw [E.out]
      exact ⟨rfl, hR.at_ (k + 1) rfl, (by repeat first | exact hO | refine only_drewN ?_ _ | refine only_set ?_ _ _ | refine only_drew ?_)⟩
    have t98 : ((s[k].toNat : Int) == 98) = false := by rw [beq_eq_false_iff_ne]; omega
    by_cases h102 : s[k].toNat = 102
    · have t102 : ((s[k].toNat : Int) == 102) = true := by rw [beq_iff_eq]; omega
      have E := Lib.hid (show escF (s.drop k) = (12, true, 1) by rw [drop_at hlt]; exact escF_102 h102)
      go_enter Tryz.func72, Tryz.ntmps72
      go_wp2_with fail
      go_quiet (fail)
      go_wp2_with fail
      go_quiet (fail)
      go_wp2_with fail
      go_ret2
      rw [E.out]
      exact ⟨rfl, hR.at_ (k + 1) rfl, (by repeat first | exact hO | refine only_drewN ?_ _ | refine only_set ?_ _ _ | refine only_drew ?_)⟩
    have t102 : ((s[k].toNat : Int) == 102) = false := by rw [beq_eq_false_iff_ne]; omega
    by_cases h10 : s[k].toNat = 10
    · have t10 : ((s[k].toNat : Int) == 10) = true := by rw [beq_iff_eq]; omega
      have E := Lib.hid (show escF (s.drop k) = (0, false, 1) by rw [drop_at hlt]; exact escF_10 h10)
      go_enter Tryz.func72, Tryz.ntmps72
      go_wp2_with fail
      go_quiet (fail)
      go_wp2_with fail
      go_quiet (fail)
      go_wp2_with fail
      go_ret2
      rw [E.out]
      exact ⟨rfl, hR.at_ (k + 1) rfl, (by repeat first | exact hO | refine only_drewN ?_ _ | refine only_set ?_ _ _ | refine only_drew ?_)⟩
    have t10 : ((s[k].toNat : Int) == 10) = false := by rw [beq_eq_false_iff_ne]; omega
    obtain ⟨m, hm⟩ : ∃ m, m = k + 1 := ⟨_, rfl⟩
    have Hm := Lib.hid hm
    have hm1 : k < m := by omega
    have hm2 : m ≤ s.length := by omega
    by_cases h13 : s[k].toNat = 13
    · have t13 : ((s[k].toNat : Int) == 13) = true := by rw [beq_iff_eq]; omega
      by_cases hl2 : m < s.length
      · by_cases q10 : s[m].toNat = 10
        · have q10' : ((s[m].toNat : Int) == 10) = true := by rw [beq_iff_eq]; omega
          have E := Lib.hid (show escF (s.drop k) = (0, false, 2) by rw [drop_at hlt, escF_13 h13, ← hm]; rw [drop_at hl2]; simp [List.getElem?_eq_getElem hl2, q10])
          clear hm
          go_enter Tryz.func72, Tryz.ntmps72
          go_wp2_with fail
          go_quiet (fail)
          go_wp2_with fail
          go_quiet (fail)
          go_wp2_with fail
          refine wp_gen (fun wo => Rd wo r s m bad deep odd ends ∧ Only w wo r) ⟨hR.at_ m (by rw [Hm.out]; rfl), (by repeat first | exact hO | refine only_drewN ?_ _ | refine only_set ?_ _ _ | refine only_drew ?_)⟩ ?_
          rintro w2 ⟨hR2, hO2⟩
          clear c0 c1 c2 c3 c4 c5 f1 f2 f3 f4 f5 hR hO 
          have hR := hR2
          have hO := hO2
          clear hR2 hO2
          obtain ⟨c0, c1, c2, c3, c4, c5⟩ := hR.cs
          obtain ⟨f1, f2, f3, f4, f5⟩ := hR.fs
          go_quiet (fail)
          go_wp2_with fail
          go_ret2
          rw [E.out]
          exact ⟨rfl, hR.at_ (k + 2) (by rw [Hm.out]; rfl), (by repeat first | exact hO | refine only_drewN ?_ _ | refine only_set ?_ _ _ | refine only_drew ?_)⟩
        · have q10' : ((s[m].toNat : Int) == 10) = false := by rw [beq_eq_false_iff_ne]; omega
          have E := Lib.hid (show escF (s.drop k) = (0, false, 1) by rw [drop_at hlt, escF_13 h13, ← hm]; rw [drop_at hl2]; simp [List.getElem?_eq_getElem hl2, q10])
          clear hm
          go_enter Tryz.func72, Tryz.ntmps72
          go_wp2_with fail
          go_quiet (fail)
          go_wp2_with fail
          go_quiet (fail)
          go_wp2_with fail
          refine wp_gen (fun wo => Rd wo r s m bad deep odd ends ∧ Only w wo r) ⟨hR.at_ m (by rw [Hm.out]; rfl), (by repeat first | exact hO | refine only_drewN ?_ _ | refine only_set ?_ _ _ | refine only_drew ?_)⟩ ?_
          rintro w2 ⟨hR2, hO2⟩
          clear c0 c1 c2 c3 c4 c5 f1 f2 f3 f4 f5 hR hO 
          have hR := hR2
          have hO := hO2
          clear hR2 hO2
          obtain ⟨c0, c1, c2, c3, c4, c5⟩ := hR.cs
          obtain ⟨f1, f2, f3, f4, f5⟩ := hR.fs
          go_quiet (fail)
          go_wp2_with fail
          go_ret2
          rw [E.out]
          exact ⟨rfl, by rw [← Hm.out]; exact hR, (by repeat first | exact hO | refine only_drewN ?_ _ | refine only_set ?_ _ _ | refine only_drew ?_)⟩
      · have hl3 : s.length ≤ m := by omega
        have E := Lib.hid (show escF (s.drop k) = (0, false, 1) by rw [drop_at hlt, escF_13 h13, ← hm]; rw [List.drop_eq_nil_of_le hl3]; simp)
        clear hm
        go_enter Tryz.func72, Tryz.ntmps72
        go_wp2_with fail
        go_quiet (fail)
        go_wp2_with fail
        go_quiet (fail)
        go_wp2_with fail
        refine wp_gen (fun wo => Rd wo r s m bad deep odd ends ∧ Only w wo r) ⟨hR.at_ m (by rw [Hm.out]; rfl), (by repeat first | exact hO | refine only_drewN ?_ _ | refine only_set ?_ _ _ | refine only_drew ?_)⟩ ?_
        rintro w2 ⟨hR2, hO2⟩
        clear c0 c1 c2 c3 c4 c5 f1 f2 f3 f4 f5 hR hO 
        have hR := hR2
        have hO := hO2
        clear hR2 hO2
        obtain ⟨c0, c1, c2, c3, c4, c5⟩ := hR.cs
        obtain ⟨f1, f2, f3, f4, f5⟩ := hR.fs
        go_quiet (fail)
        go_wp2_with fail
        go_ret2
        rw [E.out]
        exact ⟨rfl, by rw [← Hm.out]; exact hR, (by repeat first | exact hO | refine only_drewN ?_ _ | refine only_set ?_ _ _ | refine only_drew ?_)⟩
    have t13 : ((s[k].toNat : Int) == 13) = false := by rw [beq_eq_false_iff_ne]; omega
    by_cases hlo : s[k].toNat < 48
    · have E := Lib.hid (show escF (s.drop k) = (s[k], true, 1) by rw [drop_at hlt]; exact escF_else h110 h114 h116 h98 h102 h10 h13 (.inl hlo))
      have hd : decide ((s[k].toNat : Int) < 48) = true := by rw [decide_eq_true_eq]; omega
      go_enter Tryz.func72, Tryz.ntmps72
      go_wp2_with fail
      go_quiet (fail)
      go_wp2_with fail
      go_quiet (fail)
      go_wp2_with fail
      go_ret2
      rw [E.out]
      exact ⟨rfl, hR.at_ (k + 1) rfl, (by repeat first | exact hO | refine only_drewN ?_ _ | refine only_set ?_ _ _ | refine only_drew ?_)⟩
    by_cases hhi : 55 < s[k].toNat
    · have E := Lib.hid (show escF (s.drop k) = (s[k], true, 1) by rw [drop_at hlt]; exact escF_else h110 h114 h116 h98 h102 h10 h13 (.inr hhi))
      have hd : decide ((s[k].toNat : Int) < 48) = false := by rw [decide_eq_false_iff_not]; omega
      go_enter Tryz.func72, Tryz.ntmps72
      go_wp2_with fail
      go_quiet (fail)
      go_wp2_with fail
      go_quiet (fail)
      go_wp2_with fail
      go_ret2
      rw [E.out]
      exact ⟨rfl, hR.at_ (k + 1) rfl, (by repeat first | exact hO | refine only_drewN ?_ _ | refine only_set ?_ _ _ | refine only_drew ?_)⟩
    have E := Lib.hid (show escF (s.drop k) = (UInt8.ofNat (octM 2 (s.drop (k + 1)) (s[k].toNat - 48)).1, true, (octM 2 (s.drop (k + 1)) (s[k].toNat - 48)).2 + 1) by rw [drop_at hlt]; exact escF_oct (by omega) (by omega))
    rw [← hm] at E
    clear hm
    have hd : decide ((s[k].toNat : Int) < 48) = false := by rw [decide_eq_false_iff_not]; omega
    have hc1 : 48 ≤ s[k].toNat := by omega
    have hc2 : s[k].toNat ≤ 55 := by omega
    go_enter Tryz.func72, Tryz.ntmps72
    go_wp2_with fail
    go_quiet (fail)
    go_wp2_with fail
    go_quiet (fail)
    go_wp2_with fail
    refine wp_gen (fun wo => Rd wo r s m bad deep odd ends ∧ Only w wo r) ⟨hR.at_ m (by rw [Hm.out]; rfl), (by repeat first | exact hO | refine only_drewN ?_ _ | refine only_set ?_ _ _ | refine only_drew ?_)⟩ ?_
    rintro w2 ⟨hR2, hO2⟩
    clear c0 c1 c2 c3 c4 c5 f1 f2 f3 f4 f5 hR hO 
    have hR := hR2
    have hO := hO2
    clear hR2 hO2
    obtain ⟨c0, c1, c2, c3, c4, c5⟩ := hR.cs
    obtain ⟨f1, f2, f3, f4, f5⟩ := hR.fs

    obtain ⟨fin, hfin⟩ : ∃ fin, fin = octM 2 (s.drop m) (s[k].toNat - 48) := ⟨_, rfl⟩
    rw [← hfin] at E
    have Hf := Lib.hid hfin
    clear hfin
    go_loopg [5, 6] 2 (fun g u n wr => ∃ i a q : Nat, u = .int .i64 a ∧ n = .int .i64 q ∧ (g = 2 ∧ q = 1 ∧ a < 8 ∨ g = 1 ∧ q = 2 ∧ a < 64 ∨ g = 0 ∧ q = 3 ∧ a < 512) ∧ i ≤ s.length ∧ Rd wr r s i bad deep odd ends ∧ Only w wr r ∧ (octM g (s.drop i) a).1 = fin.1 ∧ (octM g (s.drop i) a).2 + i = fin.2 + m)
    case atStart => exact ⟨m, s[k].toNat - 48, 1, by congr 1; omega, rfl, .inl ⟨rfl, rfl, by omega⟩, hm2, hR, hO, by rw [Hf.out], by rw [Hf.out]⟩
    case round =>
      obtain ⟨i, a, q, rfl, rfl, hq, hil, hR2, hO2, B⟩ := hrel
      have B := Lib.hid B
      rename_i B0
      clear B0
      have hq1 : q ≤ 3 := by omega
      have ha1 : a < 512 := by omega
      have hq := Lib.hid hq
      rename_i hq0
      clear hq0
      clear c0 c1 c2 c3 c4 c5 f1 f2 f3 f4 f5 hR hO 
      have hR := hR2
      have hO := hO2
      clear hR2 hO2
      obtain ⟨c0, c1, c2, c3, c4, c5⟩ := hR.cs
      obtain ⟨f1, f2, f3, f4, f5⟩ := hR.fs
      by_cases hlt2 : i < s.length
      · have tlt : decide ((i : Int) < (s.length : Int)) = true := by rw [decide_eq_true_eq]; omega
        by_cases hq3 : q < 3
        · have tq : decide ((q : Int) < 3) = true := by rw [decide_eq_true_eq]; omega
          obtain ⟨g, rfl⟩ : ∃ g, gk = g + 1 := ⟨gk - 1, by have := hq.out; omega⟩
          by_cases hx : 48 ≤ s[i].toNat
          · have tx : decide (48 ≤ (s[i].toNat : Int)) = true := by rw [decide_eq_true_eq]; omega
            by_cases hy : s[i].toNat ≤ 55
            · have ty : decide ((s[i].toNat : Int) ≤ 55) = true := by rw [decide_eq_true_eq]; omega
              go_wp2_with fail
              go_quiet (fail)
              go_wp2_with fail
              go_quiet (fail)
              go_wp2_with fail
              go_roundg g
              case measure => omega
              case rel =>
                have B1 := B.out
                rw [drop_at hlt2, octM, if_pos ⟨hx, hy⟩] at B1
                refine ⟨i + 1, 8 * a + (s[i].toNat - 48), q + 1, ?_, by go_num, by have := hq.out; omega, by omega, hR.at_ _ rfl, (by repeat first | exact hO | refine only_drewN ?_ _ | refine only_set ?_ _ _ | refine only_drew ?_), B1.1, ?_⟩
                · congr 1; omega
                · have := B1.2; simp only at this; omega
            · have ty : decide ((s[i].toNat : Int) ≤ 55) = false := by rw [decide_eq_false_iff_not]; omega
              go_wp2_with fail
              go_quiet (fail)
              go_wp2_with fail
              go_ret2
              have e1 : octM (g + 1) (s.drop i) a = (a, 0) := by rw [drop_at hlt2, octM, if_neg (by omega)]
              have B1 := B.out
              rw [e1] at B1
              rw [E.out]
              refine ⟨?_, ?_, (by repeat first | exact hO | refine only_drewN ?_ _ | refine only_set ?_ _ _ | refine only_drew ?_)⟩
              · refine congrArg (fun z => Ending.returned (.tuple #[.int .u8 z, .bool true])) ?_
                rw [show fin.1 = a by have := B1.1; exact this.symm]
                clear E B B1 e1
                exact and255 a ha1
              · show Rd _ r s (k + (fin.2 + 1)) bad deep odd ends
                have h1 : k + (fin.2 + 1) = i := by have := B1.2; have := Hm.out; simp only at *; omega
                rw [h1]; exact hR
          · have tx : decide (48 ≤ (s[i].toNat : Int)) = false := by rw [decide_eq_false_iff_not]; omega
            go_wp2_with fail
            go_quiet (fail)
            go_wp2_with fail
            go_ret2
            have e1 : octM (g + 1) (s.drop i) a = (a, 0) := by rw [drop_at hlt2, octM, if_neg (by omega)]
            have B1 := B.out
            rw [e1] at B1
            rw [E.out]
            refine ⟨?_, ?_, (by repeat first | exact hO | refine only_drewN ?_ _ | refine only_set ?_ _ _ | refine only_drew ?_)⟩
            · refine congrArg (fun z => Ending.returned (.tuple #[.int .u8 z, .bool true])) ?_
              rw [show fin.1 = a by have := B1.1; exact this.symm]
              clear E B B1 e1
              exact and255 a ha1
            · show Rd _ r s (k + (fin.2 + 1)) bad deep odd ends
              have h1 : k + (fin.2 + 1) = i := by have := B1.2; have := Hm.out; simp only at *; omega
              rw [h1]; exact hR
        · have tq : decide ((q : Int) < 3) = false := by rw [decide_eq_false_iff_not]; omega
          go_wp2_with fail
          go_quiet (fail)
          go_wp2_with fail
          go_ret2
          have e1 : octM gk (s.drop i) a = (a, 0) := by rw [show gk = 0 by have := hq.out; omega, octM]
          have B1 := B.out
          rw [e1] at B1
          rw [E.out]
          refine ⟨?_, ?_, (by repeat first | exact hO | refine only_drewN ?_ _ | refine only_set ?_ _ _ | refine only_drew ?_)⟩
          · refine congrArg (fun z => Ending.returned (.tuple #[.int .u8 z, .bool true])) ?_
            rw [show fin.1 = a by have := B1.1; exact this.symm]
            clear E B B1 e1
            exact and255 a ha1
          · show Rd _ r s (k + (fin.2 + 1)) bad deep odd ends
            have h1 : k + (fin.2 + 1) = i := by have := B1.2; have := Hm.out; simp only at *; omega
            rw [h1]; exact hR
      · have tlt : decide ((i : Int) < (s.length : Int)) = false := by rw [decide_eq_false_iff_not]; omega
        go_wp2_with fail
        go_quiet (fail)
        go_wp2_with fail
        go_ret2
        have e1 : octM gk (s.drop i) a = (a, 0) := by rw [List.drop_eq_nil_of_le (by omega)]; cases gk <;> rfl
        have B1 := B.out
        rw [e1] at B1
        rw [E.out]
        refine ⟨?_, ?_, (by repeat first | exact hO | refine only_drewN ?_ _ | refine only_set ?_ _ _ | refine only_drew ?_)⟩
        · refine congrArg (fun z => Ending.returned (.tuple #[.int .u8 z, .bool true])) ?_
          rw [show fin.1 = a by have := B1.1; exact this.symm]
          clear E B B1 e1
          exact and255 a ha1
        · show Rd _ r s (k + (fin.2 + 1)) bad deep odd ends
          have h1 : k + (fin.2 + 1) = i := by have := B1.2; have := Hm.out; simp only at *; omega
          rw [h1]; exact hR
  · have tl : decide ((s.length : Int) ≤ (k : Int)) = true := by rw [decide_eq_true_eq]; omega
    have E := Lib.hid (show escF (s.drop k) = (0, false, 0) by rw [List.drop_eq_nil_of_le (by omega)]; rfl)
    go_enter Tryz.func72, Tryz.ntmps72
    go_wp2_with fail
    go_quiet (fail)
    go_wp2_with fail
    go_ret2
    rw [E.out]
    exact ⟨rfl, hR, (by repeat first | exact hO | refine only_drewN ?_ _ | refine only_set ?_ _ _ | refine only_drew ?_)⟩
end Go.Proofs.YtcpijmbdibgdmaaGreatDoor

namespace Go.Proofs.YtcpijmbdibgdmaaGreatDoor
open Go.RowKit
attribute [local go_sem] ba_get

theorem octM_le : ∀ (n : Nat) (l : List UInt8) (o : Nat), (octM n l o).2 ≤ l.length
  | 0, _, _ => Nat.zero_le _
  | _ + 1, [], _ => Nat.le_refl _
  | n + 1, b :: l, o => by
    rw [octM]
    split
    · have := octM_le n l (8 * o + (b.toNat - 48)); simp; omega
    · simp
theorem escF_le (l : List UInt8) : (escF l).2.2 ≤ l.length := by
  cases l with
  | nil => simp [escF]
  | cons b l =>
    rw [escF_cons]
    have := octM_le 2 l (b.toNat - 48)
    repeat' split
    all_goals first | (simp; done) | (simp; omega) | skip
    rename_i h
    cases l with
    | nil => simp at h
    | cons c l => simp

/-- A literal string from a place on (o: how many parentheses are open): its bytes, and how much of the text it takes. -/
def litM : Nat → List UInt8 → Nat → Option (List UInt8 × Nat)
  | 0, _, _ => none
  | _ + 1, [], _ => none
  | n + 1, b :: l, o =>
    if b.toNat = 40 then (if o = 0 then (litM n l 1).map fun p => (p.1, p.2 + 1) else (litM n l (o + 1)).map fun p => (b :: p.1, p.2 + 1))
    else if b.toNat = 41 then (if o = 1 then some ([], 1) else (litM n l (o - 1)).map fun p => (b :: p.1, p.2 + 1))
    else if b.toNat = 13 then (if (l.head?.map UInt8.toNat) = some 10 then (litM n (l.drop 1) o).map fun p => (10 :: p.1, p.2 + 2) else (litM n l o).map fun p => (10 :: p.1, p.2 + 1))
    else if b.toNat = 92 then (if (escF l).2.1 = true then (litM n (l.drop (escF l).2.2) o).map fun p => ((escF l).1 :: p.1, p.2 + 1 + (escF l).2.2) else (litM n (l.drop (escF l).2.2) o).map fun p => (p.1, p.2 + 1 + (escF l).2.2))
    else (litM n l o).map fun p => (b :: p.1, p.2 + 1)
theorem litM_open0 {n : Nat} {b : UInt8} {l : List UInt8} (h : b.toNat = 40) : litM (n + 1) (b :: l) 0 = (litM n l 1).map fun p => (p.1, p.2 + 1) := by rw [litM, if_pos h, if_pos rfl]
theorem litM_open {n o : Nat} {b : UInt8} {l : List UInt8} (h : b.toNat = 40) (ho : 1 ≤ o) : litM (n + 1) (b :: l) o = (litM n l (o + 1)).map fun p => (b :: p.1, p.2 + 1) := by rw [litM, if_pos h, if_neg (by omega)]
theorem litM_end {n : Nat} {b : UInt8} {l : List UInt8} (h : b.toNat = 41) : litM (n + 1) (b :: l) 1 = some ([], 1) := by rw [litM, if_neg (by omega), if_pos h, if_pos rfl]
theorem litM_shut {n o : Nat} {b : UInt8} {l : List UInt8} (h : b.toNat = 41) (ho : o ≠ 1) : litM (n + 1) (b :: l) o = (litM n l (o - 1)).map fun p => (b :: p.1, p.2 + 1) := by rw [litM, if_neg (by omega), if_pos h, if_neg ho]
theorem litM_crlf {n o : Nat} {b : UInt8} {l : List UInt8} (h : b.toNat = 13) (hl : (l.head?.map UInt8.toNat) = some 10) : litM (n + 1) (b :: l) o = (litM n (l.drop 1) o).map fun p => (10 :: p.1, p.2 + 2) := by rw [litM, if_neg (by omega), if_neg (by omega), if_pos h, if_pos hl]
theorem litM_cr {n o : Nat} {b : UInt8} {l : List UInt8} (h : b.toNat = 13) (hl : (l.head?.map UInt8.toNat) ≠ some 10) : litM (n + 1) (b :: l) o = (litM n l o).map fun p => (10 :: p.1, p.2 + 1) := by rw [litM, if_neg (by omega), if_neg (by omega), if_pos h, if_neg hl]
theorem litM_esc {n o : Nat} {b : UInt8} {l : List UInt8} (h : b.toNat = 92) (hl : (escF l).2.1 = true) : litM (n + 1) (b :: l) o = (litM n (l.drop (escF l).2.2) o).map fun p => ((escF l).1 :: p.1, p.2 + 1 + (escF l).2.2) := by
  rw [litM, if_neg (by omega), if_neg (by omega), if_neg (by omega), if_pos h, if_pos hl]
theorem litM_esc0 {n o : Nat} {b : UInt8} {l : List UInt8} (h : b.toNat = 92) (hl : (escF l).2.1 = false) : litM (n + 1) (b :: l) o = (litM n (l.drop (escF l).2.2) o).map fun p => (p.1, p.2 + 1 + (escF l).2.2) := by
  rw [litM, if_neg (by omega), if_neg (by omega), if_neg (by omega), if_pos h, if_neg (by simp [hl])]
theorem litM_else {n o : Nat} {b : UInt8} {l : List UInt8} (h1 : b.toNat ≠ 40) (h2 : b.toNat ≠ 41) (h3 : b.toNat ≠ 13) (h4 : b.toNat ≠ 92) : litM (n + 1) (b :: l) o = (litM n l o).map fun p => (b :: p.1, p.2 + 1) := by
  rw [litM, if_neg h1, if_neg h2, if_neg h3, if_neg h4]

/-- The string that begins at place k: its bytes, and the place behind it. -/
def litAt (s : List UInt8) (k : Nat) : Option (List UInt8 × Nat) := (litM (s.length + 1) (s.drop k) 0).map fun p => (p.1, p.2 + k)

/-- What reader.literal leaves. -/
def LitPost (w : World) (r : Nat) (s : List UInt8) (bad deep : Nat) (odd ends : Bool) (fin : Option (List UInt8 × Nat)) (e : Ending) (w' : World) : Prop :=
  (∃ out q, fin = some (out, q) ∧ e = .returned (S out) ∧ q ≤ s.length ∧ Rd w' r s q bad deep odd ends ∧ Only w w' r) ∨
  (fin = none ∧ e = .returned (S []) ∧ Rd w' r s s.length (if bad = 0 then 1 else bad) deep odd true ∧ Only w w' r)

/-- What has been read so far, and what is still to come. -/
def LitRel (s : List UInt8) (fin : Option (List UInt8 × Nat)) (g j o : Nat) (bs : List UInt8) : Prop :=
  fin = (litM g (s.drop j) o).map fun p => (bs ++ p.1, p.2 + j)

theorem LitRel.step {s : List UInt8} {fin : Option (List UInt8 × Nat)} {g g' j j' o o' : Nat} {bs bs' : List UInt8} (h : LitRel s fin g j o bs) (xs : List UInt8) (hb : bs' = bs ++ xs) (d : Nat) (hj : j' = j + d)
    (e : litM g (s.drop j) o = (litM g' (s.drop j') o').map fun p => (xs ++ p.1, p.2 + d)) : LitRel s fin g' j' o' bs' := by
  unfold LitRel at h ⊢
  rw [h, e, Option.map_map, hb, hj]
  congr 1
  funext p
  simp [Function.comp]
  omega

set_option maxHeartbeats 8000000 in
set_option maxRecDepth 100000 in
theorem literal_any (r : Nat) (s : List UInt8) (k bad deep : Nat) (odd ends : Bool) (w : World) (hk : k < s.length) (h40 : s[k].toNat = 40) (hs : s.length ≤ 1048576) (hR0 : Rd w r s k bad deep odd ends) :
    Calls Tryz.prog 42 #[.pointer (some ⟨r, 0, none⟩)] w (LitPost w r s bad deep odd ends (litAt s k)) := by
  have hrB : r < w.heap.size := Blk.lt hR0
  obtain ⟨fin, hfin⟩ : ∃ fin, fin = litAt s k := ⟨_, rfl⟩
  rw [← hfin]
  have Hf := Lib.hid hfin
  clear hfin
  have H40 := Lib.hid h40
  clear h40
  go_enter Tryz.func42, Tryz.ntmps42
  go_wp2_with fail
  go_loopg [3, 4] (s.length + 1) (fun g v u wr => ∃ j o bs, u = .int .i64 ((o : Nat) : Int) ∧ s.length < j + g ∧ j ≤ s.length ∧ (1 ≤ o ∨ j = k ∧ o = 0) ∧ o ≤ j ∧ bs.length ≤ j ∧ Rd wr r s j bad deep odd ends ∧ Only w wr r ∧ Own wr w.heap.size v bs ∧ LitRel s fin g j o bs)
  case atStart => exact ⟨k, 0, [], rfl, by omega, by omega, .inr ⟨rfl, rfl⟩, by omega, by simp, hR0, only_refl _ _, Own.nil _ _, by unfold LitRel; rw [Hf.out]; unfold litAt; simp⟩
  case round =>
    obtain ⟨j, o, bs, rfl, hg, hjl, ho, hoj, hbl, hR, hO, hown, A⟩ := hrel
    have A := Lib.hid A
    rename_i A0
    clear A0 hR0
    have ho := Lib.hid ho
    rename_i ho0
    clear ho0
    have hsz := hO.size
    obtain ⟨g, rfl⟩ : ∃ g, gk = g + 1 := ⟨gk - 1, by omega⟩
    obtain ⟨c0, c1, c2, c3, c4, c5⟩ := hR.cs
    obtain ⟨f1, f2, f3, f4, f5⟩ := hR.fs
    by_cases hlt : j < s.length
    · have tlt : decide ((j : Int) < (s.length : Int)) = true := by rw [decide_eq_true_eq]; omega
      go_wp2_with fail
      go_quiet (fail)
      go_wp2_with fail
      go_quiet (fail)
      by_cases h40 : s[j].toNat = 40
      · have t40 : ((s[j].toNat : Int) == 40) = true := by rw [beq_iff_eq]; omega
        have G40 := Lib.hid h40
        clear h40
        by_cases ho0 : o = 0
        · subst ho0
          go_wp2_with fail
          go_roundg g
          case measure => omega
          case rel =>
            refine ⟨j + 1, 1, bs, rfl, by omega, by omega, .inl (Nat.le_refl _), by omega, by omega, hR.at_ (j + 1) rfl, (by repeat first | exact hO | refine only_drewN ?_ _ | refine only_set ?_ _ _ | refine only_drew ?_), (by repeat first | exact hown | refine Own.alloc ?_ _ | refine Own.set ?_ (by simp; exact hrB) _ | refine Own.drewN ?_ _ | refine Own.drew ?_), ?_⟩
            exact A.out.step [] (by simp) 1 rfl (by rw [drop_at hlt, litM_open0 G40.out]; simp)
        · have to1 : ((o : Int) + 1 == 1) = false := by rw [beq_eq_false_iff_ne]; omega
          go_wp2_with (at_builtin; refine wp_app_byte _ rfl _ _ rfl w.heap.size _ bs rfl ?c0 (s[j]) _ rfl ?c1 ?c2 ?c3 ?_)
          case c0 => exact (by repeat first | exact hown | refine Own.alloc ?_ _ | refine Own.set ?_ (by simp; exact hrB) _ | refine Own.drewN ?_ _ | refine Own.drew ?_)
          case c1 => exact cell_new_byte _ _ _ (by simp)
          case c2 => omega
          case c3 => first | (simp; omega) | omega
          intro v1 w1 hown1 hg1
          have hR1 : Rd w1 r s (j + 1) bad deep odd ends := Blk.grown (Blk.alloc ((hR.dr _).at_ (j + 1) rfl) _) hg1 (fun e => by have := (hown.lt r e.symm).1; omega)
          have hO1 : Only w w1 r := only_grown (only_alloc (by repeat first | exact hO | refine only_drewN ?_ _ | refine only_set ?_ _ _ | refine only_drew ?_) _) hg1 (fun q e => (hown.lt q e).1)
          clear c0 c1 c2 c3 c4 c5 f1 f2 f3 f4 f5 hR hO hown hg1
          go_wp2_with fail
          go_roundg g
          case measure => omega
          case rel =>
            refine ⟨j + 1, o + 1, bs ++ [s[j]], ?_, by omega, by omega, .inl (by omega), by omega, by simp; omega, hR1, hO1, hown1, ?_⟩
            · first | rfl | go_num | (congr 1; omega)
            · exact A.out.step [s[j]] rfl 1 rfl (by rw [drop_at hlt, litM_open G40.out (by omega)]; simp)
      · have t40 : ((s[j].toNat : Int) == 40) = false := by rw [beq_eq_false_iff_ne]; omega
        have ho1 : 1 ≤ o := by
          rcases ho.out with h | ⟨h, _⟩
          · exact h
          · subst h; exact absurd H40.out h40
        by_cases h41 : s[j].toNat = 41
        · have t41 : ((s[j].toNat : Int) == 41) = true := by rw [beq_iff_eq]; omega
          have G41 := Lib.hid h41
          clear h41
          by_cases ho2 : o = 1
          · subst ho2
            have hcv : ∀ n x, (convert 40 9 u3).run Tryz.prog ((wr.drewN n).setCell ⟨r, 1, none⟩ x) = .ok (S bs) ((wr.drewN n).setCell ⟨r, 1, none⟩ x) := fun n x => run_str_own (Own.set (Own.drewN hown n) hrB x)
            go_wp2_with fail
            go_ret
            refine .inl ⟨bs, j + 1, ?_, rfl, by omega, hR.at_ (j + 1) rfl, (by repeat first | exact hO | refine only_drewN ?_ _ | refine only_set ?_ _ _ | refine only_drew ?_)⟩
            have A1 := A.out
            unfold LitRel at A1
            rw [A1, drop_at hlt, litM_end G41.out]
            simp [Nat.add_comm]
          · have to1 : ((o : Int) - 1 == 0) = false := by rw [beq_eq_false_iff_ne]; omega
            go_wp2_with (at_builtin; refine wp_app_byte _ rfl _ _ rfl w.heap.size _ bs rfl ?c0 (s[j]) _ rfl ?c1 ?c2 ?c3 ?_)
            case c0 => exact (by repeat first | exact hown | refine Own.alloc ?_ _ | refine Own.set ?_ (by simp; exact hrB) _ | refine Own.drewN ?_ _ | refine Own.drew ?_)
            case c1 => exact cell_new_byte _ _ _ (by simp)
            case c2 => omega
            case c3 => first | (simp; omega) | omega
            intro v1 w1 hown1 hg1
            have hR1 : Rd w1 r s (j + 1) bad deep odd ends := Blk.grown (Blk.alloc ((hR.dr _).at_ (j + 1) rfl) _) hg1 (fun e => by have := (hown.lt r e.symm).1; omega)
            have hO1 : Only w w1 r := only_grown (only_alloc (by repeat first | exact hO | refine only_drewN ?_ _ | refine only_set ?_ _ _ | refine only_drew ?_) _) hg1 (fun q e => (hown.lt q e).1)
            clear c0 c1 c2 c3 c4 c5 f1 f2 f3 f4 f5 hR hO hown hg1
            go_wp2_with fail
            go_roundg g
            case measure => omega
            case rel =>
              refine ⟨j + 1, o - 1, bs ++ [s[j]], ?_, by omega, by omega, .inl (by omega), by omega, by simp; omega, hR1, hO1, hown1, ?_⟩
              · first | rfl | go_num | (congr 1; omega)
              · exact A.out.step [s[j]] rfl 1 rfl (by rw [drop_at hlt, litM_shut G41.out ho2]; simp)
        · have t41 : ((s[j].toNat : Int) == 41) = false := by rw [beq_eq_false_iff_ne]; omega
          by_cases h13 : s[j].toNat = 13
          · have t13 : ((s[j].toNat : Int) == 13) = true := by rw [beq_iff_eq]; omega
            have G13 := Lib.hid h13
            clear h13
            obtain ⟨m, hm⟩ : ∃ m, m = j + 1 := ⟨_, rfl⟩
            have hm1 : j < m := by omega
            have hm2 : m ≤ s.length := by omega
            have Hm := Lib.hid hm
            clear hm
            go_wp2_with fail
            refine wp_gen (fun wo => Rd wo r s m bad deep odd ends ∧ Only w wo r ∧ Own wo w.heap.size u3 bs) ⟨(hR.dr _).at_ m (by rw [Hm.out]; rfl), (by repeat first | exact hO | refine only_drewN ?_ _ | refine only_set ?_ _ _ | refine only_drew ?_), (by repeat first | exact hown | refine Own.alloc ?_ _ | refine Own.set ?_ (by simp; exact hrB) _ | refine Own.drewN ?_ _ | refine Own.drew ?_)⟩ ?_
            rintro w2 ⟨hR2, hO2, hown2⟩
            clear c0 c1 c2 c3 c4 c5 f1 f2 f3 f4 f5 hR hO hown
            have hR := hR2
            have hO := hO2
            have hown := hown2
            clear hR2 hO2 hown2
            obtain ⟨c0, c1, c2, c3, c4, c5⟩ := hR.cs
            obtain ⟨f1, f2, f3, f4, f5⟩ := hR.fs
            by_cases hl2 : m < s.length
            · have tl2 : decide ((m : Int) < (s.length : Int)) = true := by rw [decide_eq_true_eq]; omega
              by_cases h10 : s[m].toNat = 10
              · have t10 : ((s[m].toNat : Int) == 10) = true := by rw [beq_iff_eq]; omega
                have G10 := Lib.hid h10
                clear h10
                go_quiet (fail)
                go_wp2_with (at_builtin; refine wp_app_byte _ rfl _ _ rfl w.heap.size _ bs rfl ?c0 (10) _ rfl ?c1 ?c2 ?c3 ?_)
                case c0 => exact (by repeat first | exact hown | refine Own.alloc ?_ _ | refine Own.set ?_ (by simp; exact hrB) _ | refine Own.drewN ?_ _ | refine Own.drew ?_)
                case c1 => exact cell_new_byte _ (10) _ (by simp)
                case c2 => omega
                case c3 => have := hO.size; first | (simp; omega) | omega
                intro v1 w1 hown1 hg1
                have hR1 : Rd w1 r s (m + 1) bad deep odd ends := Blk.grown (Blk.alloc ((hR.dr _).at_ (m + 1) rfl) _) hg1 (fun e => by have := (hown.lt r e.symm).1; omega)
                have hO1 : Only w w1 r := only_grown (only_alloc (by repeat first | exact hO | refine only_drewN ?_ _ | refine only_set ?_ _ _ | refine only_drew ?_) _) hg1 (fun q e => (hown.lt q e).1)
                clear c0 c1 c2 c3 c4 c5 f1 f2 f3 f4 f5 hR hO hown hg1
                go_wp2_with fail
                go_roundg g
                case measure => omega
                case rel =>
                  have hmj := Hm.out
                  have ho1' := ho1
                  refine ⟨m + 1, o, bs ++ [10], rfl, by omega, by omega, .inl ho1, by omega, by simp; omega, hR1, hO1, hown1, ?_⟩
                  exact A.out.step [10] rfl 2 (by omega) (by rw [drop_at hlt, litM_crlf G13.out (by rw [← Hm.out, drop_at hl2]; simp [List.getElem?_eq_getElem hl2, G10.out])]; simp [List.drop_drop, ← Hm.out])
              · have t10 : ((s[m].toNat : Int) == 10) = false := by rw [beq_eq_false_iff_ne]; omega
                go_quiet (fail)
                go_wp2_with (at_builtin; refine wp_app_byte _ rfl _ _ rfl w.heap.size _ bs rfl ?c0 (10) _ rfl ?c1 ?c2 ?c3 ?_)
                case c0 => exact (by repeat first | exact hown | refine Own.alloc ?_ _ | refine Own.set ?_ (by simp; exact hrB) _ | refine Own.drewN ?_ _ | refine Own.drew ?_)
                case c1 => exact cell_new_byte _ (10) _ (by simp)
                case c2 => omega
                case c3 => have := hO.size; first | (simp; omega) | omega
                intro v1 w1 hown1 hg1
                have hR1 : Rd w1 r s (m) bad deep odd ends := Blk.grown (Blk.alloc (hR.dr _) _) hg1 (fun e => by have := (hown.lt r e.symm).1; omega)
                have hO1 : Only w w1 r := only_grown (only_alloc (by repeat first | exact hO | refine only_drewN ?_ _ | refine only_set ?_ _ _ | refine only_drew ?_) _) hg1 (fun q e => (hown.lt q e).1)
                clear c0 c1 c2 c3 c4 c5 f1 f2 f3 f4 f5 hR hO hown hg1
                go_wp2_with fail
                go_roundg g
                case measure => omega
                case rel =>
                  have hmj := Hm.out
                  have ho1' := ho1
                  refine ⟨m, o, bs ++ [10], rfl, by omega, by omega, .inl ho1, by omega, by simp; omega, hR1, hO1, hown1, ?_⟩
                  exact A.out.step [10] rfl 1 (by omega) (by rw [drop_at hlt, litM_cr G13.out (by rw [← Hm.out, drop_at hl2]; simp [List.getElem?_eq_getElem hl2, h10])]; simp [← Hm.out])
            · have tl2 : decide ((m : Int) < (s.length : Int)) = false := by rw [decide_eq_false_iff_not]; omega
              go_quiet (fail)
              go_wp2_with (at_builtin; refine wp_app_byte _ rfl _ _ rfl w.heap.size _ bs rfl ?c0 (10) _ rfl ?c1 ?c2 ?c3 ?_)
              case c0 => exact (by repeat first | exact hown | refine Own.alloc ?_ _ | refine Own.set ?_ (by simp; exact hrB) _ | refine Own.drewN ?_ _ | refine Own.drew ?_)
              case c1 => exact cell_new_byte _ (10) _ (by simp)
              case c2 => omega
              case c3 => have := hO.size; first | (simp; omega) | omega
              intro v1 w1 hown1 hg1
              have hR1 : Rd w1 r s (m) bad deep odd ends := Blk.grown (Blk.alloc (hR.dr _) _) hg1 (fun e => by have := (hown.lt r e.symm).1; omega)
              have hO1 : Only w w1 r := only_grown (only_alloc (by repeat first | exact hO | refine only_drewN ?_ _ | refine only_set ?_ _ _ | refine only_drew ?_) _) hg1 (fun q e => (hown.lt q e).1)
              clear c0 c1 c2 c3 c4 c5 f1 f2 f3 f4 f5 hR hO hown hg1
              go_wp2_with fail
              go_roundg g
              case measure => omega
              case rel =>
                have hmj := Hm.out
                have ho1' := ho1
                refine ⟨m, o, bs ++ [10], rfl, by omega, by omega, .inl ho1, by omega, by simp; omega, hR1, hO1, hown1, ?_⟩
                exact A.out.step [10] rfl 1 (by omega) (by rw [drop_at hlt, litM_cr G13.out (by rw [← Hm.out, List.drop_eq_nil_of_le (by omega)]; simp)]; simp [← Hm.out])
          · have t13 : ((s[j].toNat : Int) == 13) = false := by rw [beq_eq_false_iff_ne]; omega
            by_cases h92 : s[j].toNat = 92
            · have t92 : ((s[j].toNat : Int) == 92) = true := by rw [beq_iff_eq]; omega
              have G92 := Lib.hid h92
              clear h92
              go_wp2_with fail
              refine (escape_any r s (j + 1) bad deep odd ends _ (by omega) hs ((hR.dr _).at_ (j + 1) rfl)).mono ?_
              rintro e w1 ⟨rfl, hR1, hO1⟩
              have hO2 : Only w w1 r := only_trans (by repeat first | exact hO | refine only_drewN ?_ _ | refine only_set ?_ _ _ | refine only_drew ?_) hO1
              have hown2 : Own w1 w.heap.size u3 bs := Own.kept (by repeat first | exact hown | refine Own.alloc ?_ _ | refine Own.set ?_ (by simp; exact hrB) _ | refine Own.drewN ?_ _ | refine Own.drew ?_) hO1 (fun q e => by injection e with e; omega)
              have hle := escF_le (s.drop (j + 1))
              rw [List.length_drop] at hle
              obtain ⟨ef, hef⟩ : ∃ ef, ef = escF (s.drop (j + 1)) := ⟨_, rfl⟩
              rw [← hef] at hR1 hle ⊢
              have He := Lib.hid hef
              clear hef
              obtain ⟨x, is, c⟩ := ef
              simp only at hR1 hle ⊢
              clear c0 c1 c2 c3 c4 c5 f1 f2 f3 f4 f5 hR hO hown
              have hR := hR1
              have hO := hO2
              have hown := hown2
              clear hR1 hO1 hO2 hown2
              cases is with
              | true =>
                go_wp2_with (at_builtin; refine wp_app_byte _ rfl _ _ rfl w.heap.size _ bs rfl ?c0 x _ rfl ?c1 ?c2 ?c3 ?_)
                case c0 => exact (by repeat first | exact hown | refine Own.alloc ?_ _ | refine Own.set ?_ (by simp; exact hrB) _ | refine Own.drewN ?_ _ | refine Own.drew ?_)
                case c1 => exact cell_new_byte _ _ _ (by simp)
                case c2 => omega
                case c3 => have := hO.size; first | (simp; omega) | omega
                intro v1 w1 hown1 hg1
                have hR1 : Rd w1 r s (j + 1 + c) bad deep odd ends := Blk.grown (Blk.alloc hR _) hg1 (fun e => by have := (hown.lt r e.symm).1; omega)
                have hO1 : Only w w1 r := only_grown (only_alloc (by repeat first | exact hO | refine only_drewN ?_ _ | refine only_set ?_ _ _ | refine only_drew ?_) _) hg1 (fun q e => (hown.lt q e).1)
                clear hR hO hown hg1
                go_wp2_with fail
                go_roundg g
                case measure => omega
                case rel =>
                  refine ⟨j + 1 + c, o, bs ++ [x], rfl, by omega, by omega, .inl ho1, by omega, by simp; omega, hR1, hO1, hown1, ?_⟩
                  refine A.out.step [x] rfl (1 + c) (by omega) ?_
                  rw [drop_at hlt, litM_esc G92.out (by rw [← He.out]), ← He.out]
                  simp [List.drop_drop, Nat.add_assoc]
              | false =>
                go_wp2_with fail
                go_roundg g
                case measure => omega
                case rel =>
                  refine ⟨j + 1 + c, o, bs, rfl, by omega, by omega, .inl ho1, by omega, by omega, hR, hO, hown, ?_⟩
                  refine A.out.step [] (by simp) (1 + c) (by omega) ?_
                  rw [drop_at hlt, litM_esc0 G92.out (by rw [← He.out]), ← He.out]
                  simp [List.drop_drop, Nat.add_assoc]
            · have t92 : ((s[j].toNat : Int) == 92) = false := by rw [beq_eq_false_iff_ne]; omega
              go_wp2_with (at_builtin; refine wp_app_byte _ rfl _ _ rfl w.heap.size _ bs rfl ?c0 (s[j]) _ rfl ?c1 ?c2 ?c3 ?_)
              case c0 => exact (by repeat first | exact hown | refine Own.alloc ?_ _ | refine Own.set ?_ (by simp; exact hrB) _ | refine Own.drewN ?_ _ | refine Own.drew ?_)
              case c1 => exact cell_new_byte _ _ _ (by simp)
              case c2 => omega
              case c3 => first | (simp; omega) | omega
              intro v1 w1 hown1 hg1
              have hR1 : Rd w1 r s (j + 1) bad deep odd ends := Blk.grown (Blk.alloc ((hR.dr _).at_ (j + 1) rfl) _) hg1 (fun e => by have := (hown.lt r e.symm).1; omega)
              have hO1 : Only w w1 r := only_grown (only_alloc (by repeat first | exact hO | refine only_drewN ?_ _ | refine only_set ?_ _ _ | refine only_drew ?_) _) hg1 (fun q e => (hown.lt q e).1)
              clear c0 c1 c2 c3 c4 c5 f1 f2 f3 f4 f5 hR hO hown hg1
              go_wp2_with fail
              go_roundg g
              case measure => omega
              case rel =>
                refine ⟨j + 1, o, bs ++ [s[j]], ?_, by omega, by omega, .inl (by omega), by omega, by simp; omega, hR1, hO1, hown1, ?_⟩
                · first | rfl | go_num | (congr 1; omega)
                · exact A.out.step [s[j]] rfl 1 rfl (by rw [drop_at hlt, litM_else h40 h41 h13 h92]; simp)
    · have tlt : decide ((j : Int) < (s.length : Int)) = false := by rw [decide_eq_false_iff_not]; omega
      have hfin : fin = none := by
        have A1 := A.out
        unfold LitRel at A1
        rw [A1, List.drop_eq_nil_of_le (by omega)]; rfl
      have hje : j = s.length := by omega
      clear ho
      go_wp2_with fail
      go_quiet (fail)
      go_wp2_with fail
      refine (fail_any r s j bad deep 1 odd true _ ((hR.dr _).ends_ true rfl)).mono ?_
      rintro e w1 ⟨rfl, hR1, hO1⟩
      have hO2 : Only w w1 r := only_trans (by repeat first | exact hO | refine only_drewN ?_ _ | refine only_set ?_ _ _ | refine only_drew ?_) hO1
      go_wp2_with fail
      go_ret
      exact .inr ⟨hfin, rfl, hje ▸ hR1, hO2⟩
end Go.Proofs.YtcpijmbdibgdmaaGreatDoor
