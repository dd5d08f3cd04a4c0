/-
  spec.Unended.
  What the reader's outcome tells of the text, for the package's sake: plain law.
  A number or a reference for the reader is one for the package: plain law.
  A number or a reference for the reader is one for the package: the join.
  package model: one object's value (parseObjectValue), over what an array comes to.
-/
import Derived.Test.YtcpijmbdibgdmaaGreatDoorMe16
import Derived.Test.YtcpijmbdibgdmaaGreatDoorMe14
set_option linter.all false
namespace Go.Proofs.YtcpijmbdibgdmaaGreatDoor
open Go.RowKit
attribute [local go_sem] ba_get store_flt

/-- No dictionary begins in the text. -/
def noDD (s : List UInt8) : Prop := ∀ k, ([60, 60] : List UInt8).isPrefixOf (s.drop k) = false
def noDict : Nat → VRel := fun _ _ _ _ _ => False
theorem noDD_of {s : List UInt8} (h : ∀ i (h : i < s.length), 1 ≤ i → ¬ ((s[i-1]'(by omega)).toNat = 60 ∧ s[i].toNat = 60)) : noDD s := by
  intro k
  by_cases hk : k + 1 < s.length
  · have h1 := h (k + 1) hk (by omega)
    rw [List.drop_eq_getElem_cons (show k < s.length by omega), List.drop_eq_getElem_cons hk]
    simp only [List.isPrefixOf, Bool.and_true]
    rw [Bool.and_eq_false_iff]
    simp only [Nat.add_sub_cancel] at h1
    by_cases h2 : s[k].toNat = 60
    · right
      rw [beq_eq_false_iff_ne]
      intro e
      exact h1 ⟨h2, by rw [← e]; rfl⟩
    · left
      rw [beq_eq_false_iff_ne]
      intro e
      exact h2 (by rw [← e]; rfl)
  · refine not_prefix _ _ ?_
    rw [List.length_drop]
    simp
    omega
theorem noDict_said {W0 : World} {s : List UInt8} {m : Nat} (h : noDD s) : DSaid (noDict m) W0 s m := fun r d z w _ _ hp => by
  rw [h z.k] at hp; cases hp
/-- What it says of a text that Unended takes. -/
def UnOut (pf : List UInt8 → Nat) (s : List UInt8) : Prop := noDD s ∧ ∃ (v : SVal) (z' : Z), VO pf s noDict (s.length + 1) 0 ⟨0, 0, false, false⟩ v z' ∧ z'.bad = 1 ∧ z'.ends = true ∧ z'.odd = false

set_option maxHeartbeats 4000000 in
set_option maxRecDepth 100000 in
theorem unended_any (pf : List UInt8 → Nat) (W0 : World) (hpf : PFSaid pf W0) (s : List UInt8) (w : World) (hs : s.length ≤ 1048576) (hW : Below W0.heap.size W0 w) :
    Calls Tryz.prog 7 #[S s] w fun e w' => (∃ b, e = .returned (.bool b) ∧ (b = true → UnOut pf s)) ∧ Below w.heap.size w w' := by
  have HP := Lib.hid hpf
  have HW := Lib.hid hW
  clear hpf hW
  go_enter Tryz.func7, Tryz.ntmps7
  go_wp2_with fail
  go_loopg [3] s.length (fun g s3 wr => ∃ i : Nat, s3 = .int .i64 i ∧ 1 ≤ i ∧ s.length ≤ i + g ∧ i ≤ s.length + 1 ∧ wr = w ∧ Hid (∀ j (h : j < s.length), j < i → 1 ≤ j → ¬ ((s[j-1]'(by omega)).toNat = 60 ∧ s[j].toNat = 60)))
  case atStart => exact ⟨1, rfl, Nat.le_refl _, by omega, by omega, rfl, Lib.hid (fun j h h1 h2 => by omega)⟩
  case round =>
    obtain ⟨i, rfl, hi1, hg, hil, rfl, H⟩ := hrel
    have Hg := Lib.hid hg
    clear hg
    by_cases hi : i < s.length
    · have ti : decide ((i : Int) < (s.length : Int)) = true := by rw [decide_eq_true_eq]; omega
      have hx : ((i : Int) - 1).toNat = i - 1 := by omega
      have hx2 : 0 ≤ (i : Int) - 1 := by omega
      obtain ⟨j, rfl⟩ : ∃ j, i = j + 1 := ⟨i - 1, by omega⟩
      have hj : j < s.length := by omega
      by_cases h1 : (s[j]'hj).toNat = 60
      · have t1 : ((((s[j]'hj).toNat : Nat) : Int) == 60) = true := by rw [beq_iff_eq]; omega
        by_cases h2 : s[j + 1].toNat = 60
        · have t2 : (((s[j + 1].toNat : Nat) : Int) == 60) = true := by rw [beq_iff_eq]; omega
          go_wp2_with fail
          go_ret
          exact ⟨⟨false, rfl, fun h => by cases h⟩, Below.refl _ _⟩
        · have t2 : (((s[j + 1].toNat : Nat) : Int) == 60) = false := by rw [beq_eq_false_iff_ne]; omega
          go_wp2_with fail
          go_roundg (s.length - (j + 2))
          case measure => have := Hg.out; omega
          case rel => exact ⟨j + 1 + 1, by go_num, by omega, by omega, by omega, rfl, Lib.hid (fun k hk h3 h4 => by
            by_cases e : k = j + 1
            · subst e; intro h5; simp only [Nat.add_sub_cancel] at h5; exact h2 h5.2
            · exact H.out k hk (by omega) h4)⟩
      · have t1 : ((((s[j]'hj).toNat : Nat) : Int) == 60) = false := by rw [beq_eq_false_iff_ne]; omega
        go_wp2_with fail
        go_roundg (s.length - (j + 2))
        case measure => have := Hg.out; omega
        case rel => exact ⟨j + 1 + 1, by go_num, by omega, by omega, by omega, rfl, Lib.hid (fun k hk h3 h4 => by
          by_cases e : k = j + 1
          · subst e; intro h5; simp only [Nat.add_sub_cancel] at h5; exact h1 h5.1
          · exact H.out k hk (by omega) h4)⟩
    · have ti : decide ((i : Int) < (s.length : Int)) = false := by rw [decide_eq_false_iff_not]; omega
      have hnd : noDD s := noDD_of (fun j h h1 => H.out j h (by omega) h1)
      have Hnd := Lib.hid hnd
      clear hnd
      go_wp2_with fail
      refine calls_gen (fun wx => Rd wx wr.heap.size s 0 0 0 false false ∧ Below wr.heap.size wr wx) ⟨Blk.newAt _ 54 #[S s, .int .i64 0, .int .i64 0, .int .i64 0, .bool false, .bool false] _ rfl, (Below.refl _ _).alloc (Nat.le_refl _) _⟩ ?_
      rintro wx ⟨hR, hB⟩
      obtain ⟨rr, hrr⟩ : ∃ rr, rr = wr.heap.size := ⟨_, rfl⟩
      rw [← hrr] at hR ⊢
      refine (value_any pf W0 HP.out s hs noDict (fun m _ => noDict_said Hnd.out) (s.length + 1) rr 0 ⟨0, 0, false, false⟩ wx (by simp) (by simp only; omega) (by omega) (by rw [hrr]; exact HW.out.size) (HW.out.trans (hB.mono HW.out.size)) hR).mono ?_
      rintro e w2 ⟨v, cs, z', rfl, hv, hRep, h1, h2, h3, hR2, hO2⟩
      have hB2 : Below wr.heap.size wr w2 := hB.grown hO2 hB.size (fun k e => by injection e with e; omega)
      obtain ⟨c0, c1, c2, c3, c4, c5⟩ := hR2.cs
      have Hv := Lib.hid hv
      clear hv hRep h1 h2 h3 hR2 hO2 hR hB hrr
      obtain ⟨zk, zb, zo, ze⟩ := z'
      simp only at c1 c2 c4 c5
      by_cases hb : zb = 1
      · have t1 : ((zb : Int) == 1) = true := by rw [beq_iff_eq]; omega
        cases ze with
        | true =>
          cases zo with
          | true =>
            go_wp2_with fail
            go_ret
            exact ⟨⟨false, rfl, fun h => by cases h⟩, hB2⟩
          | false =>
            have Hb := Lib.hid hb
            clear hb
            go_wp2_with fail
            go_ret
            exact ⟨⟨true, rfl, fun _ => ⟨Hnd.out, v, _, Hv.out, Hb.out, rfl, rfl⟩⟩, hB2⟩
        | false =>
          go_wp2_with fail
          go_ret
          exact ⟨⟨false, rfl, fun h => by cases h⟩, hB2⟩
      · have t1 : ((zb : Int) == 1) = false := by rw [beq_eq_false_iff_ne]; omega
        go_wp2_with fail
        go_ret
        exact ⟨⟨false, rfl, fun h => by cases h⟩, hB2⟩
end Go.Proofs.YtcpijmbdibgdmaaGreatDoor

namespace Go.Proofs.YtcpijmbdibgdmaaGreatDoor
open Go.RowKit

theorem skip_odd {s : List UInt8} {k : Nat} {o : Bool} (h : (skipAt s k o).2 = false) : o = false := by
  cases o with
  | false => rfl
  | true => unfold skipAt at h; simp only at h; rw [passM_odd] at h; cases h
theorem word_odd {s : List UInt8} {k : Nat} {o : Bool} (h : (wordAt s k o).2.2 = false) : o = false ∧ (wordR (s.drop k) o).2 = false ∧ shutAt (s.drop (wordAt s k o).2.1) = false := by
  unfold wordAt at h ⊢
  simp only [Bool.or_eq_false_iff] at h ⊢
  refine ⟨?_, h.1, h.2⟩
  cases o with
  | false => rfl
  | true => rw [wordR_odd] at h; cases h.1
theorem passM_stopW : ∀ (l : List UInt8) (c o : Bool) (h : (passM c l o).1 < l.length), whiteB (l[(passM c l o).1]'h) = false
  | [], _, _, h => by simp at h
  | b :: l, true, o, h => by
    by_cases hb : b.toNat = 10 ∨ b.toNat = 13
    · have e : passM true (b :: l) o = ((passM false l o).1 + 1, (passM false l o).2) := by rw [passM, if_pos hb]
      simp only [e, List.getElem_cons_succ]
      exact passM_stopW l false o (by rw [e] at h; simp at h; omega)
    · have e := passM_in (b := b) (l := l) (o := o) (by omega) (by omega)
      simp only [e, List.getElem_cons_succ]
      exact passM_stopW l true _ (by rw [e] at h; simp at h; omega)
  | b :: l, false, o, h => by
    by_cases hw : whiteB b = true
    · have e := passM_white (b := b) (l := l) (o := o) hw
      simp only [e, List.getElem_cons_succ]
      exact passM_stopW l false o (by rw [e] at h; simp at h; omega)
    · by_cases h37 : b.toNat = 37
      · have e : passM false (b :: l) o = ((passM true l o).1 + 1, (passM true l o).2) := by rw [passM, if_neg hw, if_pos h37]
        simp only [e, List.getElem_cons_succ]
        exact passM_stopW l true o (by rw [e] at h; simp at h; omega)
      · have e := passM_stop (b := b) (l := l) (o := o) (by simpa using hw) h37
        simp only [e, List.getElem_cons_zero]
        simpa using hw
theorem skip_stop {s : List UInt8} {k k1 : Nat} {o o1 : Bool} (h : (k1, o1) = skipAt s k o) (hk : k ≤ s.length) (hl : k1 < s.length) : whiteB (s[k1]'hl) = false := by
  unfold skipAt at h
  injection h with h1 h2
  have := passM_stopW (s.drop k) false o (by rw [List.length_drop]; omega)
  rw [List.getElem_drop] at this
  simp only [h1]
  exact this
/-- What the reader has passed over is clear for the package, if it stops at a printed sign. -/
theorem clear_of {s : List UInt8} {k k1 : Nat} (h : (k1, false) = skipAt s k false) (hk : k ≤ s.length) (hp : ∀ hl : k1 < s.length, plainB (s[k1]'hl) = true) : Clear (s.drop k) (k1 - k) := by
  unfold skipAt at h
  injection h with h1 h2
  refine ⟨Prod.ext (by simp only; omega) h2.symm, fun hl => ?_⟩
  rw [List.length_drop] at hl
  have e := hp (by omega)
  rw [List.getElem_drop]
  have : k + (k1 - k) = k1 := by omega
  simp only [this]
  exact e
theorem delim_plain (b : UInt8) : delimB b = true → plainB b = true := by
  have H : ∀ b : Fin 256, delimB (UInt8.ofNat b.val) = true → plainB (UInt8.ofNat b.val) = true := by decide +kernel
  have := H ⟨b.toNat, b.toNat_lt⟩
  simpa using this
theorem num_plain {b : UInt8} (h : b.toNat = 40 ∨ b.toNat = 60 ∨ b.toNat = 47 ∨ b.toNat = 91 ∨ b.toNat = 93) : plainB b = true := by unfold plainB; rw [decide_eq_true_eq]; omega

theorem refM_odd {s : List UInt8} {k : Nat} {o : Bool} {n : Int} {t : List UInt8} (h : (refM s k o n t).2.2 = false) : o = false := by
  cases o with
  | false => rfl
  | true =>
    have h1 : (wordAt s (skipAt s k true).1 (skipAt s k true).2).2.2 = true := by
      cases hh : (wordAt s (skipAt s k true).1 (skipAt s k true).2).2.2 with
      | true => rfl
      | false => have := skip_odd (word_odd hh).1; cases this
    unfold refM at h
    simp only at h
    repeat' split at h
    all_goals first
      | (simp at h; done)
      | (simp only [Bool.or_eq_false_iff] at h; have h3 := skip_odd (word_odd h.1).1; rw [h1] at h3; cases h3)
theorem numF_odd {pf : List UInt8 → Nat} {s : List UInt8} {k : Nat} {o : Bool} (h : (numF pf s k o).2.2.1 = false) : (wordAt s k o).2.2 = false := by
  unfold numF at h
  simp only at h
  repeat' split at h
  all_goals first
    | exact h
    | (rename_i heq; have e := congrArg (fun p : RefVal × Nat × Bool => p.2.2) heq; exact refM_odd (e.trans h))
theorem numF_ends {pf : List UInt8 → Nat} {s : List UInt8} {k : Nat} {o : Bool} (hk : k < s.length) (hw : whiteB (s[k]'hk) = false) (hd : delimB (s[k]'hk) = false) (h : (wordAt s k o).2.2 = false) : plainB (s[k]'hk) = true := by
  obtain ⟨h1, h2, h3⟩ := word_odd h
  subst h1
  rw [List.drop_eq_getElem_cons hk, wordR, if_pos (by unfold regB; rw [hw, hd]; rfl)] at h2
  cases hp : plainB (s[k]'hk) with
  | true => rfl
  | false => rw [hp] at h2; simp only [Bool.not_false, Bool.or_true] at h2; rw [wordR_odd] at h2; cases h2

section
variable {pf : List UInt8 → Nat} {s : List UInt8} {A : Nat → Z → List SVal → Z → Prop} {D : VRel} {d : Nat} {z z' : Z} {k1 : Nat} {o1 : Bool} {v : SVal}
theorem VStep.odd (hA : ∀ d z l z', A d z l z' → z'.odd = false → z.odd = false) (hnd : noDD s) (h : VStep pf s A D d z k1 o1 v z') (ho : z'.odd = false) : o1 = false := by
  cases h with
  | bad hb => exact ho
  | deep hb hd => exact ho
  | over hb hd hk => exact ho
  | lit hb hd hk hc hl => exact ho
  | litOpen hb hd hk hc hl => exact ho
  | dict hb hd hk hc hD => rw [hnd k1] at hc; cases hc
  | hex hb hd hk hc hn hx =>
    subst hx
    cases o1 with
    | false => rfl
    | true => unfold hexAt at ho; simp only at ho; rw [hexM_odd] at ho; cases ho
  | name hb hd hk hc hx =>
    subst hx
    cases o1 with
    | false => rfl
    | true => unfold nameAt at ho; simp only [Bool.or_eq_false_iff] at ho; rw [wordR_odd] at ho; cases ho.1
  | arr hb hd hk hc hA' => exact hA _ _ _ _ hA' ho
  | delim hb hd hk hc hdl => exact ho
  | num hb hd hk hdl hx => subst hx; exact (word_odd (numF_odd ho)).1
theorem VStep.plain (hA : ∀ d z l z', A d z l z' → z'.odd = false → z.odd = false) (hnd : noDD s) (h : VStep pf s A D d z k1 o1 v z') (ho : z'.odd = false) (hzb : z.bad = 0) (h2 : z'.bad ≠ 2) (hw : ∀ hl : k1 < s.length, whiteB (s[k1]'hl) = false) : ∀ hl : k1 < s.length, plainB (s[k1]'hl) = true := by
  intro hl
  cases h with
  | bad hb => exact absurd hzb hb
  | deep hb hd => exact absurd rfl h2
  | over hb hd hk => omega
  | lit hb hd hk hc hl => exact num_plain (.inl hc)
  | litOpen hb hd hk hc hl => exact num_plain (.inl hc)
  | dict hb hd hk hc hD => rw [hnd k1] at hc; cases hc
  | hex hb hd hk hc hn hx => exact num_plain (.inr (.inl hc))
  | name hb hd hk hc hx => exact num_plain (.inr (.inr (.inl hc)))
  | arr hb hd hk hc hA' => exact num_plain (.inr (.inr (.inr (.inl hc))))
  | delim hb hd hk hc hdl => exact delim_plain _ hdl
  | num hb hd hk hdl hx => subst hx; exact numF_ends (pf := pf) hl (hw hl) hdl (numF_odd ho)
end
theorem AOut.odd {V : VRel} {s : List UInt8} {d : Nat} (hV : ∀ d z v z', V d z v z' → z'.odd = false → z.odd = false) {z z' : Z} {l : List SVal} (h : AOut V s d z l z') (ho : z'.odd = false) : z.odd = false := by
  induction h with
  | stop hb => exact ho
  | close hb hs hc =>
    simp only at ho
    subst ho
    exact skip_odd (by rw [← hs])
  | elem hb hs hc hv ha ih =>
    have h1 := hV _ _ _ _ hv (ih ho)
    simp only at h1
    subst h1
    exact skip_odd (by rw [← hs])
theorem VO_odd {pf : List UInt8 → Nat} {s : List UInt8} (hnd : noDD s) : ∀ (m d : Nat) (z : Z) (v : SVal) (z' : Z), VO pf s noDict m d z v z' → z'.odd = false → z.odd = false
  | 0, _, _, _, _, h, _ => h.elim
  | m + 1, d, z, v, z', h, ho => skip_odd (VStep.odd (fun d z l z' ha ho => AOut.odd (VO_odd hnd m) ha ho) hnd h ho)
theorem AO_odd {pf : List UInt8 → Nat} {s : List UInt8} (hnd : noDD s) (m : Nat) : ∀ d z l z', AOut (VO pf s noDict m) s d z l z' → z'.odd = false → z.odd = false := fun _ _ _ _ ha ho => AOut.odd (VO_odd hnd m) ha ho
/-- An outcome of which the law speaks. -/
def Rel (z : Z) : Prop := z.odd = false ∧ (z.bad = 0 ∨ (z.bad = 1 ∧ z.ends = true))
end Go.Proofs.YtcpijmbdibgdmaaGreatDoor

namespace Go.Proofs.YtcpijmbdibgdmaaGreatDoor
open Go.RowKit

/-! What a number's text holds -/
theorem cntM_chars : ∀ (l : List UInt8) (d p a : Nat) (r : Nat × Nat × Nat), cntM l d p a = some r → ∀ b ∈ l, digitB b = true ∨ b.toNat = 46
  | [], _, _, _, _, _ => by simp
  | b :: l, d, p, a, r, h => by
    intro c hc
    rw [cntM] at h
    rw [List.mem_cons] at hc
    by_cases hd : digitB b = true
    · rw [if_pos hd] at h
      rcases hc with rfl | hc
      · exact .inl hd
      · exact cntM_chars l _ _ _ r h c hc
    · rw [if_neg hd] at h
      by_cases h46 : b.toNat = 46
      · rw [if_pos h46] at h
        rcases hc with rfl | hc
        · exact .inr h46
        · exact cntM_chars l _ _ _ r h c hc
      · rw [if_neg h46] at h; cases h
theorem cntM_pt : ∀ (l : List UInt8) (d p a d' p' a' : Nat), cntM l d p a = some (d', p', a') → p < p' → ∃ b ∈ l, b.toNat = 46
  | [], _, _, _, _, _, _, h, hp => by
    simp [cntM] at h
    omega
  | b :: l, d, p, a, d', p', a', h, hp => by
    rw [cntM] at h
    by_cases hd : digitB b = true
    · rw [if_pos hd] at h
      obtain ⟨c, hc, h46⟩ := cntM_pt l _ _ _ _ _ _ h hp
      exact ⟨c, List.mem_cons_of_mem _ hc, h46⟩
    · rw [if_neg hd] at h
      by_cases h46 : b.toNat = 46
      · exact ⟨b, List.mem_cons_self .., h46⟩
      · rw [if_neg h46] at h; cases h
theorem unsign_mem {x : List UInt8} : ∀ b ∈ x, b ∈ unsign x ∨ b.toNat = 43 ∨ b.toNat = 45 := by
  intro b hb
  rcases x with _ | ⟨c, l⟩
  · simp at hb
  · rw [unsign]
    split
    · rename_i hc
      rw [List.mem_cons] at hb
      rcases hb with rfl | hb
      · exact .inr hc
      · exact .inl hb
    · exact .inl hb
theorem unsign_sub {x : List UInt8} : ∀ b ∈ unsign x, b ∈ x := by
  intro b hb
  rcases x with _ | ⟨c, l⟩
  · exact hb
  · rw [unsign] at hb
    split at hb
    · exact List.mem_cons_of_mem _ hb
    · exact hb
/-- What is no word of the refused is made of signs, digits and points. -/
theorem num_chars {x : List UInt8} (h : numM x ≠ .refused) : ∃ r, cntM (unsign x) 0 0 0 = some r := by
  unfold numM at h
  cases hc : cntM (unsign x) 0 0 0 with
  | none => rw [hc] at h; exact absurd rfl h
  | some r => exact ⟨r, rfl⟩
theorem num_mem {x : List UInt8} (h : numM x ≠ .refused) : ∀ b ∈ x, (48 ≤ b.toNat ∧ b.toNat ≤ 57) ∨ b.toNat = 46 ∨ b.toNat = 43 ∨ b.toNat = 45 := by
  obtain ⟨r, hr⟩ := num_chars h
  intro b hb
  rcases unsign_mem b hb with h1 | h1 | h1
  · rcases cntM_chars _ _ _ _ _ hr b h1 with h2 | h2
    · unfold digitB at h2; rw [decide_eq_true_eq] at h2; omega
    · omega
  · omega
  · omega
theorem num_zeroOk {x : List UInt8} (h : numM x ≠ .refused) : zeroOk x := by
  obtain ⟨r, hr⟩ := num_chars h
  intro h0 h48
  rcases x with _ | ⟨c, l⟩
  · simp at h0
  · have : unsign (c :: l) = c :: l := by
      rw [unsign, if_neg]
      simp at h48
      omega
    rw [this] at hr
    exact cntM_chars _ _ _ _ _ hr
theorem num_ne_nil {x : List UInt8} (h : numM x ≠ .refused) : x ≠ [] := by
  intro e
  rw [e] at h
  exact h (by simp [numM, cntM, unsign])
theorem num_real_pt {x : List UInt8} (h : numM x = .real) : ∀ n, Lib.atoiAll x ≠ .ok n := by
  refine atoi_bad x ?_
  have hc : ∃ d a, cntM (unsign x) 0 0 0 = some (d, 1, a) := by
    unfold numM at h
    cases hc : cntM (unsign x) 0 0 0 with
    | none => rw [hc] at h; cases h
    | some r =>
      obtain ⟨d, p, a⟩ := r
      rw [hc] at h
      simp only at h
      split at h
      · cases h
      · split at h
        · cases h
        · split at h
          · rename_i hp; subst hp; exact ⟨d, a, rfl⟩
          · split at h
            · split at h <;> cases h
            · cases h
  obtain ⟨d, a, hc⟩ := hc
  obtain ⟨b, hb, h46⟩ := cntM_pt _ _ _ _ _ _ _ hc (by omega)
  exact ⟨b, unsign_sub b hb, by omega, by omega, by omega⟩
theorem num_int_ok {x : List UInt8} {n : Int} (h : numM x = .int n) : Lib.atoiAll x = .ok n := by
  unfold numM at h
  cases hc : cntM (unsign x) 0 0 0 with
  | none => rw [hc] at h; cases h
  | some r =>
    obtain ⟨d, p, a⟩ := r
    rw [hc] at h
    simp only at h
    split at h
    · cases h
    · split at h
      · cases h
      · split at h
        · cases h
        · cases ha : Lib.atoiAll x with
          | ok m =>
            rw [ha] at h
            simp only at h
            split at h
            · cases h
            · injection h with h; rw [h]
          | _ => rw [ha] at h; cases h
theorem pu10_digits : ∀ (l : List UInt8) (a u : Nat), Lib.parseUint10 a l = .ok u → ∀ b ∈ l, digitB b = true := by
  intro l a u h b hb
  cases hd : digitB b with
  | true => rfl
  | false =>
    unfold digitB at hd
    rw [decide_eq_false_iff_not] at hd
    exact absurd h (pu10_bad l a ⟨b, hb, by omega⟩ u)
theorem cnt_digits : ∀ (l : List UInt8) (d a : Nat), (∀ b ∈ l, digitB b = true) → cntM l d 0 a = some (d + l.length, 0, a + l.length)
  | [], d, a, _ => by simp [cntM]
  | b :: l, d, a, h => by
    rw [cntM, if_pos (h b (List.mem_cons_self ..)), if_pos rfl, cnt_digits l _ _ (fun c hc => h c (List.mem_cons_of_mem _ hc))]
    simp
    omega
/-- What Atoi takes is not refused. -/
theorem atoi_not_refused {x : List UInt8} {g : Int} (h : Lib.atoiAll x = .ok g) : numM x ≠ .refused := by
  rcases x with _ | ⟨c, r⟩
  · cases h
  · have hu : (if c.toNat = 43 ∨ c.toNat = 45 then r else c :: r) = unsign (c :: r) := rfl
    simp only [Lib.atoiAll, hu] at h
    cases hp : Lib.parseMag (unsign (c :: r)) with
    | ok u =>
      unfold Lib.parseMag at hp
      by_cases hn : unsign (c :: r) = []
      · rw [if_pos hn] at hp; cases hp
      · rw [if_neg hn] at hp
        have hl : 0 < (unsign (c :: r)).length := List.length_pos_iff.2 hn
        have hc := cnt_digits (unsign (c :: r)) 0 0 (pu10_digits _ _ _ hp)
        unfold numM
        rw [hc]
        simp only
        rw [if_neg (by omega)]
        split
        · simp
        · split
          · simp
          · split
            · split <;> simp
            · simp
    | _ => rw [hp] at h; cases h

/-! Where the second word ends -/
theorem ref_goes (b : UInt8) : regB b = true → plainB b = true → stopB cRef b = false := by
  have H : ∀ b : Fin 256, regB (UInt8.ofNat b.val) = true → plainB (UInt8.ofNat b.val) = true → stopB cRef (UInt8.ofNat b.val) = false := by decide +kernel
  have := H ⟨b.toNat, b.toNat_lt⟩
  simpa using this
theorem ref_stops (b : UInt8) : regB b = false → shutB b = false → b.toNat ≠ 37 → stopB cRef b = true := by
  have H : ∀ b : Fin 256, regB (UInt8.ofNat b.val) = false → shutB (UInt8.ofNat b.val) = false → (UInt8.ofNat b.val).toNat ≠ 37 → stopB cRef (UInt8.ofNat b.val) = true := by decide +kernel
  have := H ⟨b.toNat, b.toNat_lt⟩
  simpa using this
theorem word_ref : ∀ (t : List UInt8), (wordR t false).2 = false → shutAt (t.drop (wordR t false).1) = false →
    (∀ h : (wordR t false).1 < t.length, (t[(wordR t false).1]'h).toNat ≠ 37) → cleanM cRef t ∧ nextM cRef t = (wordR t false).1
  | [], _, _, _ => ⟨trivial, rfl⟩
  | b :: l, h, hs, h37 => by
    rw [wordR] at h hs
    by_cases hr : regB b = true
    · have e : wordR (b :: l) false = ((wordR l (false || !plainB b)).1 + 1, (wordR l (false || !plainB b)).2) := by rw [wordR, if_pos hr]
      rw [if_pos hr] at h hs
      have hp : plainB b = true := by
        cases hp : plainB b with
        | true => rfl
        | false =>
          rw [hp] at h
          simp only [Bool.not_false, Bool.or_true] at h
          rw [wordR_odd] at h
          cases h
      rw [hp] at h hs e
      simp only [Bool.not_true, Bool.or_false, List.drop_succ_cons] at h hs e
      simp only [e, List.getElem_cons_succ, List.length_cons] at h37
      obtain ⟨h1, h2⟩ := word_ref l h hs (fun hl => h37 (by omega))
      refine ⟨⟨plain_asc hp, fun _ => h1⟩, ?_⟩
      rw [nextM_go (ref_goes b hr hp), h2, e]
    · have hr' : regB b = false := by simpa using hr
      have e : wordR (b :: l) false = (0, false) := by rw [wordR, if_neg hr]
      rw [if_neg hr] at h hs
      simp only [e, List.getElem_cons_zero] at h37
      have hst := ref_stops b hr' hs (h37 (by simp))
      exact ⟨⟨stopB_asc hst, fun h0 => by rw [hst] at h0; cases h0⟩, by rw [nextM_stop hst, e]⟩
theorem word_refW : ∀ (t : List UInt8), (wordR t false).2 = false → (∀ h : (wordR t false).1 < t.length, (t[(wordR t false).1]'h).toNat = 37) → (wordR t false).1 < t.length → (wordR t false).1 < nextA cRef t
  | [], _, _, hl => by simp at hl
  | b :: l, h, h37, hl => by
    rw [wordR] at h
    by_cases hr : regB b = true
    · have e : wordR (b :: l) false = ((wordR l (false || !plainB b)).1 + 1, (wordR l (false || !plainB b)).2) := by rw [wordR, if_pos hr]
      rw [if_pos hr] at h
      have hp : plainB b = true := by
        cases hp : plainB b with
        | true => rfl
        | false =>
          rw [hp] at h
          simp only [Bool.not_false, Bool.or_true] at h
          rw [wordR_odd] at h
          cases h
      rw [hp] at h e
      simp only [Bool.not_true, Bool.or_false] at h e
      simp only [e, List.getElem_cons_succ, List.length_cons] at h37 hl
      have := word_refW l h (fun hl => h37 (by omega)) (by omega)
      rw [e, nextA_go (plain_asc hp) (ref_goes b hr hp)]
      simp only
      omega
    · have e : wordR (b :: l) false = (0, false) := by rw [wordR, if_neg hr]
      simp only [e, List.getElem_cons_zero] at h37
      have hb := h37 (by simp)
      rw [e, nextA_go (by omega) (by rw [show b = 37 from UInt8.toNat_inj.1 hb]; decide)]
      simp

theorem wordR_stop : ∀ (l : List UInt8) (o : Bool) (h : (wordR l o).1 < l.length), regB (l[(wordR l o).1]'h) = false
  | [], _, h => by simp at h
  | b :: l, o, h => by
    by_cases hr : regB b = true
    · have e := wordR_cons_pos (b := b) (l := l) (o := o) hr
      simp only [e, List.getElem_cons_succ]
      exact wordR_stop l _ (by rw [e] at h; simp at h; omega)
    · have e := wordR_cons_neg (b := b) (l := l) (o := o) (by simpa using hr)
      simp only [e, List.getElem_cons_zero]
      simpa using hr
theorem word_nil {s : List UInt8} {k : Nat} {o : Bool} (h : ∀ hl : k < s.length, regB (s[k]'hl) = false) : (wordAt s k o).1 = [] := by
  unfold wordAt
  simp only
  by_cases hk : k < s.length
  · rw [List.drop_eq_getElem_cons hk, wordR_cons_neg (h hk)]; rfl
  · rw [List.drop_eq_nil_of_le (by omega)]; rfl
theorem skip_here {s : List UInt8} {k : Nat} {o : Bool} (h : ∀ hl : k < s.length, whiteB (s[k]'hl) = false ∧ (s[k]'hl).toNat ≠ 37) : skipAt s k o = (k, o) := by
  unfold skipAt
  by_cases hk : k < s.length
  · rw [List.drop_eq_getElem_cons hk, passM_stop (h hk).1 (h hk).2]; simp
  · rw [List.drop_eq_nil_of_le (by omega)]; simp [passM]
theorem dl_facts (b : UInt8) : dlB b = true → regB b = false ∧ whiteB b = false ∧ b.toNat ≠ 37 := by
  have H : ∀ b : Fin 256, dlB (UInt8.ofNat b.val) = true → regB (UInt8.ofNat b.val) = false ∧ whiteB (UInt8.ofNat b.val) = false ∧ (UInt8.ofNat b.val).toNat ≠ 37 := by decide +kernel
  have := H ⟨b.toNat, b.toNat_lt⟩
  simpa using this
theorem nodl_white (b : UInt8) : dlB b = false → regB b = false → shutB b = false → b.toNat ≠ 37 → whiteB b = true := by
  have H : ∀ b : Fin 256, dlB (UInt8.ofNat b.val) = false → regB (UInt8.ofNat b.val) = false → shutB (UInt8.ofNat b.val) = false → (UInt8.ofNat b.val).toNat ≠ 37 → whiteB (UInt8.ofNat b.val) = true := by decide +kernel
  have := H ⟨b.toNat, b.toNat_lt⟩
  simpa using this

/-- How the second word stands for the package. -/
theorem tok_cases {s : List UInt8} {k3 N : Nat} (hk : k3 ≤ s.length) (ho : (wordAt s k3 false).2.2 = false) (hN : N = (wordR (s.drop k3) false).1) :
    (TokN (s.drop k3) ∧ (N = 0 ∨ k3 + N = s.length ∨ ∃ h : k3 + N < s.length, dlB (s[k3 + N]'h) = true)) ∨
    (TokW (s.drop k3) ∧ ∃ h : k3 + N < s.length, (s[k3 + N]'h).toNat = 37) ∨
    (0 < N ∧ cleanM cRef (s.drop k3) ∧ nextM cRef (s.drop k3) = N ∧ ∃ h : k3 + N < s.length, dlB (s[k3 + N]'h) = false ∧ whiteB (s[k3 + N]'h) = true) := by
  obtain ⟨_, h2, h3⟩ := word_odd ho
  have e3 : (wordAt s k3 false).2.1 = k3 + N := by rw [hN]; rfl
  rw [e3] at h3
  have hle := wordR_le (s.drop k3) false
  rw [List.length_drop, ← hN] at hle
  have h3' : shutAt ((s.drop k3).drop (wordR (s.drop k3) false).1) = false := by rw [List.drop_drop, ← hN]; exact h3
  by_cases hl : k3 + N < s.length
  · have hrl : (wordR (s.drop k3) false).1 < (s.drop k3).length := by rw [List.length_drop, ← hN]; omega
    have hreg := wordR_stop (s.drop k3) false hrl
    have hget : (s.drop k3)[(wordR (s.drop k3) false).1]'hrl = s[k3 + N]'hl := by rw [List.getElem_drop]; simp only [hN]
    rw [hget] at hreg
    have hsh : shutB (s[k3 + N]'hl) = false := by
      rw [List.drop_eq_getElem_cons hl] at h3; exact h3
    by_cases h37 : (s[k3 + N]'hl).toNat = 37
    · exact .inr (.inl ⟨⟨(wordR (s.drop k3) false).1, hrl, word_refW _ h2 (fun _ => by rw [hget]; exact h37) hrl, by rw [hget]; exact h37⟩, hl, h37⟩)
    · obtain ⟨hc, hn⟩ := word_ref (s.drop k3) h2 h3' (fun _ => by rw [hget]; exact h37)
      rw [← hN] at hn
      by_cases h0 : N = 0
      · exact .inl ⟨⟨hc, .inl (by rw [hn]; exact h0)⟩, .inl h0⟩
      · have hget2 : ∀ h : nextM cRef (s.drop k3) < (s.drop k3).length, (s.drop k3)[nextM cRef (s.drop k3)]'h = s[k3 + N]'hl := fun h => by rw [List.getElem_drop]; simp only [hn]
        cases hd : dlB (s[k3 + N]'hl) with
        | true => exact .inl ⟨⟨hc, .inr (.inr ⟨by rw [hn, hN]; exact hrl, by rw [hget2]; exact hd⟩)⟩, .inr (.inr ⟨hl, hd⟩)⟩
        | false => exact .inr (.inr ⟨by omega, hc, hn, hl, hd, nodl_white _ hd hreg hsh h37⟩)
  · have hl4 : k3 + N = s.length := by omega
    obtain ⟨hc, hn⟩ := word_ref (s.drop k3) h2 h3' (fun h => by rw [List.length_drop, ← hN] at h; omega)
    exact .inl ⟨⟨hc, .inr (.inl (by rw [hn, List.length_drop, ← hN]; omega))⟩, .inr (.inl hl4)⟩
theorem plain_at {s : List UInt8} {k : Nat} (hw : ∀ hl : k < s.length, whiteB (s[k]'hl) = false) (ho : (wordAt s k false).2.2 = false) : ∀ hl : k < s.length, plainB (s[k]'hl) = true := by
  intro hl
  cases hd : delimB (s[k]'hl) with
  | true => exact delim_plain _ hd
  | false => exact numF_ends (pf := fun _ => 0) hl (hw hl) hd ho
end Go.Proofs.YtcpijmbdibgdmaaGreatDoor

namespace Go.Proofs.YtcpijmbdibgdmaaGreatDoor
open Go.RowKit

theorem drop_sub {s : List UInt8} {k2 k3 : Nat} (h : k2 ≤ k3) : (s.drop k2).drop (k3 - k2) = s.drop k3 := by rw [List.drop_drop]; congr 1; omega
theorem isR_word {s : List UInt8} {k : Nat} {o : Bool} : isR (s.drop k) = firstR (wordAt s k o).1 := by
  unfold wordAt
  simp only
  by_cases hk : k < s.length
  · rw [List.drop_eq_getElem_cons hk]
    by_cases hr : regB (s[k]'hk) = true
    · rw [wordR_cons_pos hr, List.take_succ_cons]; rfl
    · have hr' : regB (s[k]'hk) = false := by simpa using hr
      rw [wordR_cons_neg hr']
      simp only [isR, firstR, List.take_zero]
      rw [beq_eq_false_iff_ne]
      intro e
      have : regB (s[k]'hk) = true := by rw [show s[k]'hk = 82 from UInt8.toNat_inj.1 e]; decide
      rw [hr'] at this; cases this
  · rw [List.drop_eq_nil_of_le (by omega)]; rfl
theorem word_len {s : List UInt8} {k : Nat} {o : Bool} : (wordAt s k o).1 = (s.drop k).take (wordR (s.drop k) o).1 := rfl
theorem wordR_fst (l : List UInt8) : ∀ o o' : Bool, (wordR l o).1 = (wordR l o').1 := by
  induction l with
  | nil => intro _ _; rfl
  | cons b l ih =>
    intro o o'
    rw [wordR, wordR]
    split
    · simp only; rw [ih _ (o' || !plainB b)]
    · rfl

theorem int_behind {s : List UInt8} {k2 : Nat} {n : Int} {x1 : List UInt8} {val : RefVal} {p : Nat × Bool} (hk2 : k2 ≤ s.length) (h : refM s k2 false n x1 = (val, p)) (ho : p.2 = false) (hv : val ≠ .zero) :
    ∃ (rest2 : List UInt8) (REF : Prop), ((k2 = s.length ∨ ∃ h : k2 < s.length, dlB (s[k2]'h) = true) → ¬REF) ∧ (∀ h : k2 < s.length, dlB (s[k2]'h) = false → Behind (s.drop k2) rest2 REF) ∧
      ((REF ∧ s.drop p.1 = rest2 ∧ ∃ g, val = .ref g) ∨ (¬REF ∧ p.1 = k2 ∧ val = .int)) := by
  obtain ⟨⟨k3, o3⟩, ha⟩ : ∃ a, a = skipAt s k2 false := ⟨_, rfl⟩
  obtain ⟨⟨x2, k4, o4⟩, hx⟩ : ∃ a, a = wordAt s k3 o3 := ⟨_, rfl⟩
  have hk3 : k3 ≤ s.length := by have := skipAt_le (o := false) hk2; rw [← ha] at this; exact this
  have hk23 : k2 ≤ k3 := by have := skipAt_ge s k2 false; rw [← ha] at this; exact this
  -- the words, once the marks are known to be false
  have clean : o4 = false → o3 = false ∧ (wordAt s k3 false).2.2 = false ∧ wordAt s k3 false = (x2, k4, false) ∧ Clear (s.drop k2) (k3 - k2) := by
    intro e4
    subst e4
    have e3 : o3 = false := (word_odd (s := s) (k := k3) (o := o3) (by rw [← hx])).1
    subst e3
    refine ⟨rfl, by rw [← hx], hx.symm, ?_⟩
    exact clear_of ha hk2 (plain_at (fun hl => skip_stop ha hk2 hl) (by rw [← hx]))
  by_cases hn : numM x2 = .refused
  · have e : refM s k2 false n x1 = (.int, k2, false || o4) := by
      unfold refM
      simp only [← ha, ← hx, hn]
    rw [e] at h
    injection h with h1 h2
    subst h1 h2
    simp only [Bool.false_or] at ho
    obtain ⟨e3, hw, hwx, hcl⟩ := clean ho
    refine ⟨[], False, fun _ => id, fun hl hd => ⟨k3 - k2, hcl, ?_⟩, .inr ⟨id, rfl, rfl⟩⟩
    rw [drop_sub hk23]
    obtain ⟨N, hN⟩ : ∃ N, N = (wordR (s.drop k3) false).1 := ⟨_, rfl⟩
    rcases tok_cases hk3 hw hN with ⟨h1, _⟩ | ⟨h1, _⟩ | ⟨h1, h2, h3, h4, h5, h6⟩
    · exact .inl ⟨.inr (.inl h1), id⟩
    · exact .inl ⟨.inr (.inr h1), id⟩
    · have hx2 : (s.drop k3).take N = x2 := by have := congrArg Prod.fst hwx; rw [word_len, ← hN] at this; exact this
      have hget : (s.drop k3)[N]'(by rw [List.length_drop]; omega) = s[k3 + N]'h4 := by rw [List.getElem_drop]
      refine .inr ⟨N, 0, ⟨h2, h3, h1, ⟨by rw [List.length_drop]; omega, by rw [hget]; exact h5⟩, fun g hg => ?_⟩, ⟨False.elim, fun ⟨⟨g, hg⟩, _⟩ => ?_⟩, False.elim⟩
      · rw [hx2] at hg; exact absurd hn (atoi_not_refused hg)
      · rw [hx2] at hg; exact atoi_not_refused hg hn
  · obtain ⟨⟨k5, o5⟩, hb⟩ : ∃ a, a = skipAt s k4 o4 := ⟨_, rfl⟩
    obtain ⟨⟨x3, k6, o6⟩, hy⟩ : ∃ a, a = wordAt s k5 o5 := ⟨_, rfl⟩
    have hk4 : k4 ≤ s.length := by have := wordAt_le (o := o3) hk3; rw [← hx] at this; exact this
    have hk5 : k5 ≤ s.length := by have := skipAt_le (o := o4) hk4; rw [← hb] at this; exact this
    have hk45 : k4 ≤ k5 := by have := skipAt_ge s k4 o4; rw [← hb] at this; exact this
    have e := refM_next (n := n) (t := x1) ha hx rfl hn hb hy
    rw [e] at h
    -- the mark behind the third word is false
    have h6 : o6 = false ∧ (val = .int → firstR x3 = false ∧ p.1 = k2) ∧ (∀ g, val = .ref g → numM x2 = .int g ∧ x3 = [82] ∧ p.1 = k6 ∧ ((s.drop k2).take (k6 - k2)).any (fun b => b.toNat == 37) = false) := by
      unfold refN at h
      cases hnm : numM x2 with
      | refused => exact absurd hnm hn
      | open_ =>
        rw [hnm] at h; simp only at h
        injection h with h1 h2
        subst h1 h2
        simp only [Bool.false_or, Bool.or_eq_false_iff] at ho
        exact ⟨ho.1, fun _ => ⟨ho.2, rfl⟩, fun g hg => by cases hg⟩
      | real =>
        rw [hnm] at h; simp only at h
        injection h with h1 h2
        subst h1 h2
        simp only [Bool.false_or, Bool.or_eq_false_iff] at ho
        exact ⟨ho.1, fun _ => ⟨ho.2, rfl⟩, fun g hg => by cases hg⟩
      | int g =>
        rw [hnm] at h; simp only at h
        split at h
        · rename_i hc
          split at h
          · injection h with h1 h2; exact absurd h1.symm hv
          · injection h with h1 h2
            subst h1 h2
            simp only [Bool.or_eq_false_iff] at ho
            refine ⟨ho.1, fun hg => ?_, fun g' hg => ?_⟩
            · cases hg
            · injection hg with hg; subst hg; exact ⟨rfl, hc.1, rfl, ho.2⟩
        · injection h with h1 h2
          subst h1 h2
          simp only [Bool.false_or, Bool.or_eq_false_iff] at ho
          exact ⟨ho.1, fun _ => ⟨ho.2, rfl⟩, fun g hg => by cases hg⟩
    obtain ⟨e6, hint, href⟩ := h6
    subst e6
    have e5 : o5 = false := (word_odd (s := s) (k := k5) (o := o5) (by rw [← hy])).1
    subst e5
    have e4 : o4 = false := skip_odd (by rw [← hb])
    obtain ⟨e3, hw, hwx, hcl⟩ := clean e4
    subst e4
    have hcl2 : Clear (s.drop k4) (k5 - k4) := clear_of hb hk4 (plain_at (fun hl => skip_stop hb hk4 hl) (by rw [← hy]))
    obtain ⟨N, hN⟩ : ∃ N, N = (wordR (s.drop k3) false).1 := ⟨_, rfl⟩
    have hk4N : k4 = k3 + N := by have := congrArg (fun q : List UInt8 × Nat × Bool => q.2.1) hwx; rw [hN]; exact this.symm
    have hx2 : (s.drop k3).take N = x2 := by have := congrArg Prod.fst hwx; rw [word_len, ← hN] at this; exact this
    have hR : isR (s.drop k5) = firstR x3 := by rw [isR_word (o := false), ← hy]
    cases val with
    | zero => exact absurd rfl hv
    | int =>
      obtain ⟨hfr, hp⟩ := hint rfl
      refine ⟨[], False, fun _ => id, fun hl hd => ⟨k3 - k2, hcl, ?_⟩, .inr ⟨id, hp, rfl⟩⟩
      rw [drop_sub hk23]
      rcases tok_cases hk3 hw hN with ⟨h1, _⟩ | ⟨h1, _⟩ | ⟨h1, h2, h3, h4, h5, h6⟩
      · exact .inl ⟨.inr (.inl h1), id⟩
      · exact .inl ⟨.inr (.inr h1), id⟩
      · have hget : (s.drop k3)[N]'(by rw [List.length_drop]; omega) = s[k3 + N]'h4 := by rw [List.getElem_drop]
        have hd4 : (s.drop k3).drop N = s.drop k4 := by rw [List.drop_drop, hk4N]
        refine .inr ⟨N, k5 - k4, ⟨h2, h3, h1, ⟨by rw [List.length_drop]; omega, by rw [hget]; exact h5⟩, fun g hg => by rw [hd4]; exact hcl2⟩, ⟨False.elim, fun ⟨_, hr⟩ => ?_⟩, False.elim⟩
        rw [hd4, drop_sub hk45, hR, hfr] at hr
        cases hr
    | ref g =>
      obtain ⟨hg, hx3, hp, hany⟩ := href g rfl
      have hx2n : x2 ≠ [] := num_ne_nil (by rw [hg]; simp)
      have hk56 : k6 = k5 + 1 ∧ k5 < s.length := by
        have h1 := congrArg Prod.fst hy
        have h2 := congrArg (fun q : List UInt8 × Nat × Bool => q.2.1) hy
        simp only at h1 h2
        rw [hx3, word_len] at h1
        have hl := congrArg List.length h1
        rw [List.length_take, List.length_drop] at hl
        simp at hl
        have hle := wordR_le (s.drop k5) false
        rw [List.length_drop] at hle
        have : (wordAt s k5 false).2.1 = k5 + (wordR (s.drop k5) false).1 := rfl
        omega
      refine ⟨s.drop k6, True, fun hh => ?_, fun hl hd => ⟨k3 - k2, hcl, ?_⟩, .inl ⟨trivial, by rw [hp], g, rfl⟩⟩
      · -- nothing else begins behind the first number
        exfalso
        have hfacts : ∀ hl : k2 < s.length, regB (s[k2]'hl) = false ∧ whiteB (s[k2]'hl) = false ∧ (s[k2]'hl).toNat ≠ 37 := fun hl => by
          rcases hh with hh | ⟨_, hh⟩
          · omega
          · exact dl_facts _ hh
        have e := skip_here (s := s) (k := k2) (o := false) (fun hl => (hfacts hl).2)
        rw [e] at ha
        injection ha with ha1 ha2
        subst ha1
        have := word_nil (s := s) (k := k3) (o := false) (fun hl => (hfacts hl).1)
        rw [hwx] at this
        exact hx2n this
      · rw [drop_sub hk23]
        rcases tok_cases hk3 hw hN with ⟨_, h1⟩ | ⟨_, h4, h37⟩ | ⟨h1, h2, h3, h4, h5, h6⟩
        · exfalso
          rcases h1 with h1 | h1 | ⟨h4, h1⟩
          · rw [h1] at hx2; exact hx2n (by rw [← hx2]; rfl)
          · have e := skip_here (s := s) (k := k4) (o := false) (fun hl => by omega)
            rw [e] at hb
            injection hb with hb1 hb2
            omega
          · have hf := dl_facts _ h1
            have e := skip_here (s := s) (k := k4) (o := false) (fun hl => by simp only [hk4N]; exact hf.2)
            rw [e] at hb
            injection hb with hb1 hb2
            have hnil := word_nil (s := s) (k := k5) (o := false) (fun hl => by simp only [hb1, hk4N]; exact hf.1)
            rw [← hy, hx3] at hnil
            cases hnil
        · exfalso
          rw [List.any_eq_false] at hany
          refine hany (s[k3 + N]'h4) ?_ (by rw [beq_iff_eq]; exact h37)
          rw [List.mem_take_iff_getElem]
          refine ⟨k3 + N - k2, by rw [List.length_drop]; omega, ?_⟩
          rw [List.getElem_drop]
          congr 1
          omega
        · have hget : (s.drop k3)[N]'(by rw [List.length_drop]; omega) = s[k3 + N]'h4 := by rw [List.getElem_drop]
          have hd4 : (s.drop k3).drop N = s.drop k4 := by rw [List.drop_drop, hk4N]
          refine .inr ⟨N, k5 - k4, ⟨h2, h3, h1, ⟨by rw [List.length_drop]; omega, by rw [hget]; exact h5⟩, fun g hg => by rw [hd4]; exact hcl2⟩, ⟨fun _ => ⟨⟨g, by rw [hx2]; exact num_int_ok hg⟩, ?_⟩, fun _ => trivial⟩, fun _ => ?_⟩
          · rw [hd4, drop_sub hk45, hR, hx3]; rfl
          · rw [hd4, drop_sub hk45, List.drop_drop, hk56.1]

/-- A number, a reference or one of the three words at the head of a text, for the package: what stands behind it. -/
def NumOk (t rest : List UInt8) (v : SVal) : Prop :=
  ((t = wTrue ++ rest ∨ t = wFalse ++ rest ∨ t = wNull ++ rest) ∧ ∀ n, v ≠ .int n) ∨
  ∃ (b : UInt8) (l : List UInt8) (n1 : Nat), t = b :: l ∧ (lowB b ≠ 110 ∧ lowB b ≠ 116 ∧ lowB b ≠ 102) ∧ cleanM cNum t ∧ nextM cNum t = n1 ∧ 0 < n1 ∧ zeroOk (t.take n1) ∧
    ((numM (t.take n1) = .real ∧ (∀ n, Lib.atoiAll (t.take n1) ≠ .ok n) ∧ (∀ b ∈ t.take n1, b ≠ 44) ∧ rest = t.drop n1 ∧ ∀ n, v ≠ .int n) ∨
      ∃ (n : Int) (rest2 : List UInt8) (REF : Prop), Lib.atoiAll (t.take n1) = .ok n ∧ ((n1 = t.length ∨ ∃ h : n1 < t.length, dlB (t[n1]'h) = true) → ¬REF) ∧ (∀ h : n1 < t.length, dlB (t[n1]'h) = false → Behind (t.drop n1) rest2 REF) ∧
        ((REF ∧ rest = rest2 ∧ ∀ n, v ≠ .int n) ∨ (¬REF ∧ rest = t.drop n1 ∧ v = .int n)))
theorem low_num (b : UInt8) : ((48 ≤ b.toNat ∧ b.toNat ≤ 57) ∨ b.toNat = 46 ∨ b.toNat = 43 ∨ b.toNat = 45) → lowB b ≠ 110 ∧ lowB b ≠ 116 ∧ lowB b ≠ 102 := by
  have H : ∀ b : Fin 256, ((48 ≤ (UInt8.ofNat b.val).toNat ∧ (UInt8.ofNat b.val).toNat ≤ 57) ∨ (UInt8.ofNat b.val).toNat = 46 ∨ (UInt8.ofNat b.val).toNat = 43 ∨ (UInt8.ofNat b.val).toNat = 45) → lowB (UInt8.ofNat b.val) ≠ 110 ∧ lowB (UInt8.ofNat b.val) ≠ 116 ∧ lowB (UInt8.ofNat b.val) ≠ 102 := by decide +kernel
  have := H ⟨b.toNat, b.toNat_lt⟩
  simpa using this
theorem num_ok {pf : List UInt8 → Nat} {s : List UInt8} {k : Nat} {x : SVal × Nat × Bool × Nat} (hk : k < s.length) (hw : whiteB (s[k]'hk) = false) (hd : delimB (s[k]'hk) = false) (hx : x = numF pf s k false) (ho : x.2.2.1 = false) (hc : x.2.2.2 = 0) :
    NumOk (s.drop k) (s.drop x.2.1) x.1 := by
  have hwo := numF_odd (pf := pf) (s := s) (k := k) (o := false) (by rw [← hx]; exact ho)
  obtain ⟨_, h2, h3⟩ := word_odd hwo
  obtain ⟨n1, hn1⟩ : ∃ n1, n1 = (wordR (s.drop k) false).1 := ⟨_, rfl⟩
  have hk2 : (wordAt s k false).2.1 = k + n1 := by rw [hn1]; rfl
  have hx1 : (wordAt s k false).1 = (s.drop k).take n1 := by rw [hn1]; rfl
  rw [hk2] at h3
  obtain ⟨hcl, hnx, _⟩ := word_next ends_num (s.drop k) h2 (by rw [← hn1, List.drop_drop]; exact h3)
  rw [← hn1] at hnx
  have hle := wordR_le (s.drop k) false
  rw [List.length_drop, ← hn1] at hle
  have hn0 : 0 < n1 := by
    rw [hn1, List.drop_eq_getElem_cons hk, wordR_cons_pos (by unfold regB; rw [hw, hd]; rfl)]
    simp
  have hsplit : s.drop k = (s.drop k).take n1 ++ s.drop (k + n1) := by rw [← List.drop_drop, List.take_append_drop]
  subst hx
  unfold numF at ho hc ⊢
  have hd0 : wordAt s k false = ((s.drop k).take n1, k + n1, false) := Prod.ext hx1 (Prod.ext hk2 hwo)
  rw [hd0] at ho hc ⊢
  simp only at ho hc ⊢
  by_cases hT : (s.drop k).take n1 = [116, 114, 117, 101]
  · rw [if_pos hT]
    exact .inl ⟨.inl (by rw [hT] at hsplit; exact hsplit), fun n => by simp⟩
  rw [if_neg hT] at ho hc ⊢
  by_cases hF : (s.drop k).take n1 = [102, 97, 108, 115, 101]
  · rw [if_pos hF]
    exact .inl ⟨.inr (.inl (by rw [hF] at hsplit; exact hsplit)), fun n => by simp⟩
  rw [if_neg hF] at ho hc ⊢
  by_cases hN : (s.drop k).take n1 = [110, 117, 108, 108]
  · rw [if_pos hN]
    exact .inl ⟨.inr (.inr (by rw [hN] at hsplit; exact hsplit)), fun n => by simp⟩
  rw [if_neg hN] at ho hc ⊢
  obtain ⟨xw, hxw⟩ : ∃ xw, xw = (s.drop k).take n1 := ⟨_, rfl⟩
  have hhead : ∀ hnr : numM xw ≠ .refused, lowB (s[k]'hk) ≠ 110 ∧ lowB (s[k]'hk) ≠ 116 ∧ lowB (s[k]'hk) ≠ 102 := fun hnr => by
    refine low_num _ (num_mem hnr _ ?_)
    rw [hxw, List.drop_eq_getElem_cons hk]
    obtain ⟨j, hj⟩ : ∃ j, n1 = j + 1 := ⟨n1 - 1, by omega⟩
    rw [hj, List.take_succ_cons]
    exact List.mem_cons_self ..
  have hh2 : s.drop k = s[k] :: s.drop (k + 1) := List.drop_eq_getElem_cons hk
  rw [← hxw] at ho hc ⊢
  cases hm : numM xw with
  | refused => rw [hm] at hc; simp at hc
  | open_ => rw [hm] at hc; simp at hc
  | real =>
    have hnr : numM xw ≠ .refused := by rw [hm]; simp
    refine .inr ⟨_, _, n1, hh2, hhead hnr, hcl, hnx, hn0, by rw [← hxw]; exact num_zeroOk hnr, .inl ⟨by rw [← hxw]; exact hm, by rw [← hxw]; exact num_real_pt hm, ?_, by rw [List.drop_drop], fun n => by simp⟩⟩
    intro b hb e
    rw [← hxw] at hb
    have := num_mem hnr b hb
    rw [e] at this
    revert this; decide
  | int n =>
    have hnr : numM xw ≠ .refused := by rw [hm]; simp
    rw [hm] at ho hc
    simp only at ho hc ⊢
    cases hr : refM s (k + n1) false n xw with
    | mk val p =>
      rw [hr] at ho hc
      have hv : val ≠ .zero := by intro e; subst e; simp at hc
      have hpo : p.2 = false := by cases val <;> first | exact ho | exact absurd rfl hv
      obtain ⟨rest2, REF, h1, h2, h3⟩ := int_behind (by omega) hr hpo hv
      have hlt : n1 < (s.drop k).length ↔ k + n1 < s.length := by rw [List.length_drop]; omega
      refine .inr ⟨_, _, n1, hh2, hhead hnr, hcl, hnx, hn0, by rw [← hxw]; exact num_zeroOk hnr, .inr ⟨n, rest2, REF, by rw [← hxw]; exact num_int_ok hm, fun hh => h1 ?_, fun hh hd => ?_, ?_⟩⟩
      · rcases hh with hh | ⟨hh, hd⟩
        · left; rw [List.length_drop] at hh; omega
        · right
          refine ⟨hlt.1 hh, ?_⟩
          rw [List.getElem_drop] at hd
          exact hd
      · rw [List.drop_drop]
        refine h2 (hlt.1 hh) ?_
        rw [List.getElem_drop] at hd
        exact hd
      · rcases h3 with ⟨hR, hp, g, hval⟩ | ⟨hR, hp, hval⟩
        · subst hval
          exact .inl ⟨hR, hp, fun n => by simp⟩
        · subst hval
          exact .inr ⟨hR, by rw [List.drop_drop, hp], rfl⟩
end Go.Proofs.YtcpijmbdibgdmaaGreatDoor

namespace Go.Proofs.YtcpijmbdibgdmaaGreatDoor
open Go.RowKit
attribute [local go_sem] ba_get store_flt

/-- What the package's variables and ParseFloat are known to be. -/
structure PG (pf : List UInt8 → Nat) (W0 : World) : Prop where
  glob : Glob W0
  tabs : Lib.Utf8Tabs 26 27 W0
  h18 : 18 < W0.heap.size
  ev : ∃ ev, W0.cell? ⟨18, 0, none⟩ = some ev
  pfs : PFSaid pf W0
  pfb : PFBad W0
/-- An error; or a value, the rest as the reader has it; or a value and nothing more, where the text ends. -/
def PEnd (W0 w : World) (p : Nat) (s : List UInt8) (d : Nat) (z' : Z) (e : Ending) (w' : World) : Prop :=
  ErrP W0 w p e w' ∨ ∃ val, IVal val ∧ ((z'.bad = 0 ∧ OkP w p (s.drop z'.k) val e w') ∨ (z'.bad ≠ 0 ∧ 0 < d ∧ OkP w p [] val e w'))
def PArr (W0 w : World) (p : Nat) (s : List UInt8) (z' : Z) (e : Ending) (w' : World) : Prop :=
  ErrP W0 w p e w' ∨ (z'.bad = 0 ∧ ∃ (a : Nat) (sp : Option Addr) (sa sb : Nat), e = .returned (.tuple #[.pointer (some ⟨a, 0, none⟩), .nilIface]) ∧ w'.cell? ⟨a, 0, none⟩ = some (.slice sp sa sb) ∧ Blk w' p 9 #[S (s.drop z'.k)] ∧ Only w w' p)
abbrev pargs (p lv : Nat) (rx : Bool) : Array Value := #[.agg #[], .pointer (some ⟨p, 0, none⟩), .int .i64 lv, .int .i64 100, .bool rx]

theorem errP_later {W0 w w1 w' : World} {p : Nat} {e : Ending} (h : ErrP W0 w1 p e w') (ho : Only w w1 p) : ErrP W0 w p e w' := ⟨h.1, h.2.1, only_trans ho h.2.2⟩
theorem okP_later {w w1 w' : World} {p : Nat} {rest : List UInt8} {v : Value} {e : Ending} (h : OkP w1 p rest v e w') (ho : Only w w1 p) : OkP w p rest v e w' := ⟨h.1, h.2.1, only_trans ho h.2.2⟩

set_option maxHeartbeats 4000000 in
set_option maxRecDepth 100000 in
theorem hexOr_any (c : UInt8) (r : List UInt8) (i p lv : Nat) (rx : Bool) (W0 w : World) (hT : Lib.Utf8Tabs 26 27 W0) (hW : Below W0.heap.size W0 w) (hp : W0.heap.size ≤ p) (hs : r.length ≤ 1048574) (hc : c.toNat ≠ 60)
    (hi : idxM [62] (c :: r) = some i) (hil : i < (c :: r).length) (hall : ∀ b ∈ (c :: r).take i, hwB b = true) (hL : Blk w p 9 #[S (60 :: c :: r)]) :
    Calls Tryz.prog 116 (pargs p lv rx) w fun e w' => ∃ v, IVal v ∧ OkP w p ((c :: r).drop (i + 1)) v e w' := by
  have c0 : w.cell? ⟨p, 0, none⟩ = some (S (60 :: c :: r)) := hL.cell 0
  have hpl := hL.lt
  have tc : (((c.toNat : Nat) : Int) == 60) = false := by rw [beq_eq_false_iff_ne]; omega
  have hpx := fun (w : World) (hW : Below W0.heap.size W0 w) (hL : Blk w p 9 #[S (60 :: c :: r)]) => hex_parse (c :: r) i p W0 w hT hW hp (by simp; omega) hi hil hall hL
  obtain ⟨l, hl⟩ : ∃ l : List UInt8, l = c :: r := ⟨_, rfl⟩
  obtain ⟨t, ht⟩ : ∃ t : List UInt8, t = 60 :: l := ⟨_, rfl⟩
  have htl : t.length = r.length + 2 := by rw [ht, hl]; simp
  have h1 : 1 < t.length := by omega
  have ht1 : t[1]'h1 = c := by simp [ht, hl]
  have t2 : decide ((t.length : Int) < 2) = false := by rw [decide_eq_false_iff_not]; omega
  have tc1 : ((((t[1]'h1).toNat : Nat) : Int) == 60) = false := by rw [ht1]; exact tc
  rw [← hl] at c0 hpx hL ⊢
  rw [← ht] at c0 hpx hL
  clear hi hil hall ht hl ht1
  go_enter Tryz.func116, Tryz.ntmps116
  go_wp2_with fail
  refine (hpx _ (hW.alloc hW.size _) (Blk.alloc hL _)).mono ?_
  rintro e w1 ⟨v, hv, rfl, hb, ho⟩
  go_wp2_with fail
  refine bodyPost_ret (v := .tuple #[v, .nilIface]) (by simp [results, Tryz.results116, go_sem]) rfl ?_
  exact ⟨v, hv, rfl, hb, only_trans (only_alloc (only_refl _ _) _) ho⟩
set_option maxHeartbeats 4000000 in
set_option maxRecDepth 100000 in
theorem val_arr (t s : List UInt8) (p lv d : Nat) (rx : Bool) (z' : Z) (W0 w : World) (hW : Below W0.heap.size W0 w) (hp : W0.heap.size ≤ p) (h0 : 0 < t.length) (hb : t[0].toNat = 91) (hL : Blk w p 9 #[S t])
    (hA : ∀ w, Below W0.heap.size W0 w → Blk w p 9 #[S t] → Calls Tryz.prog 114 (pargs p lv rx) w (PArr W0 w p s z')) :
    Calls Tryz.prog 98 (pargs p lv rx) w (PEnd W0 w p s d z') := by
  have c0 : w.cell? ⟨p, 0, none⟩ = some (S t) := hL.cell 0
  have hpl := hL.lt
  have t91 : ((((t[0]'h0).toNat : Nat) : Int) == 91) = true := by rw [beq_iff_eq]; omega
  have hA1 := hA _ (hW.alloc hW.size (.cells #[] 96)) (Blk.alloc hL _)
  clear hb hA
  go_enter Tryz.func98, Tryz.ntmps98
  go_wp2_with fail
  refine hA1.mono ?_
  rintro e w1 (⟨⟨v, q, rfl, hq⟩, ⟨t', ht'⟩, ho⟩ | ⟨hz, a, sp, sa, sb, rfl, hc, hb, ho⟩)
  · go_wp2_with fail
    refine bodyPost_ret (v := .tuple #[.nilIface, .iface 207 (.pointer (some q))]) (by simp [results, Tryz.results98, go_sem]) rfl ?_
    exact .inl ⟨⟨_, _, rfl, hq⟩, ⟨t', ht'⟩, only_trans (only_alloc (only_refl _ _) _) ho⟩
  · go_wp2_with fail
    refine bodyPost_ret (v := .tuple #[.iface 80 (.slice sp sa sb), .nilIface]) (by simp [results, Tryz.results98, go_sem]) rfl ?_
    exact .inr ⟨_, .inr ⟨_, _, rfl⟩, .inl ⟨hz, rfl, hb, only_trans (only_alloc (only_refl _ _) _) ho⟩⟩

set_option maxHeartbeats 4000000 in
set_option maxRecDepth 100000 in
theorem val_name (t s : List UInt8) (n p lv d : Nat) (rx : Bool) (z' : Z) (pf : List UInt8 → Nat) (W0 w : World) (hG : PG pf W0) (hW : Below W0.heap.size W0 w) (hp : W0.heap.size ≤ p) (hs : t.length ≤ 1048575) (hL : Blk w p 9 #[S (47 :: t)])
    (hcl : cleanM cName t) (hnx : nextM cName t = n) (hall : ∀ b ∈ t.take n, plainB b = true ∧ regB b = true) (hnb : (nbM (t.take n)).isSome = true) (hz : z'.bad = 0) (hr : s.drop z'.k = t.drop n) :
    Calls Tryz.prog 98 (pargs p lv rx) w (PEnd W0 w p s d z') := by
  obtain ⟨ev, hE⟩ := hG.ev
  have hcall := fun (w : World) (hW : Below W0.heap.size W0 w) (hL : Blk w p 9 #[S (47 :: t)]) => name_parse t n p ev W0 w hW hG.h18 hE hp hs hcl hnx hall hnb hL
  obtain ⟨t1, ht1⟩ : ∃ t1 : List UInt8, t1 = 47 :: t := ⟨_, rfl⟩
  have h0 : 0 < t1.length := by rw [ht1]; simp
  have hb : (t1[0]'h0).toNat = 47 := by simp [ht1]
  rw [← ht1] at hL hcall
  have c0 : w.cell? ⟨p, 0, none⟩ = some (S t1) := hL.cell 0
  have hpl := hL.lt
  have t91 : ((((t1[0]'h0).toNat : Nat) : Int) == 91) = false := by rw [beq_eq_false_iff_ne]; omega
  have t47 : ((((t1[0]'h0).toNat : Nat) : Int) == 47) = true := by rw [beq_iff_eq]; omega
  have hA1 := hcall _ (hW.alloc hW.size (.cells #[] 96)) (Blk.alloc hL _)
  have Hr := Lib.hid hr
  have Hz := Lib.hid hz
  clear hb hcall ht1 hcl hnx hall hnb hr hz
  go_enter Tryz.func98, Tryz.ntmps98
  go_wp2_with fail
  refine hA1.mono ?_
  rintro e w1 ⟨q, x, rfl, hc, hb, ho⟩
  go_wp2_with fail
  refine bodyPost_ret (v := .tuple #[.iface 105 (S x), .nilIface]) (by simp [results, Tryz.results98, go_sem]) rfl ?_
  exact .inr ⟨_, .inr ⟨_, _, rfl⟩, .inl ⟨Hz.out, rfl, by rw [Hr.out]; exact hb, only_trans (only_alloc (only_refl _ _) _) ho⟩⟩

set_option maxHeartbeats 4000000 in
set_option maxRecDepth 100000 in
theorem val_hex (t s rest : List UInt8) (p lv d : Nat) (rx : Bool) (z' : Z) (W0 w : World) (hW : Below W0.heap.size W0 w) (hp : W0.heap.size ≤ p) (h0 : 0 < t.length) (hb : t[0].toNat = 60) (hL : Blk w p 9 #[S t])
    (hA : ∀ w, Below W0.heap.size W0 w → Blk w p 9 #[S t] → Calls Tryz.prog 116 (pargs p lv rx) w fun e w' => ∃ v, IVal v ∧ OkP w p rest v e w') (hz : z'.bad = 0) (hr : s.drop z'.k = rest) :
    Calls Tryz.prog 98 (pargs p lv rx) w (PEnd W0 w p s d z') := by
  have c0 : w.cell? ⟨p, 0, none⟩ = some (S t) := hL.cell 0
  have hpl := hL.lt
  have t91 : ((((t[0]'h0).toNat : Nat) : Int) == 91) = false := by rw [beq_eq_false_iff_ne]; omega
  have t47 : ((((t[0]'h0).toNat : Nat) : Int) == 47) = false := by rw [beq_eq_false_iff_ne]; omega
  have t60 : ((((t[0]'h0).toNat : Nat) : Int) == 60) = true := by rw [beq_iff_eq]; omega
  have hA1 := hA _ (hW.alloc hW.size (.cells #[] 96)) (Blk.alloc hL _)
  have Hr := Lib.hid hr
  have Hz := Lib.hid hz
  clear hb hA hr hz
  go_enter Tryz.func98, Tryz.ntmps98
  go_wp2_with fail
  refine hA1.mono ?_
  rintro e w1 ⟨v, hv, rfl, hb, ho⟩
  go_wp2_with fail
  refine bodyPost_ret (v := .tuple #[v, .nilIface]) (by simp [results, Tryz.results98, go_sem]) rfl ?_
  exact .inr ⟨_, hv, .inl ⟨Hz.out, rfl, by rw [Hr.out]; exact hb, only_trans (only_alloc (only_refl _ _) _) ho⟩⟩

set_option maxHeartbeats 4000000 in
set_option maxRecDepth 100000 in
theorem val_lit (t s : List UInt8) (p lv d : Nat) (rx : Bool) (z' : Z) (W0 w : World) (hG : Glob W0) (hW : Below W0.heap.size W0 w) (hp : W0.heap.size ≤ p) (hs : t.length ≤ 1048576) (h0 : 0 < t.length) (hb : t[0].toNat = 40) (hL : Blk w p 9 #[S t])
    (hz : ∀ i, parM t false 0 = some i → z'.bad = 0 ∧ s.drop z'.k = t.drop (i + 1)) :
    Calls Tryz.prog 98 (pargs p lv rx) w (PEnd W0 w p s d z') := by
  have c0 : w.cell? ⟨p, 0, none⟩ = some (S t) := hL.cell 0
  have hpl := hL.lt
  have t91 : ((((t[0]'h0).toNat : Nat) : Int) == 91) = false := by rw [beq_eq_false_iff_ne]; omega
  have t47 : ((((t[0]'h0).toNat : Nat) : Int) == 47) = false := by rw [beq_eq_false_iff_ne]; omega
  have t60 : ((((t[0]'h0).toNat : Nat) : Int) == 60) = false := by rw [beq_eq_false_iff_ne]; omega
  have t40 : ((((t[0]'h0).toNat : Nat) : Int) == 40) = true := by rw [beq_iff_eq]; omega
  have hA1 := lit_parse t p W0 _ hG (hW.alloc hW.size (.cells #[] 96)) hp hs h0 hb (Blk.alloc hL _)
  have Hz := Lib.hid hz
  clear hb hz
  obtain ⟨fin, hfin⟩ : ∃ fin, fin = parM t false 0 := ⟨_, rfl⟩
  have Hfin := Lib.hid hfin
  rw [← hfin] at hA1
  clear hfin
  go_enter Tryz.func98, Tryz.ntmps98
  go_wp2_with fail
  refine hA1.mono ?_
  cases fin with
  | none =>
    rintro e w1 ⟨⟨v, q, rfl, hq⟩, ⟨t', ht'⟩, ho⟩
    go_wp2_with fail
    refine bodyPost_ret (v := .tuple #[v, .iface 207 (.pointer (some q))]) (by simp [results, Tryz.results98, go_sem]) rfl ?_
    exact .inl ⟨⟨_, _, rfl, hq⟩, ⟨t', ht'⟩, only_trans (only_alloc (only_refl _ _) _) ho⟩
  | some i =>
    rintro e w1 ⟨u, rfl, hb, ho⟩
    obtain ⟨hz1, hz2⟩ := Hz.out i Hfin.out.symm
    have Hz1 := Lib.hid hz1
    have Hz2 := Lib.hid hz2
    clear hz1 hz2
    go_wp2_with fail
    refine bodyPost_ret (v := .tuple #[.iface 103 u, .nilIface]) (by simp [results, Tryz.results98, go_sem]) rfl ?_
    exact .inr ⟨_, .inr ⟨_, _, rfl⟩, .inl ⟨Hz1.out, rfl, by rw [Hz2.out]; exact hb, only_trans (only_alloc (only_refl _ _) _) ho⟩⟩
end Go.Proofs.YtcpijmbdibgdmaaGreatDoor
