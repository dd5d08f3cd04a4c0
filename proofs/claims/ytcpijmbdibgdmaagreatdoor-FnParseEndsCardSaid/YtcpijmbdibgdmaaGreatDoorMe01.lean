/-
  spec.reader.word: the regular characters at the place, and the marks that it leaves.
  spec.reader.is, fail: whether the text goes on with a string; what becomes of the text is noted.
  Slices of bytes that a call makes itself: one byte appended; a string made of them.
  spec.reader.hex: a hexadecimal string.
  spec.NameBytes and reader.name: the bytes of a name.
-/
import Derived.Test.YtcpijmbdibgdmaaGreatDoorMe00
import Derived.Deep.LoopGhost
import Derived.Laws.BytesString
import Derived.OwnWalk
set_option linter.all false
namespace Go.Proofs.YtcpijmbdibgdmaaGreatDoor
open Go.RowKit

/-- How many regular characters stand ahead, and whether there is something odd among them. -/
def wordR : List UInt8 → Bool → Nat × Bool
  | [], o => (0, o)
  | b :: l, o => if regB b = true then ((wordR l (o || !plainB b)).1 + 1, (wordR l (o || !plainB b)).2) else (0, o)
theorem wordR_cons_pos {b : UInt8} {l : List UInt8} {o : Bool} (h : regB b = true) : wordR (b :: l) o = ((wordR l (o || !plainB b)).1 + 1, (wordR l (o || !plainB b)).2) := by rw [wordR, if_pos h]
theorem wordR_cons_neg {b : UInt8} {l : List UInt8} {o : Bool} (h : regB b = false) : wordR (b :: l) o = (0, o) := by rw [wordR, if_neg (by simp [h])]
/-- A brace, or a parenthesis that closes nothing. -/
def shutB (b : UInt8) : Bool := decide (b.toNat = 123 ∨ b.toNat = 125 ∨ b.toNat = 41)
def shutAt : List UInt8 → Bool
  | [] => false
  | b :: _ => shutB b
attribute [local go_sem] ba_get

set_option maxHeartbeats 2000000 in
set_option maxRecDepth 100000 in
theorem word_any (r : Nat) (s : List UInt8) (k bad deep : Nat) (odd ends : Bool) (w : World) (hk : k ≤ s.length) (hs : s.length ≤ 1048576) (h : Rd w r s k bad deep odd ends) :
    Calls Tryz.prog 35 #[.pointer (some ⟨r, 0, none⟩)] w fun e w' => e = .returned (S ((s.drop k).take (wordR (s.drop k) odd).1)) ∧
      Rd w' r s (k + (wordR (s.drop k) odd).1) bad deep ((wordR (s.drop k) odd).2 || shutAt (s.drop (k + (wordR (s.drop k) odd).1))) ends ∧ Only w w' r := by
  have c1 := h.c1
  go_enter Tryz.func35, Tryz.ntmps35
  go_wp2_with fail
  go_loopg [] (s.length - k) (fun g wr => ∃ j o, g + j = s.length ∧ k ≤ j ∧ Rd wr r s j bad deep o ends ∧ Only w wr r ∧ j + (wordR (s.drop j) o).1 = k + (wordR (s.drop k) odd).1 ∧ (wordR (s.drop j) o).2 = (wordR (s.drop k) odd).2)
  case atStart => exact ⟨k, odd, by omega, Nat.le_refl _, h, only_refl _ _, rfl, rfl⟩
  case round =>
    obtain ⟨j, o, hg, hkj, hR, hO, A⟩ := hrel
    have A := Lib.hid A
    rename_i A0
    clear A0 c1 h
    have hjl : j ≤ s.length := by omega
    have hg := Lib.hid hg
    rename_i hg0
    clear hg0
    have c0 := hR.c0
    have c1 := hR.c1
    have c4 := hR.c4
    have f1 := hR.fz 1
    have f4 := hR.fz 4
    by_cases hlt : j < s.length
    · go_wp2_with fail
      go_quiet ((go_at_call 71; exact Calls.quiet_of_same ((reg_any s[j] _).mono fun _ _ ⟨a, b⟩ => ⟨a, b.symm⟩)))
      cases hr : regB s[j] with
      | true =>
        go_wp2_with fail
        refine region_tailq 18 (by kernel_rfl) (by kernel_rfl) ?_
        intro w2 e2
        have hR2 : Rd w2 r s j bad deep o ends := by rw [e2]; exact hR
        have hO2 : Only w w2 r := by rw [e2]; exact only_drew (only_drewN hO _)
        clear e2 c0 c1 c4 f1 f4 hR hO
        have hR := hR2
        have hO := hO2
        clear hR2 hO2
        have c0 := hR.c0
        have c1 := hR.c1
        have c4 := hR.c4
        have f1 := hR.fz 1
        have f4 := hR.fz 4
        simp only [List.take_succ_cons, List.take_zero, List.drop_succ_cons, List.drop_zero]
        cases o with
        | false =>
          repeat (go_big_quiet_step (fail))
          go_big_quiet_want; go_big_quiet_op
          refine ⟨_, (plain_any s[j] _).mono fun _ _ ⟨a, b⟩ => ⟨a, b.symm⟩, ?_⟩
          go_big_quiet_on
          repeat (go_big_quiet_step (fail))
          refine wpQuiet_nil ?_
          go_wp2_with fail
          go_roundg (gk - 1)
          case measure => have := hg.out; omega
          case rel =>
            have A1 := A.out
            rw [drop_at hlt, wordR_cons_pos hr] at A1
            refine ⟨j + 1, !plainB s[j], by have := hg.out; omega, by omega, (hR.odd_ _ rfl).at_ _ rfl, only_set (only_set hO _ _) _ _, ?_⟩
            simpa [Nat.add_assoc, Nat.add_comm 1] using A1
        | true =>
          repeat (go_big_quiet_step (fail))
          refine wpQuiet_nil ?_
          go_wp2_with fail
          go_roundg (gk - 1)
          case measure => have := hg.out; omega
          case rel =>
            have A1 := A.out
            rw [drop_at hlt, wordR_cons_pos hr] at A1
            refine ⟨j + 1, true, by have := hg.out; omega, by omega, (hR.odd_ _ rfl).at_ _ rfl, only_set (only_set hO _ _) _ _, ?_⟩
            simpa [Nat.add_assoc, Nat.add_comm 1] using A1
      | false =>
        have e0 : wordR (s.drop j) o = (0, o) := by rw [drop_at hlt]; exact wordR_cons_neg hr
        have hj : j = k + (wordR (s.drop k) odd).1 := by have A1 := A.out.1; rw [e0] at A1; exact A1
        have ho : (wordR (s.drop k) odd).2 = o := by have A1 := A.out.2; rw [e0] at A1; exact A1.symm
        have hfin : Hid (∀ b, (o || shutB s[j]) = b → ∀ w', Rd w' r s j bad deep b ends → Rd w' r s (k + (wordR (s.drop k) odd).1) bad deep ((wordR (s.drop k) odd).2 || shutAt (s.drop (k + (wordR (s.drop k) odd).1))) ends) := by
          intro b hb w' hw
          rw [← hj, ho, drop_at hlt]
          show Rd w' r s j bad deep (o || shutB s[j]) ends
          rw [hb]; exact hw
        have hres : Hid ((s.drop k).take (j - k) = (s.drop k).take (wordR (s.drop k) odd).1) := Lib.hid (by rw [hj]; simp)
        clear e0 hj ho hr A
        go_wp2_with fail
        cases o with
        | true =>
          refine region_tailq 53 (by kernel_rfl) (by kernel_rfl) ?_
          intro w2 e2
          have hR2 : Rd w2 r s j bad deep true ends := by rw [e2]; exact hR
          have hO2 : Only w w2 r := by rw [e2]; exact only_drew (only_drewN hO _)
          clear e2 c0 c1 c4 f1 f4 hR hO
          have hR := hR2
          have hO := hO2
          clear hR2 hO2
          have c0 := hR.c0
          have c1 := hR.c1
          have c4 := hR.c4
          have f1 := hR.fz 1
          have f4 := hR.fz 4
          simp only [List.take_succ_cons, List.take_zero, List.drop_succ_cons, List.drop_zero]
          repeat (go_big_quiet_step (fail))
          refine wpQuiet_nil ?_
          go_wp2_with fail
          have hR3 := hR.odd_ true rfl
          have hO3 := only_set hO 4 (.bool true)
          generalize w2.setCell ⟨r, 4, none⟩ (.bool true) = w3 at hR3 hO3 ⊢
          clear c0 c1 c4 f1 f4 hR hO
          have hR := hR3
          have hO := hO3
          clear hR3 hO3
          have c0 := hR.c0
          have c1 := hR.c1
          have c4 := hR.c4
          have f1 := hR.fz 1
          have f4 := hR.fz 4
          go_quiet (fail)
          go_wp2_with fail
          go_ret
          exact ⟨ret_ext hres.out, hfin.out true (by simp [shutB]; try omega) _ hR, only_drewN hO _⟩
        | false =>
          by_cases q123 : s[j].toNat = 123
          · have t123 : ((s[j].toNat : Int) == 123) = true := by rw [beq_iff_eq]; omega
            refine region_tailq 53 (by kernel_rfl) (by kernel_rfl) ?_
            intro w2 e2
            have hR2 : Rd w2 r s j bad deep false ends := by rw [e2]; exact hR
            have hO2 : Only w w2 r := by rw [e2]; exact only_drew (only_drewN hO _)
            clear e2 c0 c1 c4 f1 f4 hR hO
            have hR := hR2
            have hO := hO2
            clear hR2 hO2
            have c0 := hR.c0
            have c1 := hR.c1
            have c4 := hR.c4
            have f1 := hR.fz 1
            have f4 := hR.fz 4
            simp only [List.take_succ_cons, List.take_zero, List.drop_succ_cons, List.drop_zero]
            repeat (go_big_quiet_step (fail))
            refine wpQuiet_nil ?_
            go_wp2_with fail
            have hR3 := hR.odd_ true rfl
            have hO3 := only_set hO 4 (.bool true)
            generalize w2.setCell ⟨r, 4, none⟩ (.bool true) = w3 at hR3 hO3 ⊢
            clear c0 c1 c4 f1 f4 hR hO
            have hR := hR3
            have hO := hO3
            clear hR3 hO3
            have c0 := hR.c0
            have c1 := hR.c1
            have c4 := hR.c4
            have f1 := hR.fz 1
            have f4 := hR.fz 4
            go_quiet (fail)
            go_wp2_with fail
            go_ret
            exact ⟨ret_ext hres.out, hfin.out true (by simp [shutB]; try omega) _ hR, only_drewN hO _⟩
          have t123 : ((s[j].toNat : Int) == 123) = false := by rw [beq_eq_false_iff_ne]; omega
          by_cases q125 : s[j].toNat = 125
          · have t125 : ((s[j].toNat : Int) == 125) = true := by rw [beq_iff_eq]; omega
            refine region_tailq 53 (by kernel_rfl) (by kernel_rfl) ?_
            intro w2 e2
            have hR2 : Rd w2 r s j bad deep false ends := by rw [e2]; exact hR
            have hO2 : Only w w2 r := by rw [e2]; exact only_drew (only_drewN hO _)
            clear e2 c0 c1 c4 f1 f4 hR hO
            have hR := hR2
            have hO := hO2
            clear hR2 hO2
            have c0 := hR.c0
            have c1 := hR.c1
            have c4 := hR.c4
            have f1 := hR.fz 1
            have f4 := hR.fz 4
            simp only [List.take_succ_cons, List.take_zero, List.drop_succ_cons, List.drop_zero]
            repeat (go_big_quiet_step (fail))
            refine wpQuiet_nil ?_
            go_wp2_with fail
            have hR3 := hR.odd_ true rfl
            have hO3 := only_set hO 4 (.bool true)
            generalize w2.setCell ⟨r, 4, none⟩ (.bool true) = w3 at hR3 hO3 ⊢
            clear c0 c1 c4 f1 f4 hR hO
            have hR := hR3
            have hO := hO3
            clear hR3 hO3
            have c0 := hR.c0
            have c1 := hR.c1
            have c4 := hR.c4
            have f1 := hR.fz 1
            have f4 := hR.fz 4
            go_quiet (fail)
            go_wp2_with fail
            go_ret
            exact ⟨ret_ext hres.out, hfin.out true (by simp [shutB]; try omega) _ hR, only_drewN hO _⟩
          have t125 : ((s[j].toNat : Int) == 125) = false := by rw [beq_eq_false_iff_ne]; omega
          by_cases q41 : s[j].toNat = 41
          · have t41 : ((s[j].toNat : Int) == 41) = true := by rw [beq_iff_eq]; omega
            refine region_tailq 53 (by kernel_rfl) (by kernel_rfl) ?_
            intro w2 e2
            have hR2 : Rd w2 r s j bad deep false ends := by rw [e2]; exact hR
            have hO2 : Only w w2 r := by rw [e2]; exact only_drew (only_drewN hO _)
            clear e2 c0 c1 c4 f1 f4 hR hO
            have hR := hR2
            have hO := hO2
            clear hR2 hO2
            have c0 := hR.c0
            have c1 := hR.c1
            have c4 := hR.c4
            have f1 := hR.fz 1
            have f4 := hR.fz 4
            simp only [List.take_succ_cons, List.take_zero, List.drop_succ_cons, List.drop_zero]
            repeat (go_big_quiet_step (fail))
            refine wpQuiet_nil ?_
            go_wp2_with fail
            have hR3 := hR.odd_ true rfl
            have hO3 := only_set hO 4 (.bool true)
            generalize w2.setCell ⟨r, 4, none⟩ (.bool true) = w3 at hR3 hO3 ⊢
            clear c0 c1 c4 f1 f4 hR hO
            have hR := hR3
            have hO := hO3
            clear hR3 hO3
            have c0 := hR.c0
            have c1 := hR.c1
            have c4 := hR.c4
            have f1 := hR.fz 1
            have f4 := hR.fz 4
            go_quiet (fail)
            go_wp2_with fail
            go_ret
            exact ⟨ret_ext hres.out, hfin.out true (by simp [shutB]; try omega) _ hR, only_drewN hO _⟩
          have t41 : ((s[j].toNat : Int) == 41) = false := by rw [beq_eq_false_iff_ne]; omega
          refine region_tailq 53 (by kernel_rfl) (by kernel_rfl) ?_
          intro w2 e2
          have hR2 : Rd w2 r s j bad deep false ends := by rw [e2]; exact hR
          have hO2 : Only w w2 r := by rw [e2]; exact only_drew (only_drewN hO _)
          clear e2 c0 c1 c4 f1 f4 hR hO
          have hR := hR2
          have hO := hO2
          clear hR2 hO2
          have c0 := hR.c0
          have c1 := hR.c1
          have c4 := hR.c4
          have f1 := hR.fz 1
          have f4 := hR.fz 4
          simp only [List.take_succ_cons, List.take_zero, List.drop_succ_cons, List.drop_zero]
          repeat (go_big_quiet_step (fail))
          refine wpQuiet_nil ?_
          go_wp2_with fail
          have hR3 := hR.odd_ false rfl
          have hO3 := only_set hO 4 (.bool false)
          generalize w2.setCell ⟨r, 4, none⟩ (.bool false) = w3 at hR3 hO3 ⊢
          clear c0 c1 c4 f1 f4 hR hO
          have hR := hR3
          have hO := hO3
          clear hR3 hO3
          have c0 := hR.c0
          have c1 := hR.c1
          have c4 := hR.c4
          have f1 := hR.fz 1
          have f4 := hR.fz 4
          go_quiet (fail)
          go_wp2_with fail
          go_ret
          exact ⟨ret_ext hres.out, hfin.out false (by simp [shutB]; try omega) _ hR, only_drewN hO _⟩
    · have e0 : wordR (s.drop j) o = (0, o) := by rw [List.drop_eq_nil_of_le (by omega)]; rfl
      have hj : j = k + (wordR (s.drop k) odd).1 := by have A1 := A.out.1; rw [e0] at A1; exact A1
      have ho : (wordR (s.drop k) odd).2 = o := by have A1 := A.out.2; rw [e0] at A1; exact A1.symm
      have hfin : Hid (∀ b, (o || false) = b → ∀ w', Rd w' r s j bad deep b ends → Rd w' r s (k + (wordR (s.drop k) odd).1) bad deep ((wordR (s.drop k) odd).2 || shutAt (s.drop (k + (wordR (s.drop k) odd).1))) ends) := by
        intro b hb w' hw
        rw [← hj, ho, List.drop_eq_nil_of_le (by omega)]
        show Rd w' r s j bad deep (o || false) ends
        rw [hb]; exact hw
      have hres : Hid ((s.drop k).take (j - k) = (s.drop k).take (wordR (s.drop k) odd).1) := Lib.hid (by rw [hj]; simp)
      clear e0 hj ho A
      go_wp2_with fail
      go_quiet (fail)
      go_wp2_with fail
      cases o with
      | true =>
        refine region_tailq 53 (by kernel_rfl) (by kernel_rfl) ?_
        intro w2 e2
        have hR2 : Rd w2 r s j bad deep true ends := by rw [e2]; exact hR
        have hO2 : Only w w2 r := by rw [e2]; exact only_drew (only_drewN hO _)
        clear e2 c0 c1 c4 f1 f4 hR hO
        have hR := hR2
        have hO := hO2
        clear hR2 hO2
        have c0 := hR.c0
        have c1 := hR.c1
        have c4 := hR.c4
        have f1 := hR.fz 1
        have f4 := hR.fz 4
        simp only [List.take_succ_cons, List.take_zero, List.drop_succ_cons, List.drop_zero]
        repeat (go_big_quiet_step (fail))
        refine wpQuiet_nil ?_
        go_wp2_with fail
        have hR3 := hR.odd_ true rfl
        have hO3 := only_set hO 4 (.bool true)
        generalize w2.setCell ⟨r, 4, none⟩ (.bool true) = w3 at hR3 hO3 ⊢
        clear c0 c1 c4 f1 f4 hR hO
        have hR := hR3
        have hO := hO3
        clear hR3 hO3
        have c0 := hR.c0
        have c1 := hR.c1
        have c4 := hR.c4
        have f1 := hR.fz 1
        have f4 := hR.fz 4
        go_quiet (fail)
        go_wp2_with fail
        go_ret
        exact ⟨ret_ext hres.out, hfin.out true (by simp [shutB]; try omega) _ hR, only_drewN hO _⟩
      | false =>
        refine region_tailq 53 (by kernel_rfl) (by kernel_rfl) ?_
        intro w2 e2
        have hR2 : Rd w2 r s j bad deep false ends := by rw [e2]; exact hR
        have hO2 : Only w w2 r := by rw [e2]; exact only_drew (only_drewN hO _)
        clear e2 c0 c1 c4 f1 f4 hR hO
        have hR := hR2
        have hO := hO2
        clear hR2 hO2
        have c0 := hR.c0
        have c1 := hR.c1
        have c4 := hR.c4
        have f1 := hR.fz 1
        have f4 := hR.fz 4
        simp only [List.take_succ_cons, List.take_zero, List.drop_succ_cons, List.drop_zero]
        repeat (go_big_quiet_step (fail))
        refine wpQuiet_nil ?_
        go_wp2_with fail
        have hR3 := hR.odd_ false rfl
        have hO3 := only_set hO 4 (.bool false)
        generalize w2.setCell ⟨r, 4, none⟩ (.bool false) = w3 at hR3 hO3 ⊢
        clear c0 c1 c4 f1 f4 hR hO
        have hR := hR3
        have hO := hO3
        clear hR3 hO3
        have c0 := hR.c0
        have c1 := hR.c1
        have c4 := hR.c4
        have f1 := hR.fz 1
        have f4 := hR.fz 4
        go_quiet (fail)
        go_wp2_with fail
        go_ret
        exact ⟨ret_ext hres.out, hfin.out false (by simp [shutB]; try omega) _ hR, only_drewN hO _⟩
end Go.Proofs.YtcpijmbdibgdmaaGreatDoor

namespace Go.Proofs.YtcpijmbdibgdmaaGreatDoor
open Go.RowKit
attribute [local go_sem] ba_get store_flt

theorem toList_mk (l : List UInt8) : (ByteArray.mk l.toArray).toList = l := by rw [ByteArray.toList_eq]
theorem toList_ext (s : List UInt8) (a b : Nat) : ((ByteArray.mk s.toArray).extract a b).toList = (s.drop a).take (b - a) := by rw [ByteArray.extract_mk, toList_mk]
theorem take_prefix (t l : List UInt8) (h : t.length ≤ l.length) : (l.take t.length == t) = t.isPrefixOf l := by
  rw [Bool.eq_iff_iff, beq_iff_eq, List.isPrefixOf_iff_prefix, List.prefix_iff_eq_take]
  exact eq_comm
theorem not_prefix (t l : List UInt8) (h : l.length < t.length) : t.isPrefixOf l = false := by
  rw [Bool.eq_false_iff]
  intro hp
  have := (List.isPrefixOf_iff_prefix.1 hp).length_le
  omega

set_option maxHeartbeats 1000000 in
set_option maxRecDepth 100000 in
theorem is_any (r : Nat) (s t : List UInt8) (k bad deep : Nat) (odd ends : Bool) (w : World) (hk : k ≤ s.length) (hs : s.length ≤ 1048576) (ht : t.length ≤ 1000) (h : Rd w r s k bad deep odd ends) :
    Calls Tryz.prog 43 #[.pointer (some ⟨r, 0, none⟩), S t] w fun e w' => e = .returned (.bool (t.isPrefixOf (s.drop k))) ∧ ∃ n, w' = w.drewN n := by
  obtain ⟨c0, c1, c2, c3, c4, c5⟩ := h.cs
  by_cases hl : t.length ≤ s.length - k
  · have hl' : (t.length : Int) ≤ (s.length : Int) - (k : Int) := by omega
    have hl2 : (k : Int) + (t.length : Int) ≤ (s.length : Int) := by omega
    go_enter Tryz.func43, Tryz.ntmps43
    go_wp2_with fail
    go_quiet (fail)
    go_wp2_with fail
    go_ret
    refine ⟨ret_bool ?_, _, rfl⟩
    rw [toList_ext, show k + t.length - k = t.length by omega, take_prefix t _ (by rw [List.length_drop]; omega)]
  · have hl' : decide ((t.length : Int) ≤ (s.length : Int) - (k : Int)) = false := by rw [decide_eq_false_iff_not]; omega
    go_enter Tryz.func43, Tryz.ntmps43
    go_wp2_with fail
    go_quiet (fail)
    go_wp2_with fail
    go_ret
    exact ⟨ret_bool (not_prefix t _ (by rw [List.length_drop]; omega)).symm, _, rfl⟩

/-- The cells of the value that has nothing. -/
def vZero : Array Value := #[.int .i64 0, .int .i64 0, .int .i64 0, .float .f64 0, S [], .slice none 0 0, .slice none 0 0]

set_option maxHeartbeats 1000000 in
theorem fail_any (r : Nat) (s : List UInt8) (k bad deep what : Nat) (odd ends : Bool) (w : World) (hR : Rd w r s k bad deep odd ends) :
    Calls Tryz.prog 41 #[.pointer (some ⟨r, 0, none⟩), .int .i64 what] w fun e w' => e = .returned (.agg vZero) ∧
      Rd w' r s k (if bad = 0 then what else bad) deep odd ends ∧ Only w w' r := by
  obtain ⟨c0, c1, c2, c3, c4, c5⟩ := hR.cs
  obtain ⟨f1, f2, f3, f4, f5⟩ := hR.fs
  have hlt : r < w.heap.size := Blk.lt hR
  by_cases hb : bad = 0
  · subst hb
    go_enter Tryz.func41, Tryz.ntmps41
    go_wp2_with fail
    refine bodyPost_ret (v := .agg vZero) (by simp [results, Tryz.results41, go_sem, vZero]) rfl ⟨rfl, ?_, ?_⟩
    · exact Blk.alloc (Rd.bad_ hR what rfl) _
    · exact only_alloc (only_set (only_refl _ _) _ _) _
  · have tb : ((bad : Int) == 0) = false := by rw [beq_eq_false_iff_ne]; omega
    go_enter Tryz.func41, Tryz.ntmps41
    go_wp2_with fail
    refine bodyPost_ret (v := .agg vZero) (by simp [results, Tryz.results41, go_sem, vZero]) rfl ⟨rfl, ?_, ?_⟩
    · first | (rw [if_neg hb]; exact Blk.alloc hR _) | exact Blk.alloc hR _
    · exact only_alloc (only_refl _ _) _
end Go.Proofs.YtcpijmbdibgdmaaGreatDoor

namespace Go.Proofs.YtcpijmbdibgdmaaGreatDoor
open Go.RowKit

theorem Tryz.info5 : (Tryz.prog.info? 5).map (fun i => (i.zero, i.size, i.bytes)) = some (some (.int .u8 0), 1, 1) := by kernel_rfl

abbrev bcell (b : UInt8) : Value := .int .u8 b.toNat

/-- The slice value v holds just these bytes, in a block of the call's own (from base on), or is nil. -/
def Own (w : World) (base : Nat) (v : Value) (bs : List UInt8) : Prop := w.ownsRow base 5 1 v bs.length (bs.map bcell)

section
variable {w w' : World} {base : Nat} {v : Value} {bs : List UInt8}
theorem Own.nil (w : World) (base : Nat) : Own w base (.slice none 0 0) [] := World.ownsRow_nil _ _ _ _
theorem Own.alloc (h : Own w base v bs) (o : Obj) : Own (w.alloc o) base v bs := World.ownsRow.alloc h o
theorem Own.drew (h : Own w base v bs) : Own w.drew base v bs := h
theorem Own.drewN (h : Own w base v bs) (n : Nat) : Own (w.drewN n) base v bs := h
theorem Own.kept {row : Option Nat} (h : Own w base v bs) (hg : w.grownBy w' row) (hr : ∀ k, row = some k → k < base) : Own w' base v bs := by
  refine World.ownsRow.kept h hg ?_
  rcases hb : v.ownBlock with _ | k
  · exact .inl rfl
  · right; intro e; have := (World.ownsRow.lt h k hb).1; have := hr k e.symm; omega
theorem Own.set (h : Own w base v bs) {p : Addr} (hp : p.block < base) (u : Value) : Own (w.setCell p u) base v bs := by
  refine World.ownsRow.kept (row := some p.block) h ⟨rfl, rfl, rfl, by simp [World.setCell], fun k _ hne => Below.heap_setCell _ _ _ _ (fun e => hne (by rw [e]))⟩ ?_
  rcases hb : v.ownBlock with _ | k
  · exact .inl rfl
  · right; intro e; have := (World.ownsRow.lt h k hb).1; injection e with e; omega
theorem Own.below {B : Nat} (h : Own w base v bs) (hb : Below B w w') (hB : w.heap.size ≤ B) : Own w' base v bs := by
  refine World.ownsRow.kept (row := none) h ⟨hb.os, hb.tape, hb.output, hb.size, fun k hk _ => hb.block k (by omega)⟩ ?_
  rcases hb' : v.ownBlock with _ | k
  · exact .inl rfl
  · right; simp
theorem Own.lt (h : Own w base v bs) : ∀ k, v.ownBlock = some k → base ≤ k ∧ k < w.heap.size := World.ownsRow.lt h
end

theorem below_drewN {B : Nat} {a w : World} (h : Below B a w) (n : Nat) : Below B a (w.drewN n) := ⟨h.os, h.tape, h.output, h.size, h.block⟩

/-- What an append to a slice of the call's own leaves: block g alone may have changed of what the caller had. -/
theorem only_grown {a w w' : World} {g : Nat} {row : Option Nat} (h : Only a w g) (hg : w.grownBy w' row) (hr : ∀ k, row = some k → a.heap.size ≤ k) : Only a w' g :=
  ⟨hg.os.trans h.os, hg.tape.trans h.tape, hg.output.trans h.output, Nat.le_trans h.size hg.size, fun i hi hne =>
    (hg.block i (Nat.lt_of_lt_of_le hi h.size) (fun e => by have := hr i e.symm; omega)).trans (h.block i hi hne)⟩

theorem wp_app_byte {ops : Array Oper} {rest : List Oper} {o : Oper} {a : Act} {Q : Exit → Act → World → Prop} (w : World) (hgd : o.guard = none) (s x : Operand)
    (ho : o.op = .call { callee := .builtin .append, args := #[s, x], argTypes := #[40, 40] }) (base : Nat) (v : Value) (bs : List UInt8) (hs : a.eval s = v) (hown : Own w base v bs)
    (c : UInt8) (g : Nat) (hx : a.eval x = .slice (some ⟨g, 0, none⟩) 1 1) (hc : w.cell? ⟨g, 0, none⟩ = some (bcell c)) (hlen : bs.length ≤ 1099511627776) (hbase : base ≤ w.heap.size)
    (h : ∀ v' w', Own w' base v' (bs ++ [c]) → w.grownBy w' v.ownBlock → wpList Tryz.prog ops Q rest (a.put o.dst v') w') : wpList Tryz.prog ops Q (o :: rest) a w := by
  obtain ⟨i0, hi, hz0, hz1, hz2⟩ := info_parts Tryz.info5
  refine wpList_append_own w hgd s x 40 ho base 5 i0 (.int .u8 0) 1 1 Tryz.underlying40 hi hz0 hz1 hz2 rfl (by decide) v bs.length (bs.map bcell) hs hown ⟨g, 0, none⟩ 1 1 [bcell c] hx rfl ?_ ?_ ?_ ?_ hbase ?_
  · intro j u hj
    match j, hj with
    | 0, hj => simp at hj; subst hj; simpa [Addr.add] using hc
  · intro u hu; simp at hu; subst hu; rfl
  · unfold maxLen; omega
  · omega
  · intro v' w' h1 h2 _
    refine h v' w' ?_ h2
    unfold Own
    simpa using h1

theorem cell_new_byte (w : World) (c : UInt8) (g : Nat) (hg : g = w.heap.size) : (w.alloc (.cells #[bcell c] 5)).cell? ⟨g, 0, none⟩ = some (bcell c) := by
  subst hg
  exact Blk.cell (Blk.new w 5 #[bcell c]) 0

theorem fold_push (bs : List UInt8) : ∀ acc : List UInt8, (bs.map (fun b : UInt8 => (b.toNat : Int))).foldl (fun r n => r.push (UInt8.ofNat n.toNat)) (ByteArray.mk acc.toArray) = ByteArray.mk (acc ++ bs).toArray := by
  induction bs with
  | nil => intro acc; simp
  | cons b bs ih =>
    intro acc
    simp only [List.map_cons, List.foldl_cons, Int.toNat_natCast, UInt8.ofNat_toNat]
    have e : (ByteArray.mk acc.toArray).push b = ByteArray.mk (acc ++ [b]).toArray := by simp [ByteArray.push]
    rw [e, ih]
    simp

theorem run_str_own {w : World} {base : Nat} {v : Value} {bs : List UInt8} (h : Own w base v bs) : (convert 40 9 v).run Tryz.prog w = .ok (S bs) w := by
  rcases h.2 with ⟨rfl, hn⟩ | ⟨g, cap, cur, rfl, hb, hh, hnc, hcm, hsz, htk⟩
  · have : bs = [] := List.eq_nil_of_length_eq_zero hn
    subst this
    rw [run_convert_bytes_string w 40 9 5 _ _ _ Tryz.underlying40 Tryz.underlying5 Tryz.underlying9]
    simp [Conv.bytesToString]
    rfl
  · rw [run_convert_bytes_string w 40 9 5 _ _ _ Tryz.underlying40 Tryz.underlying5 Tryz.underlying9]
    rw [run_bytesToString w ⟨g, 0, none⟩ bs.length cap (bs.map fun b => (b.toNat : Int))]
    · have := fold_push bs []
      simp only [List.nil_append] at this
      exact congrArg (fun b => Result.ok (Value.string b) w) this
    · have hl := World.ownsRow.cells h (g := g) rfl
      have := run_loadCells_list (P := Tryz.prog) (w := w) ⟨g, 0, none⟩ (bs.map bcell) hl
      simpa [Function.comp_def] using this
end Go.Proofs.YtcpijmbdibgdmaaGreatDoor

namespace Go.Proofs.YtcpijmbdibgdmaaGreatDoor
open Go.RowKit
attribute [local go_sem] ba_get

/-- Hexadecimal digits up to the sign that ends them: what becomes of it (0: fine, 1: the text ends, 2: another sign), the bytes, how much of the text it takes, the mark. -/
def hexM : List UInt8 → Nat → Bool → Bool → Nat × List UInt8 × Nat × Bool
  | [], _, _, o => (1, [], 0, o)
  | b :: l, h, d, o =>
    if b.toNat = 62 then (0, if d = true then [UInt8.ofNat (h * 16)] else [], 1, o)
    else if whiteB b = true then ((hexM l h d (o || d || b.toNat == 0)).1, (hexM l h d (o || d || b.toNat == 0)).2.1, (hexM l h d (o || d || b.toNat == 0)).2.2.1 + 1, (hexM l h d (o || d || b.toNat == 0)).2.2.2)
    else if hexV b < 0 then (2, [], 1, o)
    else if d = true then ((hexM l h false o).1, UInt8.ofNat (h * 16 + (hexV b).toNat) :: (hexM l h false o).2.1, (hexM l h false o).2.2.1 + 1, (hexM l h false o).2.2.2)
    else ((hexM l (hexV b).toNat true o).1, (hexM l (hexV b).toNat true o).2.1, (hexM l (hexV b).toNat true o).2.2.1 + 1, (hexM l (hexV b).toNat true o).2.2.2)
/-- The hexadecimal string that begins at place k. -/
def hexAt (s : List UInt8) (k : Nat) (odd : Bool) : Nat × List UInt8 × Nat × Bool :=
  ((hexM (s.drop (k + 1)) 0 false odd).1, (hexM (s.drop (k + 1)) 0 false odd).2.1, (hexM (s.drop (k + 1)) 0 false odd).2.2.1 + (k + 1), (hexM (s.drop (k + 1)) 0 false odd).2.2.2)
def HexRel (s : List UInt8) (fin : Nat × List UInt8 × Nat × Bool) (j h : Nat) (d o : Bool) (bs : List UInt8) : Prop :=
  fin = ((hexM (s.drop j) h d o).1, bs ++ (hexM (s.drop j) h d o).2.1, (hexM (s.drop j) h d o).2.2.1 + j, (hexM (s.drop j) h d o).2.2.2)
def HexPost (w : World) (r : Nat) (s : List UInt8) (bad deep : Nat) (ends : Bool) (fin : Nat × List UInt8 × Nat × Bool) (e : Ending) (w' : World) : Prop :=
  e = .returned (S (if fin.1 = 0 then fin.2.1 else [])) ∧ fin.2.2.1 ≤ s.length ∧ Rd w' r s fin.2.2.1 (if fin.1 = 0 then bad else if bad = 0 then fin.1 else bad) deep fin.2.2.2 ends ∧ Only w w' r
theorem hexV_rng (b : UInt8) : -1 ≤ hexV b ∧ hexV b ≤ 15 := by unfold hexV; (repeat' split) <;> omega
theorem u8_val {n : Int} {m : Nat} (h : n = m) (hm : m < 256) : Value.int .u8 n = bcell (UInt8.ofNat m) := by
  subst h; simp [bcell, Nat.mod_eq_of_lt hm]
theorem cell_new_val (w : World) (v : Value) (c : UInt8) (g : Nat) (hg : g = w.heap.size) (hv : v = bcell c) : (w.alloc (.cells #[v] 5)).cell? ⟨g, 0, none⟩ = some (bcell c) := by
  subst hg hv
  exact Blk.cell (Blk.new w 5 #[bcell c]) 0

set_option maxHeartbeats 8000000 in
set_option maxRecDepth 100000 in
theorem hex_read (r : Nat) (s : List UInt8) (k bad deep : Nat) (odd ends : Bool) (w : World) (hk : k < s.length) (hs : s.length ≤ 1048576) (hR0 : Rd w r s k bad deep odd ends) :
    Calls Tryz.prog 45 #[.pointer (some ⟨r, 0, none⟩)] w (HexPost w r s bad deep ends (hexAt s k odd)) := by
  have hrB : r < w.heap.size := Blk.lt hR0
  obtain ⟨fin, hfin⟩ : ∃ fin, fin = hexAt s k odd := ⟨_, rfl⟩
  rw [← hfin]
  have Hf := Lib.hid hfin
  clear hfin
  obtain ⟨c0, c1, c2, c3, c4, c5⟩ := hR0.cs
  obtain ⟨f1, f2, f3, f4, f5⟩ := hR0.fs
  go_enter Tryz.func45, Tryz.ntmps45
  go_wp2_with fail
  go_loopg [3, 4, 5] (s.length - (k + 1)) (fun g v u x wr => ∃ j h bs d o, u = .int .i64 ((h : Nat) : Int) ∧ x = .bool d ∧ h ≤ 15 ∧ g + j = s.length ∧ bs.length ≤ j ∧ Rd wr r s j bad deep o ends ∧ Only w wr r ∧ Own wr w.heap.size v bs ∧ HexRel s fin j h d o bs)
  case atStart => exact ⟨k + 1, 0, [], false, odd, rfl, rfl, by omega, by omega, by simp, hR0.at_ (k + 1) rfl, only_set (only_refl _ _) _ _, Own.nil _ _, by unfold HexRel; rw [Hf.out]; unfold hexAt; simp⟩
  case round =>
    obtain ⟨j, h, bs, d, o, rfl, rfl, hh, hg, hbl, hR, hO, hown, A⟩ := hrel
    have A := Lib.hid A
    rename_i A0
    clear A0 hR0 c0 c1 c2 c3 c4 c5 f1 f2 f3 f4 f5
    have hsz := hO.size
    have hjl : j ≤ s.length := by omega
    have hg := Lib.hid hg
    rename_i hg0
    clear hg0
    obtain ⟨c0, c1, c2, c3, c4, c5⟩ := hR.cs
    obtain ⟨f1, f2, f3, f4, f5⟩ := hR.fs
    by_cases hlt : j < s.length
    · have tlt : decide ((j : Int) < (s.length : Int)) = true := by rw [decide_eq_true_eq]; omega
      go_wp2_with fail
      go_quiet (fail)
      go_wp2_with fail
      go_quiet (fail)
      by_cases h62 : s[j].toNat = 62
      · have t62 : ((s[j].toNat : Int) == 62) = true := by rw [beq_iff_eq]; omega
        have G62 := Lib.hid h62
        clear h62
        have E : Hid (fin = (0, bs ++ (if d = true then [UInt8.ofNat (h * 16)] else []), 1 + j, o)) := Lib.hid (by
          have A1 := A.out
          unfold HexRel at A1
          rw [A1, drop_at hlt, hexM, if_pos G62.out])
        cases d with
        | false =>
          have hcv : ∀ n x, (convert 40 9 u3).run Tryz.prog ((wr.drewN n).setCell ⟨r, 1, none⟩ x) = .ok (S bs) ((wr.drewN n).setCell ⟨r, 1, none⟩ x) := fun n x => run_str_own (Own.set (Own.drewN hown n) hrB x)
          go_wp2_with fail
          go_ret
          unfold HexPost
          rw [E.out]
          exact ⟨by simp, by simp only; omega, by rw [if_pos rfl, Nat.add_comm 1 j]; exact hR.at_ (j + 1) rfl, (by repeat first | exact hO | refine only_drewN ?_ _ | refine only_set ?_ _ _ | refine only_drew ?_)⟩
        | true =>
          obtain ⟨x, hx⟩ : ∃ x, x = UInt8.ofNat (h * 16) := ⟨_, rfl⟩
          have HX := Lib.hid hx
          rw [if_pos rfl, ← hx] at E
          clear hx
          go_wp2_with (at_builtin; refine wp_app_byte _ rfl _ _ rfl w.heap.size _ bs rfl ?c0 x _ rfl ?c1 ?c2 ?c3 ?_)
          case c0 => exact (by repeat first | exact hown | refine Own.alloc ?_ _ | refine Own.set ?_ (by simp; exact hrB) _ | refine Own.drewN ?_ _ | refine Own.drew ?_)
          case c1 =>
            refine cell_new_val _ _ x _ (by simp) ?_
            rw [HX.out]
            exact u8_val (by omega) (by omega)
          case c2 => omega
          case c3 => first | (simp; omega) | omega
          intro v1 w1 hown1 hg1
          have hR1 : Rd w1 r s (j + 1) bad deep o ends := Blk.grown (Blk.alloc ((hR.dr _).at_ (j + 1) rfl) _) hg1 (fun e => by have := (hown.lt r e.symm).1; omega)
          have hO1 : Only w w1 r := only_grown (only_alloc (by repeat first | exact hO | refine only_drewN ?_ _ | refine only_set ?_ _ _ | refine only_drew ?_) _) hg1 (fun q e => (hown.lt q e).1)
          have hcv : (convert 40 9 v1).run Tryz.prog w1 = .ok (S (bs ++ [x])) w1 := run_str_own hown1
          clear c0 c1 c2 c3 c4 c5 f1 f2 f3 f4 f5 hR hO hown
          go_wp2_with fail
          go_ret
          unfold HexPost
          rw [E.out]
          exact ⟨by simp, by simp only; omega, by rw [if_pos rfl, Nat.add_comm 1 j]; exact hR1, hO1⟩
      · have t62 : ((s[j].toNat : Int) == 62) = false := by rw [beq_eq_false_iff_ne]; omega
        cases hw : whiteB s[j] with
        | true =>
          have HW := Lib.hid hw
          clear hw
          have E : Hid (HexRel s fin (j + 1) h d (o || d || s[j].toNat == 0) bs) := Lib.hid (by
            have A1 := A.out
            unfold HexRel at A1 ⊢
            rw [A1, drop_at hlt, hexM, if_neg h62, if_pos HW.out]
            simp [Nat.add_assoc, Nat.add_comm 1])
          cases o with
          | true =>
            cases d
            all_goals
              go_wp2_with (go_at_call 67; refine (white_any s[j] _).mono ?_; rintro e w5 ⟨rfl, rfl⟩; simp only [HW.out])
              go_roundg (gk - 1)
              case measure => have := hg.out; omega
              case rel =>
                refine ⟨j + 1, h, bs, _, _, rfl, rfl, hh, by have := hg.out; omega, by omega, Rd.odd_ (((hR.dr _).at_ (j + 1) rfl)) true rfl, (by repeat first | exact hO | refine only_drewN ?_ _ | refine only_set ?_ _ _ | refine only_drew ?_), (by repeat first | exact hown | refine Own.alloc ?_ _ | refine Own.set ?_ (by simp; exact hrB) _ | refine Own.drewN ?_ _ | refine Own.drew ?_), ?_⟩
                simpa using E.out
          | false =>
            cases d with
            | true =>
              go_wp2_with (go_at_call 67; refine (white_any s[j] _).mono ?_; rintro e w5 ⟨rfl, rfl⟩; simp only [HW.out])
              go_roundg (gk - 1)
              case measure => have := hg.out; omega
              case rel =>
                refine ⟨j + 1, h, bs, _, _, rfl, rfl, hh, by have := hg.out; omega, by omega, Rd.odd_ (((hR.dr _).at_ (j + 1) rfl)) true rfl, (by repeat first | exact hO | refine only_drewN ?_ _ | refine only_set ?_ _ _ | refine only_drew ?_), (by repeat first | exact hown | refine Own.alloc ?_ _ | refine Own.set ?_ (by simp; exact hrB) _ | refine Own.drewN ?_ _ | refine Own.drew ?_), ?_⟩
                simpa using E.out
            | false =>
              by_cases h0 : s[j].toNat = 0
              · have t0 : ((s[j].toNat : Int) == 0) = true := by rw [beq_iff_eq]; omega
                rw [show (s[j].toNat == 0) = true by rw [beq_iff_eq]; exact h0] at E
                clear h0
                go_wp2_with (go_at_call 67; refine (white_any s[j] _).mono ?_; rintro e w5 ⟨rfl, rfl⟩; simp only [HW.out])
                go_roundg (gk - 1)
                case measure => have := hg.out; omega
                case rel =>
                  refine ⟨j + 1, h, bs, _, _, rfl, rfl, hh, by have := hg.out; omega, by omega, Rd.odd_ (((hR.dr _).at_ (j + 1) rfl)) true rfl, (by repeat first | exact hO | refine only_drewN ?_ _ | refine only_set ?_ _ _ | refine only_drew ?_), (by repeat first | exact hown | refine Own.alloc ?_ _ | refine Own.set ?_ (by simp; exact hrB) _ | refine Own.drewN ?_ _ | refine Own.drew ?_), ?_⟩
                  simpa using E.out
              · have t0 : ((s[j].toNat : Int) == 0) = false := by rw [beq_eq_false_iff_ne]; omega
                rw [show (s[j].toNat == 0) = false by rw [beq_eq_false_iff_ne]; exact h0] at E
                go_wp2_with (go_at_call 67; refine (white_any s[j] _).mono ?_; rintro e w5 ⟨rfl, rfl⟩; simp only [HW.out])
                go_roundg (gk - 1)
                case measure => have := hg.out; omega
                case rel =>
                  refine ⟨j + 1, h, bs, _, _, rfl, rfl, hh, by have := hg.out; omega, by omega, Rd.odd_ (((hR.dr _).at_ (j + 1) rfl)) false rfl, (by repeat first | exact hO | refine only_drewN ?_ _ | refine only_set ?_ _ _ | refine only_drew ?_), (by repeat first | exact hown | refine Own.alloc ?_ _ | refine Own.set ?_ (by simp; exact hrB) _ | refine Own.drewN ?_ _ | refine Own.drew ?_), ?_⟩
                  simpa using E.out
        | false =>
          have HW := Lib.hid hw
          clear hw
          have hv1 := hexV_rng s[j]
          by_cases hneg : hexV s[j] < 0
          · have tn : decide (hexV s[j] < 0) = true := by rw [decide_eq_true_eq]; exact hneg
            have E : Hid (fin = (2, bs ++ [], 1 + j, o)) := Lib.hid (by
              have A1 := A.out
              unfold HexRel at A1
              rw [A1, drop_at hlt, hexM, if_neg h62, if_neg (by simp [HW.out]), if_pos hneg])
            go_wp2_with (first | (go_at_call 67; refine (white_any s[j] _).mono ?_; rintro e w5 ⟨rfl, rfl⟩; simp only [HW.out]) | (go_at_call 73; refine (hex_any s[j] _).mono ?_; rintro e w6 ⟨rfl, rfl⟩))
            refine (fail_any r s (j + 1) bad deep 2 o ends _ ((hR.dr _).at_ (j + 1) rfl)).mono ?_
            rintro e w1 ⟨rfl, hR1, hO1⟩
            have hO2 : Only w w1 r := only_trans (by repeat first | exact hO | refine only_drewN ?_ _ | refine only_set ?_ _ _ | refine only_drew ?_) hO1
            clear c0 c1 c2 c3 c4 c5 f1 f2 f3 f4 f5 hR hO hown
            go_wp2_with fail
            go_ret
            unfold HexPost
            rw [E.out]
            exact ⟨rfl, by simp only; omega, by rw [Nat.add_comm 1 j]; exact hR1, hO2⟩
          · have tn : decide (hexV s[j] < 0) = false := by rw [decide_eq_false_iff_not]; exact hneg
            obtain ⟨q, hq⟩ : ∃ q : Nat, hexV s[j] = q := ⟨(hexV s[j]).toNat, by omega⟩
            have HQ := Lib.hid hq
            have hq15 : q ≤ 15 := by omega
            clear hq tn hv1 hneg
            cases d with
            | true =>
              obtain ⟨x, hx⟩ : ∃ x, x = UInt8.ofNat (h * 16 + q) := ⟨_, rfl⟩
              have HX := Lib.hid hx
              clear hx
              have E : Hid (HexRel s fin (j + 1) h false o (bs ++ [x])) := Lib.hid (by
                have A1 := A.out
                unfold HexRel at A1 ⊢
                rw [A1, drop_at hlt, hexM, if_neg h62, if_neg (by simp [HW.out]), if_neg (by rw [HQ.out]; omega), if_pos rfl, HQ.out, HX.out]
                simp [Nat.add_assoc, Nat.add_comm 1])
              go_wp2_with (first | (go_at_call 67; refine (white_any s[j] _).mono ?_; rintro e w5 ⟨rfl, rfl⟩; simp only [HW.out]) | (go_at_call 73; refine (hex_any s[j] _).mono ?_; rintro e w6 ⟨rfl, rfl⟩; simp only [HQ.out]) | (at_builtin; refine wp_app_byte _ rfl _ _ rfl w.heap.size _ bs rfl ?c0 x _ rfl ?c1 ?c2 ?c3 ?_))
              case c0 => exact (by repeat first | exact hown | refine Own.alloc ?_ _ | refine Own.set ?_ (by simp; exact hrB) _ | refine Own.drewN ?_ _ | refine Own.drew ?_)
              case c1 =>
                refine cell_new_val _ _ x _ (by simp) ?_
                rw [HX.out]
                exact u8_val (by omega) (by omega)
              case c2 => omega
              case c3 => first | (simp; omega) | omega
              intro v1 w1 hown1 hg1
              have hR1 : Rd w1 r s (j + 1) bad deep o ends := Blk.grown (Blk.alloc ((hR.dr _).at_ (j + 1) rfl) _) hg1 (fun e => by have := (hown.lt r e.symm).1; omega)
              have hO1 : Only w w1 r := only_grown (only_alloc (by repeat first | exact hO | refine only_drewN ?_ _ | refine only_set ?_ _ _ | refine only_drew ?_) _) hg1 (fun q e => (hown.lt q e).1)
              clear c0 c1 c2 c3 c4 c5 f1 f2 f3 f4 f5 hR hO hown
              go_wp2_with fail
              go_roundg (gk - 1)
              case measure => have := hg.out; omega
              case rel =>
                exact ⟨j + 1, h, _, _, _, rfl, rfl, hh, by have := hg.out; omega, by simp; omega, hR1, hO1, hown1, E.out⟩
            | false =>
              have E : Hid (HexRel s fin (j + 1) q true o bs) := Lib.hid (by
                have A1 := A.out
                unfold HexRel at A1 ⊢
                rw [A1, drop_at hlt, hexM, if_neg h62, if_neg (by simp [HW.out]), if_neg (by rw [HQ.out]; omega), if_neg (by simp), HQ.out]
                simp [Nat.add_assoc, Nat.add_comm 1])
              go_wp2_with (first | (go_at_call 67; refine (white_any s[j] _).mono ?_; rintro e w5 ⟨rfl, rfl⟩; simp only [HW.out]) | (go_at_call 73; refine (hex_any s[j] _).mono ?_; rintro e w6 ⟨rfl, rfl⟩; simp only [HQ.out]))
              go_roundg (gk - 1)
              case measure => have := hg.out; omega
              case rel =>
                exact ⟨j + 1, q, bs, _, _, rfl, rfl, hq15, by have := hg.out; omega, by omega, (hR.dr _).at_ (j + 1) rfl, (by repeat first | exact hO | refine only_drewN ?_ _ | refine only_set ?_ _ _ | refine only_drew ?_), (by repeat first | exact hown | refine Own.alloc ?_ _ | refine Own.set ?_ (by simp; exact hrB) _ | refine Own.drewN ?_ _ | refine Own.drew ?_), E.out⟩
    · have tlt : decide ((j : Int) < (s.length : Int)) = false := by rw [decide_eq_false_iff_not]; omega
      have E : Hid (fin = (1, bs ++ [], 0 + j, o)) := Lib.hid (by
        have A1 := A.out
        unfold HexRel at A1
        rw [A1, List.drop_eq_nil_of_le (by omega), hexM])
      go_wp2_with fail
      go_quiet (fail)
      go_wp2_with fail
      refine (fail_any r s j bad deep 1 o ends _ (hR.dr _)).mono ?_
      rintro e w1 ⟨rfl, hR1, hO1⟩
      have hO2 : Only w w1 r := only_trans (by repeat first | exact hO | refine only_drewN ?_ _ | refine only_set ?_ _ _ | refine only_drew ?_) hO1
      clear c0 c1 c2 c3 c4 c5 f1 f2 f3 f4 f5 hR hO hown
      go_wp2_with fail
      go_ret
      unfold HexPost
      rw [E.out]
      exact ⟨rfl, by simp only; omega, by rw [Nat.zero_add]; exact hR1, hO2⟩
end Go.Proofs.YtcpijmbdibgdmaaGreatDoor

namespace Go.Proofs.YtcpijmbdibgdmaaGreatDoor
open Go.RowKit
attribute [local go_sem] ba_get

/-- The bytes of a name as it is written; none: a # without two digits that are not 00. -/
def nbM : List UInt8 → Option (List UInt8)
  | [] => some []
  | b :: l =>
    if b.toNat ≠ 35 then (nbM l).map (b :: ·)
    else match l with
      | x :: y :: l' => if hexV x < 0 ∨ hexV y < 0 ∨ 16 * hexV x + hexV y = 0 then none else (nbM l').map (UInt8.ofNat (16 * hexV x + hexV y).toNat :: ·)
      | _ => none
theorem nbM_cons (b : UInt8) (l : List UInt8) : nbM (b :: l) = if b.toNat ≠ 35 then (nbM l).map (b :: ·) else match l with | x :: y :: l' => if hexV x < 0 ∨ hexV y < 0 ∨ 16 * hexV x + hexV y = 0 then none else (nbM l').map (UInt8.ofNat (16 * hexV x + hexV y).toNat :: ·) | _ => none := by
  rcases l with _ | ⟨x, _ | ⟨y, l⟩⟩ <;> simp [nbM]
theorem nbM_plain {b : UInt8} {l : List UInt8} (h : b.toNat ≠ 35) : nbM (b :: l) = (nbM l).map (b :: ·) := by rw [nbM_cons, if_pos h]
theorem nbM_two {b x y : UInt8} {l : List UInt8} (h : b.toNat = 35) : nbM (b :: x :: y :: l) = if hexV x < 0 ∨ hexV y < 0 ∨ 16 * hexV x + hexV y = 0 then none else (nbM l).map (UInt8.ofNat (16 * hexV x + hexV y).toNat :: ·) := by rw [nbM_cons, if_neg (by simp [h])]
theorem nbM_short {b : UInt8} {l : List UInt8} (h : b.toNat = 35) (hl : l.length < 2) : nbM (b :: l) = none := by
  match l, hl with
  | [], _ => rw [nbM_cons, if_neg (by simp [h])]
  | [x], _ => rw [nbM_cons, if_neg (by simp [h])]
  | x :: y :: l, hl => simp at hl; omega
/-- What NameBytes leaves. -/
def NbPost (w : World) (fin : Option (List UInt8)) (e : Ending) (w' : World) : Prop :=
  (match fin with | some out => e = .returned (.tuple #[S out, .bool true]) | none => e = .returned (.tuple #[S [], .bool false])) ∧ Below w.heap.size w w'
def NbRel (s : List UInt8) (fin : Option (List UInt8)) (i : Nat) (bs : List UInt8) : Prop := fin = (nbM (s.drop i)).map (bs ++ ·)

set_option maxHeartbeats 4000000 in
set_option maxRecDepth 100000 in
theorem nameBytes_any (s : List UInt8) (w : World) (hs : s.length ≤ 1048576) : Calls Tryz.prog 74 #[S s] w (NbPost w (nbM s)) := by
  obtain ⟨fin, hfin⟩ : ∃ fin, fin = nbM s := ⟨_, rfl⟩
  rw [← hfin]
  have Hf := Lib.hid hfin
  clear hfin
  go_enter Tryz.func74, Tryz.ntmps74
  go_wp2_with fail
  go_loopg [4, 5] s.length (fun g v u wr => ∃ i bs, u = .int .i64 ((i : Nat) : Int) ∧ i ≤ s.length ∧ g = s.length - i ∧ bs.length ≤ i ∧ Below w.heap.size w wr ∧ Own wr w.heap.size v bs ∧ NbRel s fin i bs)
  case atStart => exact ⟨0, [], rfl, by omega, rfl, by simp, Below.refl _ _, Own.nil _ _, by unfold NbRel; rw [Hf.out]; simp⟩
  case round =>
    obtain ⟨i, bs, rfl, hil, hg, hbl, hB, hown, A⟩ := hrel
    have A := Lib.hid A
    rename_i A0
    clear A0
    have hg := Lib.hid hg
    rename_i hg0
    clear hg0
    have hsz := hB.size
    by_cases hlt : i < s.length
    · have tlt : decide ((i : Int) < (s.length : Int)) = true := by rw [decide_eq_true_eq]; omega
      by_cases h35 : s[i].toNat = 35
      · have t35 : ((s[i].toNat : Int) != 35) = false := by rw [bne, (show ((s[i].toNat : Int) == 35) = true by rw [beq_iff_eq]; omega)]; rfl
        have G35 := Lib.hid h35
        clear h35
        by_cases h2 : i + 2 < s.length
        · have t2 : decide ((s.length : Int) ≤ (i : Int) + 2) = false := by rw [decide_eq_false_iff_not]; omega
          have E0 : Hid (s.drop i = s[i] :: s[i + 1] :: s[i + 2] :: s.drop (i + 3)) := Lib.hid (by rw [drop_at hlt, drop_at (show i + 1 < s.length by omega), drop_at h2])
          have hx1 := hexV_rng s[i + 1]
          have hx2 := hexV_rng s[i + 2]
          by_cases hn1 : hexV s[i + 1] < 0
          · have tn1 : decide (hexV s[i + 1] < 0) = true := by rw [decide_eq_true_eq]; exact hn1
            have E : Hid (fin = none) := Lib.hid (by
              have A1 := A.out
              unfold NbRel at A1
              rw [A1]
              rw [E0.out, nbM_two G35.out, if_pos (.inl hn1)]; rfl)
            go_wp2_with fail
            refine (hex_any s[i + 1] _).mono ?_
            rintro e w6 ⟨rfl, rfl⟩
            go_wp2_with fail
            go_ret2
            unfold NbPost
            rw [E.out]
            exact ⟨rfl, (by repeat first | exact hB | refine Below.alloc ?_ (by first | (simp; omega) | omega) _ | refine below_drewN ?_ _ | refine Below.drew ?_)⟩
          · have tn1 : decide (hexV s[i + 1] < 0) = false := by rw [decide_eq_false_iff_not]; exact hn1
            by_cases hn2 : hexV s[i + 2] < 0
            · have tn2 : decide (hexV s[i + 2] < 0) = true := by rw [decide_eq_true_eq]; exact hn2
              have E : Hid (fin = none) := Lib.hid (by
                have A1 := A.out
                unfold NbRel at A1
                rw [A1]
                rw [E0.out, nbM_two G35.out, if_pos (.inr (.inl hn2))]; rfl)
              go_wp2_with fail
              refine (hex_any s[i + 1] _).mono ?_
              rintro e w6 ⟨rfl, rfl⟩
              go_wp2_with fail
              refine (hex_any s[i + 2] _).mono ?_
              rintro e w6 ⟨rfl, rfl⟩
              go_wp2_with fail
              go_ret2
              unfold NbPost
              rw [E.out]
              exact ⟨rfl, (by repeat first | exact hB | refine Below.alloc ?_ (by first | (simp; omega) | omega) _ | refine below_drewN ?_ _ | refine Below.drew ?_)⟩
            · have tn2 : decide (hexV s[i + 2] < 0) = false := by rw [decide_eq_false_iff_not]; exact hn2
              have hb1 : 0 ≤ hexV s[i + 1] := by omega
              have hb2 : 0 ≤ hexV s[i + 2] := by omega
              clear hn1 hn2
              by_cases hz : 16 * hexV s[i + 1] + hexV s[i + 2] = 0
              · have tz : (16 * hexV s[i + 1] + hexV s[i + 2] == 0) = true := by rw [beq_iff_eq]; exact hz
                have HZ := Lib.hid hz
                clear hz
                have E : Hid (fin = none) := Lib.hid (by
                  have A1 := A.out
                  unfold NbRel at A1
                  rw [A1]
                  rw [E0.out, nbM_two G35.out, if_pos (.inr (.inr HZ.out))]; rfl)
                go_wp2_with fail
                refine (hex_any s[i + 1] _).mono ?_
                rintro e w6 ⟨rfl, rfl⟩
                go_wp2_with fail
                refine (hex_any s[i + 2] _).mono ?_
                rintro e w6 ⟨rfl, rfl⟩
                go_wp2_with fail
                refine wp_region_quiet_lit (by kernel_rfl) (by kernel_rfl) ?_
                repeat (go_big_quiet_step (fail))
                go_big_quiet_want; go_big_quiet_op
                apply Exists.intro
                refine ⟨fun _ => ?_, ?_⟩
                · first | exact quiet_left (hex_any s[i + 1] _) | exact quiet_add_left (hex_any s[i + 1] _)
                go_big_quiet_on
                repeat (go_big_quiet_step (fail))
                go_big_quiet_want; go_big_quiet_op
                apply Exists.intro
                refine ⟨fun _ => ?_, ?_⟩
                · first | exact quiet_left (hex_any s[i + 2] _) | exact quiet_add_left (hex_any s[i + 2] _)
                go_big_quiet_on
                repeat (go_big_quiet_step (fail))
                refine wpQuiet_nil ?_
                intro _ hw'
                obtain ⟨nq, hw''⟩ := hw'
                subst hw''
                go_wp2_with fail
                go_ret2
                unfold NbPost
                rw [E.out]
                exact ⟨rfl, (by repeat first | exact hB | refine Below.alloc ?_ (by first | (simp; omega) | omega) _ | refine below_drewN ?_ _ | refine Below.drew ?_)⟩
              · have tz : (16 * hexV s[i + 1] + hexV s[i + 2] == 0) = false := by rw [beq_eq_false_iff_ne]; exact hz
                obtain ⟨x, hx⟩ : ∃ x, x = UInt8.ofNat (16 * hexV s[i + 1] + hexV s[i + 2]).toNat := ⟨_, rfl⟩
                have HX := Lib.hid hx
                clear hx
                have E : Hid (NbRel s fin (i + 3) (bs ++ [x])) := Lib.hid (by
                  have A1 := A.out
                  unfold NbRel at A1 ⊢
                  rw [A1, E0.out, nbM_two G35.out, if_neg (by omega), HX.out, Option.map_map]
                  congr 1; funext q; simp)
                clear hz
                go_wp2_with fail
                refine (hex_any s[i + 1] _).mono ?_
                rintro e w6 ⟨rfl, rfl⟩
                go_wp2_with fail
                refine (hex_any s[i + 2] _).mono ?_
                rintro e w6 ⟨rfl, rfl⟩
                go_wp2_with fail
                refine wp_region_quiet_lit (by kernel_rfl) (by kernel_rfl) ?_
                repeat (go_big_quiet_step (fail))
                go_big_quiet_want; go_big_quiet_op
                apply Exists.intro
                refine ⟨fun _ => ?_, ?_⟩
                · first | exact quiet_left (hex_any s[i + 1] _) | exact quiet_add_left (hex_any s[i + 1] _)
                go_big_quiet_on
                repeat (go_big_quiet_step (fail))
                go_big_quiet_want; go_big_quiet_op
                apply Exists.intro
                refine ⟨fun _ => ?_, ?_⟩
                · first | exact quiet_left (hex_any s[i + 2] _) | exact quiet_add_left (hex_any s[i + 2] _)
                go_big_quiet_on
                repeat (go_big_quiet_step (fail))
                refine wpQuiet_nil ?_
                intro _ hw'
                obtain ⟨nq, hw''⟩ := hw'
                subst hw''
                go_wp2_with (at_builtin; refine wp_app_byte _ rfl _ _ rfl w.heap.size _ bs rfl ?c0 x _ rfl ?c1 ?c2 ?c3 ?_)
                case c0 => exact (by repeat first | exact hown | refine Own.alloc ?_ _ | refine Own.drewN ?_ _ | refine Own.drew ?_)
                case c1 =>
                  refine cell_new_val _ _ x _ (by simp) ?_
                  rw [HX.out]
                  exact u8_val (by omega) (by omega)
                case c2 => omega
                case c3 => first | (simp; omega) | omega
                intro v1 w1 hown1 hg1
                have hB1 : Below w.heap.size w w1 := Below.grown ((by repeat first | exact hB | refine Below.alloc ?_ (by first | (simp; omega) | omega) _ | refine below_drewN ?_ _ | refine Below.drew ?_)) hg1 (by first | (simp; omega) | omega) (fun q e => (hown.lt q e).1)
                clear hown hg1 tz tn1 tn2
                go_wp2_with fail
                go_roundg (gk - 3)
                case measure => have := hg.out; omega
                case rel =>
                  exact ⟨i + 3, _, by go_num, by omega, by have := hg.out; omega, by simp; omega, hB1, hown1, E.out⟩
        · have t2 : decide ((s.length : Int) ≤ (i : Int) + 2) = true := by rw [decide_eq_true_eq]; omega
          have E : Hid (fin = none) := Lib.hid (by
            have A1 := A.out
            unfold NbRel at A1
            rw [A1]
            rw [drop_at hlt, nbM_short G35.out (by rw [List.length_drop]; omega)]; rfl)
          go_wp2_with fail
          go_ret2
          unfold NbPost
          rw [E.out]
          exact ⟨rfl, (by repeat first | exact hB | refine Below.alloc ?_ (by first | (simp; omega) | omega) _ | refine below_drewN ?_ _ | refine Below.drew ?_)⟩
      · have t35 : ((s[i].toNat : Int) != 35) = true := by rw [bne, (show ((s[i].toNat : Int) == 35) = false by rw [beq_eq_false_iff_ne]; omega)]; rfl
        have E : Hid (NbRel s fin (i + 1) (bs ++ [s[i]])) := Lib.hid (by
          have A1 := A.out
          unfold NbRel at A1 ⊢
          rw [A1, drop_at hlt, nbM_plain h35, Option.map_map]
          congr 1; funext q; simp)
        go_wp2_with (at_builtin; refine wp_app_byte _ rfl _ _ rfl w.heap.size _ bs rfl ?c0 s[i] _ rfl ?c1 ?c2 ?c3 ?_)
        case c0 => exact (by repeat first | exact hown | refine Own.alloc ?_ _ | refine Own.drewN ?_ _ | refine Own.drew ?_)
        case c1 => exact cell_new_byte _ _ _ (by simp)
        case c2 => omega
        case c3 => first | (simp; omega) | omega
        intro v1 w1 hown1 hg1
        have hB1 : Below w.heap.size w w1 := Below.grown ((by repeat first | exact hB | refine Below.alloc ?_ (by first | (simp; omega) | omega) _ | refine below_drewN ?_ _ | refine Below.drew ?_)) hg1 (by first | (simp; omega) | omega) (fun q e => (hown.lt q e).1)
        clear hown hg1
        go_wp2_with fail
        go_roundg (gk - 1)
        case measure => have := hg.out; omega
        case rel => exact ⟨i + 1, _, by go_num, by omega, by have := hg.out; omega, by simp; omega, hB1, hown1, E.out⟩
    · have tlt : decide ((i : Int) < (s.length : Int)) = false := by rw [decide_eq_false_iff_not]; omega
      have E : Hid (fin = some bs) := Lib.hid (by
        have A1 := A.out
        unfold NbRel at A1
        rw [A1, List.drop_eq_nil_of_le (by omega)]; simp [nbM])
      have hcv : (convert 40 9 u4).run Tryz.prog wr = .ok (S bs) wr := run_str_own hown
      go_wp2_with fail
      go_ret2
      unfold NbPost
      rw [E.out]
      exact ⟨rfl, hB⟩

/-- A name that begins behind place k (its solidus is there): its bytes or none, the place behind it, the mark. -/
def nameAt (s : List UInt8) (k : Nat) (odd : Bool) : Option (List UInt8) × Nat × Bool :=
  (nbM ((s.drop (k + 1)).take (wordR (s.drop (k + 1)) odd).1), k + 1 + (wordR (s.drop (k + 1)) odd).1, (wordR (s.drop (k + 1)) odd).2 || shutAt (s.drop (k + 1 + (wordR (s.drop (k + 1)) odd).1)))
def NamePost (w : World) (r : Nat) (s : List UInt8) (bad deep : Nat) (ends : Bool) (fin : Option (List UInt8) × Nat × Bool) (e : Ending) (w' : World) : Prop :=
  e = .returned (S (fin.1.getD [])) ∧ fin.2.1 ≤ s.length ∧ Rd w' r s fin.2.1 (if fin.1.isSome = true ∨ bad ≠ 0 then bad else 2) deep fin.2.2 ends ∧ Only w w' r
theorem wordR_le : ∀ (l : List UInt8) (o : Bool), (wordR l o).1 ≤ l.length
  | [], _ => Nat.le_refl _
  | b :: l, o => by
    rw [wordR]
    split
    · have := wordR_le l (o || !plainB b); simp; omega
    · simp

set_option maxHeartbeats 1000000 in
theorem name_read (r : Nat) (s : List UInt8) (k bad deep : Nat) (odd ends : Bool) (w : World) (hk : k < s.length) (hs : s.length ≤ 1048576) (hR0 : Rd w r s k bad deep odd ends) :
    Calls Tryz.prog 46 #[.pointer (some ⟨r, 0, none⟩)] w (NamePost w r s bad deep ends (nameAt s k odd)) := by
  obtain ⟨fin, hfin⟩ : ∃ fin, fin = nameAt s k odd := ⟨_, rfl⟩
  rw [← hfin]
  have Hf := Lib.hid hfin
  clear hfin
  have hrB : r < w.heap.size := Blk.lt hR0
  have hwl := wordR_le (s.drop (k + 1)) odd
  rw [List.length_drop] at hwl
  obtain ⟨c0, c1, c2, c3, c4, c5⟩ := hR0.cs
  obtain ⟨f1, f2, f3, f4, f5⟩ := hR0.fs
  go_enter Tryz.func46, Tryz.ntmps46
  go_wp2_with fail
  refine (word_any r s (k + 1) bad deep odd ends _ (by omega) hs (hR0.at_ (k + 1) rfl)).mono ?_
  rintro e w1 ⟨rfl, hR1, hO1⟩
  have hO2 : Only w w1 r := only_trans (only_set (only_refl _ _) _ _) hO1
  clear c0 c1 c2 c3 c4 c5 f1 f2 f3 f4 f5 hR0 hO1
  obtain ⟨n, hn⟩ : ∃ n, n = (wordR (s.drop (k + 1)) odd).1 := ⟨_, rfl⟩
  obtain ⟨o, ho⟩ : ∃ o, o = (wordR (s.drop (k + 1)) odd).2 := ⟨_, rfl⟩
  rw [← hn, ← ho] at hR1
  rw [← hn]
  rw [← hn] at hwl
  have E : Hid (fin = (nbM ((s.drop (k + 1)).take n), k + 1 + n, o || shutAt (s.drop (k + 1 + n)))) := Lib.hid (by rw [Hf.out, nameAt, ← hn, ← ho])
  clear hn ho
  obtain ⟨t, ht⟩ : ∃ t, t = (s.drop (k + 1)).take n := ⟨_, rfl⟩
  rw [← ht] at E
  rw [← ht]
  have htl : t.length ≤ 1048576 := by rw [ht, List.length_take, List.length_drop]; omega
  clear ht
  go_wp2_with fail
  refine (nameBytes_any t w1 htl).mono ?_
  rintro e w2 ⟨he, hB⟩
  have hR2 : Rd w2 r s (k + 1 + n) bad deep (o || shutAt (s.drop (k + 1 + n))) ends := Blk.below hR1 hB (Blk.lt hR1)
  have hO3 : Only w w2 r := only_below hO2 hB
  obtain ⟨odd2, ho2⟩ : ∃ x, x = (o || shutAt (s.drop (k + 1 + n))) := ⟨_, rfl⟩
  rw [← ho2] at hR2 E
  clear ho2
  obtain ⟨q, hq⟩ : ∃ q, q = nbM t := ⟨_, rfl⟩
  rw [← hq] at he E
  have hql : k + 1 + n ≤ s.length := by omega
  clear hq hR1 hO2 hB
  cases q with
  | some out =>
    simp only at he
    subst he
    go_wp2_with fail
    go_ret
    unfold NamePost
    rw [E.out]
    exact ⟨rfl, hql, by simpa using hR2, hO3⟩
  | none =>
    simp only at he
    subst he
    go_wp2_with fail
    refine (fail_any r s (k + 1 + n) bad deep 2 odd2 ends _ hR2).mono ?_
    rintro e w3 ⟨rfl, hR3, hO4⟩
    have hO5 : Only w w3 r := only_trans hO3 hO4
    clear hR2 hO3 hO4
    go_wp2_with fail
    go_ret
    unfold NamePost
    rw [E.out]
    refine ⟨rfl, hql, ?_, hO5⟩
    by_cases hb : bad = 0
    · subst hb; simpa using hR3
    · simpa [hb] using hR3
end Go.Proofs.YtcpijmbdibgdmaaGreatDoor
