/-
  internal/strconv: decimal.Shift, shouldRoundUp, decimal.RoundedInteger.
  internal/strconv: decimal.floatBits.
-/
import Derived.Test.YtcpijmbdibgdmaaGreatDoorMe08
import Derived.WalkMore
import Derived.ScopeJumps
set_option linter.all false
namespace Go.Proofs.YtcpijmbdibgdmaaGreatDoor
open Go.RowKit
attribute [local go_sem] ba_get store_flt

/-- What a shift leaves. -/
def ShPost (w : World) (p N : Nat) (dp : Int) (neg tr : Bool) (e : Ending) (w' : World) : Prop :=
  e = .returned (.tuple #[]) ∧ (∃ arr', DB w' p arr' (nd N) dp neg tr ∧ arr'.take (nd N) = dg N) ∧ Only w w' p

set_option maxRecDepth 100000 in
set_option maxHeartbeats 2000000 in
theorem shiftR_any (p N k : Nat) (arr : List UInt8) (dp : Int) (neg tr : Bool) (w : World) (h : DB w p arr (nd N) dp neg tr) (h0 : N ≠ 0) (hn : nd N ≤ 800) (ht : arr.take (nd N) = dg N)
    (hk : 1 ≤ k ∧ k ≤ 60) (hL : nd (N * 5 ^ k) ≤ 800) (hdp : -100000 ≤ dp ∧ dp ≤ 100000) :
    Calls Tryz.prog 163 #[.pointer (some ⟨p, 0, none⟩), .int .i64 (-(k : Int))] w (ShPost w p (shR N k) (dpR N dp k) neg tr) := by
  have hR := right_any p N k arr dp neg tr w h h0 hn ht hk hL hdp
  have hne := nd_one h0
  have t1 : ((nd N : Int) == 0) = false := by rw [beq_eq_false_iff_ne]; omega
  have kn := h.cN
  have ek : IntKind.u64.wrap (- -(k : Int)) = (k : Int) := by rw [Int.neg_neg]; exact wrap_u64_nat (by omega)
  have t2 : decide ((0 : Int) < -(k : Int)) = false := by rw [decide_eq_false_iff_not]; omega
  have t3 : decide (-(k : Int) < 0) = true := by rw [decide_eq_true_eq]; omega
  have t4 : decide (-(k : Int) < -60) = false := by rw [decide_eq_false_iff_not]; omega
  have H0 := Lib.hid h0
  have Ht := Lib.hid ht
  clear h0 ht
  go_enter Tryz.func163, Tryz.ntmps163
  go_wp2_with fail
  refine wp_loop_rounds 1 ?_
  rw [rounds_succ]
  go_wp2_with fail
  refine hR.mono ?_
  rintro e w9 ⟨rfl, hD9, hO9⟩
  go_wp2_with fail
  go_end0
  exact ⟨rfl, hD9, hO9⟩

set_option maxRecDepth 100000 in
set_option maxHeartbeats 2000000 in
theorem shiftL_any (p N k lb lo lc : Nat) (arr : List UInt8) (dp : Int) (neg tr : Bool) (w : World) (hC : LC lb lo lc w) (h : DB w p arr (nd N) dp neg tr) (h0 : N ≠ 0) (hn : nd N ≤ 800) (ht : arr.take (nd N) = dg N)
    (hk : 1 ≤ k ∧ k ≤ 60) (hL : nd (N * 2 ^ k) < 800) (hdp : -100000 ≤ dp ∧ dp ≤ 100000) :
    Calls Tryz.prog 163 #[.pointer (some ⟨p, 0, none⟩), .int .i64 (k : Int)] w (ShPost w p (shL N k) (dpL N dp k) neg tr) := by
  have hR := left_any p N k lb lo lc arr dp neg tr w hC h h0 hn ht hk hL hdp
  have hne := nd_one h0
  have t1 : ((nd N : Int) == 0) = false := by rw [beq_eq_false_iff_ne]; omega
  have kn := h.cN
  have ek : IntKind.u64.wrap (k : Int) = (k : Int) := wrap_u64_nat (by omega)
  have t2 : 0 < k := by omega
  have t4 : decide (60 < (k : Int)) = false := by rw [decide_eq_false_iff_not]; omega
  have H0 := Lib.hid h0
  have Ht := Lib.hid ht
  clear h0 ht hC
  go_enter Tryz.func163, Tryz.ntmps163
  go_wp2_with fail
  refine wp_loop_rounds 1 ?_
  rw [rounds_succ]
  go_wp2_with fail
  refine hR.mono ?_
  rintro e w9 ⟨rfl, hD9, hO9⟩
  go_wp2_with fail
  go_end0
  exact ⟨rfl, hD9, hO9⟩

/-- The i-th digit. -/
def dgi (N i : Nat) : Nat := ((dg N)[i]?.getD 48).toNat - 48
theorem dgi_spec {N i : Nat} (h : i < nd N) : (dg N)[i]? = some (UInt8.ofNat (48 + dgi N i)) ∧ dgi N i ≤ 9 := by
  have h' : i < (dg N).length := h
  have hb := dg_digits N _ (List.getElem_mem h')
  unfold dgi
  rw [List.getElem?_eq_getElem h', Option.getD_some]
  refine ⟨?_, by omega⟩
  rw [show 48 + ((dg N)[i].toNat - 48) = (dg N)[i].toNat by omega, UInt8.ofNat_toNat]
theorem DB.di {w : World} {p N i : Nat} {arr : List UInt8} {n dp : Int} {neg tr : Bool} (h : DB w p arr n dp neg tr) (ht : arr.take (nd N) = dg N) (hi : i < nd N) : w.cell? ⟨p, i, none⟩ = some (.int .u8 ((48 + dgi N i : Nat) : Int)) := by
  obtain ⟨h1, h2⟩ := dgi_spec hi
  exact h.dv (by rw [take_get ht hi]; exact h1) (by omega)
/-- Whether it is rounded up at a digit. -/
def upF (N : Nat) (m : Int) : Bool :=
  if m < 0 ∨ (nd N : Int) ≤ m then false
  else if dgi N m.toNat = 5 ∧ m + 1 = nd N then decide (0 < m) && decide (dgi N (m.toNat - 1) % 2 ≠ 0)
  else decide (5 ≤ dgi N m.toNat)

set_option maxRecDepth 100000 in
set_option maxHeartbeats 4000000 in
theorem up_any (p N : Nat) (m : Int) (arr : List UInt8) (dp : Int) (neg : Bool) (w : World) (h : DB w p arr (nd N) dp neg false) (hn : nd N ≤ 800) (ht : arr.take (nd N) = dg N) (hm : -100000 ≤ m ∧ m ≤ 100000) :
    Calls Tryz.prog 217 #[.pointer (some ⟨p, 0, none⟩), .int .i64 m] w fun e w' => e = .returned (.bool (upF N m)) ∧ w = w' := by
  have kn := h.cN
  have kt := h.cT
  by_cases h1 : m < 0
  · have t1 : decide (m < 0) = true := by rw [decide_eq_true_eq]; exact h1
    have e : upF N m = false := by unfold upF; rw [if_pos (.inl h1)]
    rw [e]
    go_enter Tryz.func217, Tryz.ntmps217
    go_wp2_with fail
    go_ret
    exact ⟨rfl, rfl⟩
  by_cases h2 : (nd N : Int) ≤ m
  · have t1 : decide (m < 0) = false := by rw [decide_eq_false_iff_not]; exact h1
    have t2 : decide ((nd N : Int) ≤ m) = true := by rw [decide_eq_true_eq]; exact h2
    have e : upF N m = false := by unfold upF; rw [if_pos (.inr h2)]
    rw [e]
    go_enter Tryz.func217, Tryz.ntmps217
    go_wp2_with fail
    go_ret
    exact ⟨rfl, rfl⟩
  obtain ⟨i, rfl⟩ : ∃ i : Nat, m = i := ⟨m.toNat, by omega⟩
  have hi : i < nd N := by omega
  have hi8 : i < 800 := by omega
  have kd := h.di ht hi
  obtain ⟨d, hd⟩ : ∃ d, d = dgi N i := ⟨_, rfl⟩
  have hd9 : d ≤ 9 := by rw [hd]; exact (dgi_spec hi).2
  rw [← hd] at kd
  have e0 : upF N i = if d = 5 ∧ i + 1 = nd N then decide (0 < i) && decide (dgi N (i - 1) % 2 ≠ 0) else decide (5 ≤ d) := by
    unfold upF
    rw [if_neg (by omega), Int.toNat_natCast, ← hd]
    by_cases hx : d = 5 ∧ i + 1 = nd N
    · rw [if_pos hx, if_pos (by omega)]
      congr 1
      exact decide_eq_decide.2 (by omega)
    · rw [if_neg hx, if_neg (by omega)]
  rw [e0]
  clear e0 hd h1 h2
  have t1 : decide ((i : Int) < 0) = false := by rw [decide_eq_false_iff_not]; omega
  have t2 : decide ((nd N : Int) ≤ (i : Int)) = false := by rw [decide_eq_false_iff_not]; omega
  by_cases h5 : d = 5
  · subst h5
    by_cases hl : i + 1 = nd N
    · have t4 : ((i : Int) + 1 == (nd N : Int)) = true := by rw [beq_iff_eq]; omega
      rw [if_pos ⟨rfl, hl⟩]
      by_cases hi0 : i = 0
      · subst hi0
        have Hl := Lib.hid hl
        clear hl
        go_enter Tryz.func217, Tryz.ntmps217
        go_wp2_with fail
        go_ret
        exact ⟨rfl, rfl⟩
      · obtain ⟨j, rfl⟩ : ∃ j, i = j + 1 := ⟨i - 1, by omega⟩
        rw [Nat.add_sub_cancel]
        have kj := h.di ht (show j < nd N by omega)
        obtain ⟨c, hc⟩ : ∃ c, c = dgi N j := ⟨_, rfl⟩
        have hc9 : c ≤ 9 := by rw [hc]; exact (dgi_spec (by omega)).2
        rw [← hc] at kj
        rw [← hc]
        have Hl := Lib.hid hl
        clear hc hl
        go_enter Tryz.func217, Tryz.ntmps217
        go_wp2_with fail
        go_ret
        refine ⟨?_, rfl⟩
        have e : ((48 + (c : Int) - 48) % 2 != 0) = (decide (0 < j + 1) && decide (c % 2 ≠ 0)) := by
          rw [show decide (0 < j + 1) = true by simp, Bool.true_and, bne, Bool.eq_iff_iff]
          simp
          omega
        exact congrArg (fun b => Ending.returned (.bool b)) e
    · have t4 : ((i : Int) + 1 == (nd N : Int)) = false := by rw [beq_eq_false_iff_ne]; omega
      rw [if_neg (by omega)]
      have Hl := Lib.hid hl
      clear hl
      go_enter Tryz.func217, Tryz.ntmps217
      go_wp2_with fail
      go_ret
      exact ⟨rfl, rfl⟩
  · have t3 : (((48 + d : Nat) : Int) == 53) = false := by rw [beq_eq_false_iff_ne]; omega
    rw [if_neg (by omega)]
    by_cases h6 : 5 ≤ d
    · have t5 : decide ((53 : Int) ≤ ((48 + d : Nat) : Int)) = true := by rw [decide_eq_true_eq]; omega
      have e5 : decide (5 ≤ d) = true := by rw [decide_eq_true_eq]; exact h6
      rw [e5]
      clear h5 e5
      have T5 := Lib.hid t5
      go_enter Tryz.func217, Tryz.ntmps217
      go_wp2_with fail
      go_ret
      exact ⟨congrArg (fun b => Ending.returned (.bool b)) T5.out, rfl⟩
    · have t5 : decide ((53 : Int) ≤ ((48 + d : Nat) : Int)) = false := by rw [decide_eq_false_iff_not]; omega
      have e5 : decide (5 ≤ d) = false := by rw [decide_eq_false_iff_not]; exact h6
      rw [e5]
      clear h5 e5
      have T5 := Lib.hid t5
      go_enter Tryz.func217, Tryz.ntmps217
      go_wp2_with fail
      go_ret
      exact ⟨congrArg (fun b => Ending.returned (.bool b)) T5.out, rfl⟩

/-- The first i digits' number as it is reckoned. -/
def riN (N : Nat) : Nat → Int
  | 0 => 0
  | i + 1 => if i < nd N then IntKind.u64.wrap (IntKind.u64.wrap (riN N i * 10) + dgi N i) else IntKind.u64.wrap (riN N i * 10)
def riF (N : Nat) (dp : Int) : Int := if 20 < dp then 18446744073709551615 else if upF N dp = true then IntKind.u64.wrap (riN N dp.toNat + 1) else riN N dp.toNat

set_option maxRecDepth 100000 in
set_option maxHeartbeats 4000000 in
theorem ri_any (p N : Nat) (arr : List UInt8) (dp : Int) (neg : Bool) (w : World) (h : DB w p arr (nd N) dp neg false) (hn : nd N ≤ 800) (ht : arr.take (nd N) = dg N) (hm : -100000 ≤ dp ∧ dp ≤ 100000) :
    Calls Tryz.prog 239 #[.pointer (some ⟨p, 0, none⟩)] w fun e w' => e = .returned (.int .u64 (riF N dp)) ∧ w = w' := by
  have kn := h.cN
  have kp := h.cP
  by_cases h1 : 20 < dp
  · have t1 : decide (20 < dp) = true := by rw [decide_eq_true_eq]; exact h1
    have e : riF N dp = 18446744073709551615 := by unfold riF; rw [if_pos h1]
    rw [e]
    go_enter Tryz.func239, Tryz.ntmps239
    go_wp2_with fail
    go_ret
    exact ⟨rfl, rfl⟩
  have t1 : decide (20 < dp) = false := by rw [decide_eq_false_iff_not]; exact h1
  have hU := up_any p N dp arr dp neg w h hn ht hm
  obtain ⟨u, hu⟩ : ∃ u, u = upF N dp := ⟨_, rfl⟩
  rw [← hu] at hU
  have hF : riF N dp = if u = true then IntKind.u64.wrap (riN N dp.toNat + 1) else riN N dp.toNat := by unfold riF; rw [if_neg h1, ← hu]
  rw [hF]
  have Ht := Lib.hid ht
  clear hF hu ht h1
  go_enter Tryz.func239, Tryz.ntmps239
  go_wp2_with fail
  go_loopg [3, 4] (nd N) (fun g v3 v4 wr => ∃ i : Nat, v3 = .int .i64 i ∧ v4 = .int .u64 (riN N i) ∧ g + i = nd N ∧ (i = 0 ∨ (i : Int) ≤ dp) ∧ w = wr)
  case atStart => exact ⟨0, rfl, rfl, by omega, .inl rfl, rfl⟩
  case round =>
    obtain ⟨i, rfl, rfl, hg, hi, rfl⟩ := hrel
    have Hg := Lib.hid hg
    have Hi := Lib.hid hi
    have hiN : i ≤ nd N := by omega
    clear hg hi
    by_cases h1 : (i : Int) < dp
    · have t2 : decide ((i : Int) < dp) = true := by rw [decide_eq_true_eq]; exact h1
      by_cases h2 : i < nd N
      · have t3 : decide ((i : Int) < (nd N : Int)) = true := by rw [decide_eq_true_eq]; omega
        have kd := h.di Ht.out h2
        obtain ⟨x, hx⟩ : ∃ x, x = riN N i := ⟨_, rfl⟩
        obtain ⟨d, hd⟩ : ∃ d, d = dgi N i := ⟨_, rfl⟩
        have hd9 : d ≤ 9 := by rw [hd]; exact (dgi_spec h2).2
        rw [← hd] at kd
        rw [← hx]
        have Hx := Lib.hid hx
        have Hd := Lib.hid hd
        clear hx hd
        go_wp2_with fail
        go_roundg (gk - 1)
        case measure => have := Hg.out; omega
        case rel =>
          refine ⟨i + 1, rfl, ?_, by have := Hg.out; omega, .inr (by omega), rfl⟩
          rw [riN, if_pos h2, ← Hx.out, ← Hd.out]
          first | rfl | exact congrArg _ (congrArg _ (by omega))
      · have t3 : decide ((i : Int) < (nd N : Int)) = false := by rw [decide_eq_false_iff_not]; omega
        go_wp2_with fail
        go_loopg [3, 4] ((dp - i).toNat) (fun g v3 v4 wr => ∃ i : Nat, v3 = .int .i64 i ∧ v4 = .int .u64 (riN N i) ∧ g = (dp - i).toNat ∧ (i = 0 ∨ (i : Int) ≤ dp) ∧ (nd N ≤ i ∨ dp ≤ i) ∧ w = wr)
        case atStart => exact ⟨i, rfl, rfl, rfl, Hi.out, by omega, rfl⟩
        case round =>
          clear t2 Hg Hi hiN t3 h1 h2
          obtain ⟨i, rfl, rfl, hg, hi, hni, rfl⟩ := hrel
          have Hg := Lib.hid hg
          have Hi := Lib.hid hi
          have Hni := Lib.hid hni
          obtain ⟨x, hx⟩ : ∃ x, x = riN N i := ⟨_, rfl⟩
          rw [← hx]
          have Hx := Lib.hid hx
          have hi3 : i ≤ 100000 := by omega
          clear hx hg hni hi
          by_cases h3 : (i : Int) < dp
          · have t2 : decide ((i : Int) < dp) = true := by rw [decide_eq_true_eq]; exact h3
            go_wp2_with fail
            go_roundg ((dp - (i + 1 : Nat)).toNat)
            case measure => have := Hg.out; omega
            case rel =>
              refine ⟨i + 1, rfl, ?_, rfl, .inr (by omega), by have := Hni.out; omega, rfl⟩
              rw [riN, if_neg (by have := Hni.out; omega), ← Hx.out]
          · have t2 : decide ((i : Int) < dp) = false := by rw [decide_eq_false_iff_not]; exact h3
            have ei : Hid (i = dp.toNat) := Lib.hid (by have := Hi.out; omega)
            clear h3
            go_wp2_with fail
            refine hU.mono ?_
            rintro e w9 ⟨rfl, rfl⟩
            cases u with
            | true =>
              go_wp2_with fail
              go_ret
              refine ⟨?_, rfl⟩
              rw [← ei.out, ← Hx.out]
              rfl
            | false =>
              go_wp2_with fail
              go_ret
              refine ⟨?_, rfl⟩
              rw [← ei.out, ← Hx.out]
              rfl
    · have t2 : decide ((i : Int) < dp) = false := by rw [decide_eq_false_iff_not]; exact h1
      go_wp2_with fail
      go_loopg [3, 4] ((dp - i).toNat) (fun g v3 v4 wr => ∃ i : Nat, v3 = .int .i64 i ∧ v4 = .int .u64 (riN N i) ∧ g = (dp - i).toNat ∧ (i = 0 ∨ (i : Int) ≤ dp) ∧ (nd N ≤ i ∨ dp ≤ i) ∧ w = wr)
      case atStart => exact ⟨i, rfl, rfl, rfl, Hi.out, by omega, rfl⟩
      case round =>
        clear t2 Hg Hi hiN h1
        obtain ⟨i, rfl, rfl, hg, hi, hni, rfl⟩ := hrel
        have Hg := Lib.hid hg
        have Hi := Lib.hid hi
        have Hni := Lib.hid hni
        obtain ⟨x, hx⟩ : ∃ x, x = riN N i := ⟨_, rfl⟩
        rw [← hx]
        have Hx := Lib.hid hx
        have hi3 : i ≤ 100000 := by omega
        clear hx hg hni hi
        by_cases h3 : (i : Int) < dp
        · have t2 : decide ((i : Int) < dp) = true := by rw [decide_eq_true_eq]; exact h3
          go_wp2_with fail
          go_roundg ((dp - (i + 1 : Nat)).toNat)
          case measure => have := Hg.out; omega
          case rel =>
            refine ⟨i + 1, rfl, ?_, rfl, .inr (by omega), by have := Hni.out; omega, rfl⟩
            rw [riN, if_neg (by have := Hni.out; omega), ← Hx.out]
        · have t2 : decide ((i : Int) < dp) = false := by rw [decide_eq_false_iff_not]; exact h3
          have ei : Hid (i = dp.toNat) := Lib.hid (by have := Hi.out; omega)
          clear h3
          go_wp2_with fail
          refine hU.mono ?_
          rintro e w9 ⟨rfl, rfl⟩
          cases u with
          | true =>
            go_wp2_with fail
            go_ret
            refine ⟨?_, rfl⟩
            rw [← ei.out, ← Hx.out]
            rfl
          | false =>
            go_wp2_with fail
            go_ret
            refine ⟨?_, rfl⟩
            rw [← ei.out, ← Hx.out]
            rfl
end Go.Proofs.YtcpijmbdibgdmaaGreatDoor

namespace Go.Proofs.YtcpijmbdibgdmaaGreatDoor
open Go.RowKit
attribute [local go_sem] ba_get store_flt

/-- What stands of the package's variables that decimals are read with. -/
structure FI (lb lo lc pb po pc : Nat) (w : World) : Prop where
  v : w.cell? ⟨23, 0, none⟩ = some (.slice (some ⟨lb, lo, none⟩) 61 lc)
  d : ∀ k, 1 ≤ k → k ≤ 60 → w.cell? ⟨lb, lo + k * 2, none⟩ = some (.int .i64 ((k - nd (5 ^ k) + 1 : Nat) : Int)) ∧ w.cell? ⟨lb, lo + k * 2 + 1, none⟩ = some (S (dg (5 ^ k)))
  pv : w.cell? ⟨20, 0, none⟩ = some (.slice (some ⟨pb, po, none⟩) 9 pc)
  pe : ∀ j, j < 9 → w.cell? ⟨pb, po + j, none⟩ = some (.int .i64 (pw j : Nat))
  i0 : w.cell? ⟨17, 0, none⟩ = some (.int .u64 52)
  i1 : w.cell? ⟨17, 1, none⟩ = some (.int .u64 11)
  i2 : w.cell? ⟨17, 2, none⟩ = some (.int .i64 (-1023))
theorem FI.below {lb lo lc pb po pc B : Nat} {w w' : World} (h : FI lb lo lc pb po pc w) (hB : Below B w w') (h1 : lb < B) (h2 : pb < B) (h3 : 23 < B) : FI lb lo lc pb po pc w' where
  v := (hB.cell (p := ⟨23, 0, none⟩) h3).trans h.v
  d := fun k a b => ⟨(hB.cell (p := ⟨lb, lo + k * 2, none⟩) h1).trans (h.d k a b).1, (hB.cell (p := ⟨lb, lo + k * 2 + 1, none⟩) h1).trans (h.d k a b).2⟩
  pv := (hB.cell (p := ⟨20, 0, none⟩) (by show 20 < B; omega)).trans h.pv
  pe := fun j a => (hB.cell (p := ⟨pb, po + j, none⟩) h2).trans (h.pe j a)
  i0 := (hB.cell (p := ⟨17, 0, none⟩) (by show 17 < B; omega)).trans h.i0
  i1 := (hB.cell (p := ⟨17, 1, none⟩) (by show 17 < B; omega)).trans h.i1
  i2 := (hB.cell (p := ⟨17, 2, none⟩) (by show 17 < B; omega)).trans h.i2
theorem FI.lc {lb lo lc pb po pc : Nat} {w : World} (h : FI lb lo lc pb po pc w) : LC lb lo lc w := ⟨h.v, h.d⟩
theorem LC.drewN {lb lo lc : Nat} {w : World} (h : LC lb lo lc w) (n : Nat) : LC lb lo lc (w.drewN n) := ⟨h.v, h.d⟩
theorem below_only {B p : Nat} {a w w' : World} (h : Below B a w) (hO : Only w w' p) (hp : B ≤ p) (hB : B ≤ a.heap.size) : Below B a w' :=
  ⟨hO.os.trans h.os, hO.tape.trans h.tape, hO.output.trans h.output, Nat.le_trans h.size hO.size, fun i hi => (hO.block i (Nat.lt_of_lt_of_le (Nat.lt_of_lt_of_le hi hB) h.size) (by intro e; injection e with e; omega)).trans (h.block i hi)⟩

theorem wp_scope_forward {P : Program} {a : Act} {w : World} {Q : Exit → Act → World → Prop} {c rest : Code} (l : Nat) (hf : findLabel c l = some rest)
    (first : c.wp P (Exit.jump l (fun a' w' => rest.wp P (Exit.noGoto Q) a' w') Q) a w) : (Code.scope c).wp P Q a w := by
  refine wp_scope_jumps l _ (fun _ _ => 0) hf first (fun a w h => wp_mono h ?_)
  intro e a' w' hq
  cases e with
  | goto l => exact hq.elim
  | normal => exact hq
  | exit id => exact hq
  | ret => exact hq
  | panic ch => exact hq
  | outgrown => exact hq

/-- The mantissa and the exponent. -/
def fbB (b : Nat × Int × Int) : Int × Int :=
  if riF (shL b.1 53) (dpL b.1 b.2.1 53) = 9007199254740992 then (4503599627370496, b.2.2 - 1 + 1)
  else (riF (shL b.1 53) (dpL b.1 b.2.1 53), if bits BinOp.and IntKind.u64 (riF (shL b.1 53) (dpL b.1 b.2.1 53)) 4503599627370496 = 0 then -1023 else b.2.2 - 1)
def fbM (N : Nat) (dp : Int) : Int × Int := fbB (lp2 240 (lp1 80 N dp 0).1 (lp1 80 N dp 0).2.1 (lp1 80 N dp 0).2.2)
/-- The bits put together. -/
def fbA (x : Int × Int) : Int := bits BinOp.or IntKind.u64 (bits BinOp.and IntKind.u64 x.1 4503599627370495) (IntKind.u64.wrap (IntKind.u64.wrap (bits BinOp.and IntKind.i64 (x.2 + 1023) 2047) * 4503599627370496))
def fbF (N : Nat) (dp : Int) (neg : Bool) : Int := if neg then bits BinOp.or IntKind.u64 (fbA (fbM N dp)) 9223372036854775808 else fbA (fbM N dp)
theorem fbA_eq {m e x : Int} (h : x = e + 1023) : bits BinOp.or IntKind.u64 (bits BinOp.and IntKind.u64 m 4503599627370495) (IntKind.u64.wrap (IntKind.u64.wrap (bits BinOp.and IntKind.i64 x 2047) * 4503599627370496)) = fbA (m, e) := by rw [h]; rfl
theorem low_head {N : Nat} {dp : Int} (h0 : N ≠ 0) : dlowB N dp = (decide (dp < 0) || (decide (dp = 0) && decide (dgi N 0 < 5))) := by
  have h1 := nd_one h0
  obtain ⟨h2, h3⟩ := dgi_spec (N := N) (i := 0) (by omega)
  unfold dlowB
  congr 2
  rw [h2, Option.getD_some, UInt8.toNat_ofNat']
  exact decide_eq_decide.2 (by omega)

set_option maxRecDepth 100000 in
set_option maxHeartbeats 16000000 in
theorem fb_any (p N lb lo lc pb po pc B : Nat) (arr : List UInt8) (dp : Int) (neg : Bool) (w : World) (hI : FI lb lo lc pb po pc w) (h1 : lb < B) (h2 : pb < B) (h3 : 23 < B) (hp : B ≤ p) (hBw : B ≤ w.heap.size)
    (h : DB w p arr (nd N) dp neg false) (h0 : N ≠ 0) (hn : nd N ≤ 60) (ht : arr.take (nd N) = dg N) (hd1 : -60 ≤ dp) (hd2 : dp ≤ 14) :
    Calls Tryz.prog 197 #[.pointer (some ⟨p, 0, none⟩), .pointer (some ⟨17, 0, none⟩)] w fun e w' => e = .returned (.tuple #[.int .u64 (fbF N dp neg), .bool false]) ∧ Only w w' p := by
  have kn := h.cN
  have kp := h.cP
  have hne := nd_one h0
  have t1 : ((nd N : Int) == 0) = false := by rw [beq_eq_false_iff_ne]; omega
  have t2 : decide (310 < dp) = false := by rw [decide_eq_false_iff_not]; omega
  have t3 : decide (dp < -330) = false := by rw [decide_eq_false_iff_not]; omega
  have H0 := Lib.hid h0
  have Ht := Lib.hid ht
  have HI := Lib.hid hI
  clear h0 ht hI
  go_enter Tryz.func197, Tryz.ntmps197
  go_wp2_with fail
  refine wp_scope_forward 0 rfl ?_
  · go_wp2_with fail
    go_loopg [6] 80 (fun g v6 wr => ∃ (N1 s : Nat) (dp1 : Int) (arr1 : List UInt8), v6 = .int .i64 s ∧ In1 N dp (lp1 80 N dp 0) N1 dp1 s g ∧ DB wr p arr1 (nd N1) dp1 neg false ∧ arr1.take (nd N1) = dg N1 ∧ Only w wr p)
    case atStart => exact ⟨N, 0, dp, arr, rfl, In1.start H0.out hd1 hd2, h, Ht.out, only_refl _ _⟩
    case round =>
      clear kn kp t1 t2 t3 h
      obtain ⟨N1, s, dp1, arr1, rfl, hin, hD, hta, hO⟩ := hrel
      have Hta := Lib.hid hta
      clear hta
      have kn := hD.cN
      have kp := hD.cP
      have hs := hin.sm
      have hndb := hin.nd_
      have hdlo := hin.lo
      have hdhi := hin.hi
      by_cases hd : 0 < dp1
      · obtain ⟨hst, hf0, hs46⟩ := hin.step hd2 hd
        have hIr := HI.out.below (below_only (Below.refl B w) hO hp hBw) h1 h2 h3
        obtain ⟨j, rfl⟩ : ∃ j : Nat, dp1 = j := ⟨dp1.toNat, by omega⟩
        rw [Int.toNat_natCast] at hst
        have hpw := pw_pos j
        obtain ⟨k, hk⟩ : ∃ k, k = pw j := ⟨_, rfl⟩
        rw [← hk] at hst hpw
        have hS := fun n => shiftR_any p N1 k arr1 j neg false (wr.drewN n) (hD.drewN n) hin.ne (by omega) Hta.out (by omega) (by have := nd_mul_le (N := N1) (k := k) (c := 5) (by decide); omega) (by omega)
        have pv := hIr.pv
        have HS := Lib.hid hS
        have t1 : decide (0 < (j : Int)) = true := by rw [decide_eq_true_eq]; exact hd
        have hj0 : 0 < j := by omega
        clear hS
        by_cases h9 : 9 ≤ j
        · have t9 : decide (9 ≤ (j : Int)) = true := by rw [decide_eq_true_eq]; omega
          have ek : k = 27 := by rw [hk]; unfold pw; rw [if_pos h9]
          subst ek
          clear hk
          go_wp2_with fail
          go_quiet (fail)
          go_wp2_with fail
          refine (HS.out _).mono ?_
          rintro e w9 ⟨rfl, ⟨arr9, hD9, hta9⟩, hO9⟩
          go_wp2_with fail
          go_roundg (gk - 1)
          case measure => omega
          case rel => exact ⟨_, s + 27, _, arr9, rfl, hst, hD9, hta9, only_trans (only_drewN hO _) hO9⟩
        · have t9 : decide (9 ≤ (j : Int)) = false := by rw [decide_eq_false_iff_not]; omega
          have pe := hIr.pe j (by omega)
          rw [← hk] at pe
          have Hk := Lib.hid hk
          clear hk
          go_wp2_with fail
          go_quiet (fail)
          go_wp2_with fail
          go_quiet (fail)
          go_wp2_with fail
          refine (HS.out _).mono ?_
          rintro e w9 ⟨rfl, ⟨arr9, hD9, hta9⟩, hO9⟩
          go_wp2_with fail
          go_roundg (gk - 1)
          case measure => omega
          case rel => exact ⟨_, s + k, _, arr9, rfl, hst, hD9, hta9, only_trans (only_drewN hO _) hO9⟩
      · have t1 : decide (0 < dp1) = false := by rw [decide_eq_false_iff_not]; exact hd
        have hfin := hin.stop hd
        have Hfin := Lib.hid hfin
        clear hfin
        have hN1 := hin.ne
        go_upto_block 2 with fail
        go_cut [6] from 61 to 102 (fun v6 wc => ∃ (N2 s2 : Nat) (dp2 : Int) (arr2 : List UInt8), v6 = .int .i64 ((s : Int) - s2) ∧ lp2 240 N1 dp1 s = (N2, dp2, (s : Int) - s2) ∧ N2 ≠ 0 ∧ nd N2 ≤ 400 ∧ -60 ≤ dp2 ∧ dp2 ≤ 27 ∧ s2 ≤ 229 ∧ DB wc p arr2 (nd N2) dp2 neg false ∧ arr2.take (nd N2) = dg N2 ∧ Only w wc p)
        case first =>
          go_wp2_with fail
          go_loopg [6] 240 (fun g v6 wr => ∃ (N2 s2 : Nat) (dp2 : Int) (arr2 : List UInt8), v6 = .int .i64 ((s : Int) - s2) ∧ In2 N1 dp1 s (lp2 240 N1 dp1 s) N2 dp2 s2 g ∧ DB wr p arr2 (nd N2) dp2 neg false ∧ arr2.take (nd N2) = dg N2 ∧ Only w wr p)
          case atStart => exact ⟨N1, 0, dp1, arr1, congrArg _ (by omega), In2.start hN1 hdlo hd, hD, Hta.out, hO⟩
          case round =>
            clear hin hD hO Hta kn kp t1
            obtain ⟨N2, s2, dp2, arr2, rfl, hin, hD, hta, hO⟩ := hrel
            have Hta := Lib.hid hta
            clear hta
            have kn := hD.cN
            have kp := hD.cP
            have hs2 := hin.sm
            have hndb2 := hin.nd_
            have hdlo2 := hin.lo
            have hdhi2 := hin.hi
            have hIr := HI.out.below (below_only (Below.refl B w) hO hp hBw) h1 h2 h3
            have pv := hIr.pv
            have hl := low_head (dp := dp2) hin.ne
            have hne2 := nd_one hin.ne
            have kd0 := hD.di Hta.out (show 0 < nd N2 by omega)
            obtain ⟨d, hdd⟩ : ∃ d, d = dgi N2 0 := ⟨_, rfl⟩
            have hd9 : d ≤ 9 := by rw [hdd]; exact (dgi_spec (by omega)).2
            rw [← hdd] at kd0 hl
            clear hdd
            cases hlow : dlowB N2 dp2 with
            | true =>
              obtain ⟨hst, hf0, hs202⟩ := hin.step hN1 hdlo hlow
              have hd0 := low_le hlow
              by_cases hz : dp2 = 0
              · subst hz
                have hst : In2 N1 dp1 s (lp2 240 N1 dp1 s) (shL N2 1) (dpL N2 0 1) (s2 + 1) (gk - 1) := hst
                have hS := fun n => shiftL_any p N2 1 lb lo lc arr2 0 neg false (wr.drewN n) (hIr.lc.drewN n) (hD.drewN n) hin.ne (by omega) Hta.out (by omega) (by have := nd_mul_le (N := N2) (k := 1) (c := 2) (by decide); omega) (by omega)
                have HS := Lib.hid hS
                have hd5 : d < 5 := by rw [hlow] at hl; simpa using hl
                have pe : wr.cell? ⟨pb, po, none⟩ = some (.int .i64 1) := hIr.pe 0 (by omega)
                have t8 : decide (((48 + d : Nat) : Int) < 53) = true := by rw [decide_eq_true_eq]; omega
                clear hS hl hlow
                go_wp2_with fail
                go_quiet (fail)
                go_wp2_with fail
                go_quiet (fail)
                go_wp2_with fail
                refine (HS.out _).mono ?_
                rintro e w9 ⟨rfl, ⟨arr9, hD9, hta9⟩, hO9⟩
                go_wp2_with fail
                go_roundg (gk - 1)
                case measure => omega
                case rel => exact ⟨_, s2 + 1, _, arr9, congrArg _ (by omega), hst, hD9, hta9, only_trans (only_drewN hO _) hO9⟩
              · obtain ⟨j, rfl⟩ : ∃ j : Nat, dp2 = -(j : Int) := ⟨(-dp2).toNat, by omega⟩
                have hj0 : 0 < j := by omega
                have ejj : (- -(j : Int)).toNat = j := by omega
                rw [ejj] at hst
                have hpw := pw_pos j
                obtain ⟨k, hk⟩ : ∃ k, k = pw j := ⟨_, rfl⟩
                rw [← hk] at hst hpw
                have hS := fun n => shiftL_any p N2 k lb lo lc arr2 (-(j : Int)) neg false (wr.drewN n) (hIr.lc.drewN n) (hD.drewN n) hin.ne (by omega) Hta.out (by omega) (by have := nd_mul_le (N := N2) (k := k) (c := 2) (by decide); omega) (by omega)
                have HS := Lib.hid hS
                have t8 : decide (-(j : Int) < 0) = true := by rw [decide_eq_true_eq]; omega
                clear hS hl hlow hz
                by_cases h9 : 9 ≤ j
                · have ek : k = 27 := by rw [hk]; unfold pw; rw [if_pos h9]
                  subst ek
                  clear hk
                  go_wp2_with fail
                  go_quiet (fail)
                  go_wp2_with fail
                  refine (HS.out _).mono ?_
                  rintro e w9 ⟨rfl, ⟨arr9, hD9, hta9⟩, hO9⟩
                  go_wp2_with fail
                  go_roundg (gk - 1)
                  case measure => omega
                  case rel => exact ⟨_, s2 + 27, _, arr9, congrArg _ (by omega), hst, hD9, hta9, only_trans (only_drewN hO _) hO9⟩
                · have pe := hIr.pe j (by omega)
                  rw [← hk] at pe
                  have Hk := Lib.hid hk
                  clear hk
                  go_wp2_with fail
                  go_quiet (fail)
                  go_wp2_with fail
                  go_quiet (fail)
                  go_wp2_with fail
                  refine (HS.out _).mono ?_
                  rintro e w9 ⟨rfl, ⟨arr9, hD9, hta9⟩, hO9⟩
                  go_wp2_with fail
                  go_roundg (gk - 1)
                  case measure => omega
                  case rel => exact ⟨_, s2 + k, _, arr9, congrArg _ (by omega), hst, hD9, hta9, only_trans (only_drewN hO _) hO9⟩
            | false =>
              have Hlow := Lib.hid hlow
              rw [hl] at hlow
              clear hl
              by_cases hz : dp2 = 0
              · subst hz
                have hd5 : ¬ d < 5 := by simpa using hlow
                have t8 : decide (((48 + d : Nat) : Int) < 53) = false := by rw [decide_eq_false_iff_not]; omega
                clear hlow
                have hfin2 := hin.stop (by rw [Hlow.out]; decide)
                have hn2 := hin.ne
                go_wp2_with fail
                go_meet
                case rel => exact ⟨N2, s2, _, arr2, rfl, hfin2, hn2, by omega, by omega, by omega, by omega, hD, Hta.out, hO⟩
              · have hpos : 0 < dp2 := by
                  rcases Int.lt_or_le 0 dp2 with h | h
                  · exact h
                  · exfalso
                    have : decide (dp2 < 0) = true := by rw [decide_eq_true_eq]; omega
                    rw [this] at hlow
                    simp at hlow
                have t8 : decide (dp2 < 0) = false := by rw [decide_eq_false_iff_not]; omega
                have t9 : (dp2 == 0) = false := by rw [beq_eq_false_iff_ne]; omega
                clear hlow
                have hfin2 := hin.stop (by rw [Hlow.out]; decide)
                have hn2 := hin.ne
                go_wp2_with fail
                go_meet
                case rel => exact ⟨N2, s2, _, arr2, rfl, hfin2, hn2, by omega, by omega, by omega, by omega, hD, Hta.out, hO⟩
        case rest =>
          clear hD hO Hta kn kp t1
          obtain ⟨N2, s2, dp2, arr2, rfl, hfin2, hN2, hnd2, hdlo2, hdhi2, hs2, hD, hta, hO⟩ := hcut
          have Hta := Lib.hid hta
          have kn := hD.cN
          have kp := hD.cP
          obtain ⟨e0, he0⟩ : ∃ e0 : Int, e0 = (s : Int) - (s2 : Int) := ⟨_, rfl⟩
          rw [← he0] at hfin2 ⊢
          have hIr := HI.out.below (below_only (Below.refl B w) hO hp hBw) h1 h2 h3
          have hL53 : nd (N2 * 2 ^ 53) < 800 := by have := nd_mul_le (N := N2) (k := 53) (c := 2) (by decide); omega
          have hdl := dpL_le N2 dp2 53
          have hdg := dpL_ge N2 dp2 53
          have hS := fun n => shiftL_any p N2 53 lb lo lc arr2 dp2 neg false (wc.drewN n) (hIr.lc.drewN n) (hD.drewN n) hN2 (by omega) Hta.out (by omega) hL53 (by omega)
          have HS := Lib.hid hS
          have hB1 : fbM N dp = fbB (N2, dp2, e0) := by unfold fbM; rw [Hfin.out, hfin2]
          have HB1 := Lib.hid hB1
          have i0 := hIr.i0
          have i1 := hIr.i1
          have i2 := hIr.i2
          have hN3 : nd (shL N2 53) ≤ 800 := by have := shL_nd hN2 53; omega
          have HN2 := Lib.hid hN2
          have te1 : decide (e0 - 1 < -1022) = false := by rw [decide_eq_false_iff_not]; omega
          have te2 : decide (2047 ≤ e0 - 1 - -1023) = false := by rw [decide_eq_false_iff_not]; omega
          have he3 : -400 ≤ e0 ∧ e0 ≤ 100 := by omega
          clear hS hin hfin2 he0 hB1 hta hN2
          go_wp2_with fail
          go_quiet (fail)
          go_wp2_with fail
          refine (HS.out _).mono ?_
          rintro e w9 ⟨rfl, ⟨arr3, hD3, hta3⟩, hO3⟩
          have hO9 : Only w w9 p := only_trans (only_drewN hO _) hO3
          clear i0 i1 i2 hIr hD hO kn kp hO3
          have hIr := HI.out.below (below_only (Below.refl B w) hO9 hp hBw) h1 h2 h3
          have i0 := hIr.i0
          have i1 := hIr.i1
          have i2 := hIr.i2
          have kg := hD3.cG
          have hRI := ri_any p (shL N2 53) arr3 (dpL N2 dp2 53) neg w9 hD3 hN3 hta3 (by omega)
          obtain ⟨m, hm⟩ : ∃ m, m = riF (shL N2 53) (dpL N2 dp2 53) := ⟨_, rfl⟩
          rw [← hm] at hRI
          have HB2 : Hid (fbM N dp = if m = 9007199254740992 then (4503599627370496, e0 - 1 + 1) else (m, if bits BinOp.and IntKind.u64 m 4503599627370496 = 0 then -1023 else e0 - 1)) := Lib.hid (by rw [HB1.out]; unfold fbB; simp only; rw [← hm])
          clear hm HB1
          go_wp2_with fail
          refine hRI.mono ?_
          rintro e w10 ⟨rfl, rfl⟩
          by_cases hm : m = 9007199254740992
          · subst hm
            have te3 : decide (2047 ≤ e0 - 1 + 1 - -1023) = false := by rw [decide_eq_false_iff_not]; omega
            have ef : fbM N dp = (4503599627370496, e0) := by have := HB2.out; simpa using this
            have Ef := Lib.hid ef
            clear ef HB2
            go_wp2_with fail
            go_quiet (fail)
            go_wp2_with fail
            go_step3
            go_wp2_with fail
            refine ⟨rfl, ?_⟩
            go_wp2_with fail
            cases neg with
            | true =>
              go_quiet (fail)
              go_wp2_with fail
              go_quiet (fail)
              go_wp2_with fail
              rw [Exit.noGoto_ret]
              go_wp2_with fail
              go_ret2
              refine ⟨?_, (by repeat first | with_reducible exact hO9 | refine only_drewN ?_ _)⟩
              rw [show fbF N dp true = bits BinOp.or IntKind.u64 (fbA (fbM N dp)) 9223372036854775808 from rfl, Ef.out]
              exact congrArg (fun x => Ending.returned (.tuple #[.int .u64 (bits BinOp.or IntKind.u64 x 9223372036854775808), .bool false])) (fbA_eq (by omega))
            | false =>
              go_quiet (fail)
              go_wp2_with fail
              rw [Exit.noGoto_ret]
              go_wp2_with fail
              go_ret2
              refine ⟨?_, (by repeat first | with_reducible exact hO9 | refine only_drewN ?_ _)⟩
              rw [show fbF N dp false = fbA (fbM N dp) from rfl, Ef.out]
              exact congrArg (fun x => Ending.returned (.tuple #[.int .u64 x, .bool false])) (fbA_eq (by omega))
          · have tm : (m == 9007199254740992) = false := by rw [beq_eq_false_iff_ne]; exact hm
            by_cases hz : bits BinOp.and IntKind.u64 m 4503599627370496 = 0
            · have tz : (bits BinOp.and IntKind.u64 m 4503599627370496 == 0) = true := by rw [beq_iff_eq]; exact hz
              have ef : fbM N dp = (m, -1023) := by rw [HB2.out, if_neg hm, if_pos hz]
              have Ef := Lib.hid ef
              have Hm := Lib.hid hm
              have Hz := Lib.hid hz
              clear hm hz ef HB2
              go_wp2_with fail
              go_step3
              go_wp2_with fail
              refine ⟨rfl, ?_⟩
              go_wp2_with fail
              cases neg with
              | true =>
                go_quiet (fail)
                go_wp2_with fail
                go_quiet (fail)
                go_wp2_with fail
                rw [Exit.noGoto_ret]
                go_wp2_with fail
                go_ret2
                refine ⟨?_, (by repeat first | with_reducible exact hO9 | refine only_drewN ?_ _)⟩
                rw [show fbF N dp true = bits BinOp.or IntKind.u64 (fbA (fbM N dp)) 9223372036854775808 from rfl, Ef.out]
                exact congrArg (fun x => Ending.returned (.tuple #[.int .u64 (bits BinOp.or IntKind.u64 x 9223372036854775808), .bool false])) (fbA_eq (by omega))
              | false =>
                go_quiet (fail)
                go_wp2_with fail
                rw [Exit.noGoto_ret]
                go_wp2_with fail
                go_ret2
                refine ⟨?_, (by repeat first | with_reducible exact hO9 | refine only_drewN ?_ _)⟩
                rw [show fbF N dp false = fbA (fbM N dp) from rfl, Ef.out]
                exact congrArg (fun x => Ending.returned (.tuple #[.int .u64 x, .bool false])) (fbA_eq (by omega))
            · have tz : (bits BinOp.and IntKind.u64 m 4503599627370496 == 0) = false := by rw [beq_eq_false_iff_ne]; exact hz
              have ef : fbM N dp = (m, e0 - 1) := by rw [HB2.out, if_neg hm, if_neg hz]
              have Ef := Lib.hid ef
              have Hm := Lib.hid hm
              have Hz := Lib.hid hz
              clear hm hz ef HB2
              go_wp2_with fail
              go_step3
              go_wp2_with fail
              refine ⟨rfl, ?_⟩
              go_wp2_with fail
              cases neg with
              | true =>
                go_quiet (fail)
                go_wp2_with fail
                go_quiet (fail)
                go_wp2_with fail
                rw [Exit.noGoto_ret]
                go_wp2_with fail
                go_ret2
                refine ⟨?_, (by repeat first | with_reducible exact hO9 | refine only_drewN ?_ _)⟩
                rw [show fbF N dp true = bits BinOp.or IntKind.u64 (fbA (fbM N dp)) 9223372036854775808 from rfl, Ef.out]
                exact congrArg (fun x => Ending.returned (.tuple #[.int .u64 (bits BinOp.or IntKind.u64 x 9223372036854775808), .bool false])) (fbA_eq (by omega))
              | false =>
                go_quiet (fail)
                go_wp2_with fail
                rw [Exit.noGoto_ret]
                go_wp2_with fail
                go_ret2
                refine ⟨?_, (by repeat first | with_reducible exact hO9 | refine only_drewN ?_ _)⟩
                rw [show fbF N dp false = fbA (fbM N dp) from rfl, Ef.out]
                exact congrArg (fun x => Ending.returned (.tuple #[.int .u64 x, .bool false])) (fbA_eq (by omega))
end Go.Proofs.YtcpijmbdibgdmaaGreatDoor
