/-
  internal/strconv: decimal.Shift, shouldRoundUp, decimal.RoundedInteger.
  internal/strconv: decimal.Assign.
  internal/strconv: decimal.Round, RoundUp, RoundDown.
  internal/strconv: what FormatFloat(f, 'f', 12, 64) writes, as a function; facts on its numbers.
  internal/strconv: fmtEFG of zero.
  internal/strconv: setDigits.
  internal/strconv: ftoa64 at %f and twelve digits: zero.
-/
import Derived.Test.YtcpijmbdibgdmaaGreatDoorMs10
import Derived.Lib.ItoaLen
set_option linter.all false
set_option maxHeartbeats 16000000
set_option maxRecDepth 100000
namespace Go.Proofs.YtcpijmbdibgdmaaGreatDoor
open Go.RowKit
attribute [local go_sem] ba_get store_flt
def ShPost (w : World) (p N : Nat) (dp : Int) (neg tr : Bool) (e : Ending) (w' : World) : Prop :=
 e = .returned (.tuple #[]) ∧ (∃ arr',DB w' p arr' (nd N) dp neg tr ∧ arr'.take (nd N) = dg N) ∧ Only w w' p
theorem shiftR_any (p N k : Nat) (arr : List UInt8) (dp : Int) (neg tr : Bool) (w : World) (h : DB w p arr (nd N) dp neg tr) (h0 : N ≠ 0) (hn : nd N ≤ 800) (ht : arr.take (nd N) = dg N)
 (hk : 1 ≤ k ∧ k ≤ 60) (hL : nd (N * 5 ^ k) ≤ 800) (hdp : -100000 ≤ dp ∧ dp ≤ 100000) :
 Calls Tryz.prog 163 #[.pointer (some ⟨p,0,none⟩),.int .i64 (-(k : Int))] w (ShPost w p (shR N k) (dpR N dp k) neg tr) := by
 have hR := right_any p N k arr dp neg tr w h h0 hn ht hk hL hdp;have hne := nd_one h0;have t1 : ((nd N : Int) == 0) = false := by rw [beq_eq_false_iff_ne];omega
 have kn := h.cN;have ek : IntKind.u64.wrap (- -(k : Int)) = (k : Int) := by rw [Int.neg_neg];exact wrap_u64_nat (by omega)
 have t2 : decide ((0 : Int) < -(k : Int)) = false := by rw [decide_eq_false_iff_not];omega
 have t3 : decide (-(k : Int) < 0) = true := by rw [decide_eq_true_eq];omega
 have t4 : decide (-(k : Int) < -60) = false := by rw [decide_eq_false_iff_not];omega
 have H0 := Lib.hid h0;have Ht := Lib.hid ht;clear h0 ht;go_enter Tryz.func163,Tryz.ntmps163;go_wp2_with fail;refine wp_loop_rounds 1 ?_;rw [rounds_succ];go_wp2_with fail;refine hR.mono ?_;rintro e w9 ⟨rfl,hD9,hO9⟩;go_wp2_with fail
 go_end0
 exact ⟨rfl,hD9,hO9⟩
theorem shiftL_any (p N k lb lo lc : Nat) (arr : List UInt8) (dp : Int) (neg tr : Bool) (w : World) (hC : LC lb lo lc w) (h : DB w p arr (nd N) dp neg tr) (h0 : N ≠ 0) (hn : nd N ≤ 800) (ht : arr.take (nd N) = dg N)
 (hk : 1 ≤ k ∧ k ≤ 60) (hL : nd (N * 2 ^ k) < 800) (hdp : -100000 ≤ dp ∧ dp ≤ 100000) :
 Calls Tryz.prog 163 #[.pointer (some ⟨p,0,none⟩),.int .i64 (k : Int)] w (ShPost w p (shL N k) (dpL N dp k) neg tr) := by
 have hR := left_any p N k lb lo lc arr dp neg tr w hC h h0 hn ht hk hL hdp;have hne := nd_one h0;have t1 : ((nd N : Int) == 0) = false := by rw [beq_eq_false_iff_ne];omega
 have kn := h.cN;have ek : IntKind.u64.wrap (k : Int) = (k : Int) := wrap_u64_nat (by omega);have t2 : 0 < k := by omega
 have t4 : decide (60 < (k : Int)) = false := by rw [decide_eq_false_iff_not];omega
 have H0 := Lib.hid h0;have Ht := Lib.hid ht;clear h0 ht hC;go_enter Tryz.func163,Tryz.ntmps163;go_wp2_with fail;refine wp_loop_rounds 1 ?_;rw [rounds_succ];go_wp2_with fail;refine hR.mono ?_;rintro e w9 ⟨rfl,hD9,hO9⟩;go_wp2_with fail
 go_end0
 exact ⟨rfl,hD9,hO9⟩
def dgi (N i : Nat) : Nat := ((dg N)[i]?.getD 48).toNat - 48
theorem dgi_spec {N i : Nat} (h : i < nd N) : (dg N)[i]? = some (UInt8.ofNat (48 + dgi N i)) ∧ dgi N i ≤ 9 := by
 have h' : i < (dg N).length := h;have hb := dg_digits N _ (List.getElem_mem h');unfold dgi;rw [List.getElem?_eq_getElem h',Option.getD_some];refine ⟨?_,by omega⟩;rw [show 48 + ((dg N)[i].toNat - 48) = (dg N)[i].toNat by omega,UInt8.ofNat_toNat]
theorem DB.di {w : World} {p N i : Nat} {arr : List UInt8} {n dp : Int} {neg tr : Bool} (h : DB w p arr n dp neg tr) (ht : arr.take (nd N) = dg N) (hi : i < nd N) : w.cell? ⟨p,i,none⟩ = some (.int .u8 ((48 + dgi N i : Nat) : Int)) := by
 obtain ⟨h1,h2⟩ := dgi_spec hi;exact h.dv (by rw [take_get ht hi];exact h1) (by omega)
def upF (N : Nat) (m : Int) : Bool :=
 if m < 0 ∨ (nd N : Int) ≤ m then false
 else if dgi N m.toNat = 5 ∧ m + 1 = nd N then decide (0 < m) && decide (dgi N (m.toNat - 1) % 2 ≠ 0)
 else decide (5 ≤ dgi N m.toNat)
theorem up_any (p N : Nat) (m : Int) (arr : List UInt8) (dp : Int) (neg : Bool) (w : World) (h : DB w p arr (nd N) dp neg false) (hn : nd N ≤ 800) (ht : arr.take (nd N) = dg N) (hm : -100000 ≤ m ∧ m ≤ 100000) :
 Calls Tryz.prog 217 #[.pointer (some ⟨p,0,none⟩),.int .i64 m] w fun e w' => e = .returned (.bool (upF N m)) ∧ w = w' := by
 have kn := h.cN;have kt := h.cT;by_cases h1 : m < 0
 · have t1 : decide (m < 0) = true := by rw [decide_eq_true_eq];exact h1
   have e : upF N m = false := by unfold upF;rw [if_pos (.inl h1)]
   rw [e];go_enter Tryz.func217,Tryz.ntmps217;go_wp2_with fail;go_ret;exact ⟨rfl,rfl⟩
 by_cases h2 : (nd N : Int) ≤ m
 · have t1 : decide (m < 0) = false := by rw [decide_eq_false_iff_not];exact h1
   have t2 : decide ((nd N : Int) ≤ m) = true := by rw [decide_eq_true_eq];exact h2
   have e : upF N m = false := by unfold upF;rw [if_pos (.inr h2)]
   rw [e];go_enter Tryz.func217,Tryz.ntmps217;go_wp2_with fail;go_ret;exact ⟨rfl,rfl⟩
 obtain ⟨i,rfl⟩ : ∃ i : Nat,m = i := ⟨m.toNat,by omega⟩;have hi : i < nd N := by omega
 have hi8 : i < 800 := by omega
 have kd := h.di ht hi;obtain ⟨d,hd⟩ : ∃ d,d = dgi N i := ⟨_,rfl⟩;have hd9 : d ≤ 9 := by rw [hd];exact (dgi_spec hi).2
 rw [← hd] at kd
 have e0 : upF N i = if d = 5 ∧ i + 1 = nd N then decide (0 < i) && decide (dgi N (i - 1) % 2 ≠ 0) else decide (5 ≤ d) := by
  unfold upF;rw [if_neg (by omega),Int.toNat_natCast,← hd];by_cases hx : d = 5 ∧ i + 1 = nd N
  · rw [if_pos hx,if_pos (by omega)];congr 1;exact decide_eq_decide.2 (by omega)
  rw [if_neg hx,if_neg (by omega)]
 rw [e0];clear e0 hd h1 h2;have t1 : decide ((i : Int) < 0) = false := by rw [decide_eq_false_iff_not];omega
 have t2 : decide ((nd N : Int) ≤ (i : Int)) = false := by rw [decide_eq_false_iff_not];omega
 by_cases h5 : d = 5
 · subst h5;by_cases hl : i + 1 = nd N
   · have t4 : ((i : Int) + 1 == (nd N : Int)) = true := by rw [beq_iff_eq];omega
     rw [if_pos ⟨rfl,hl⟩];by_cases hi0 : i = 0
     · subst hi0;have Hl := Lib.hid hl;clear hl;go_enter Tryz.func217,Tryz.ntmps217;go_wp2_with fail;go_ret;exact ⟨rfl,rfl⟩
     obtain ⟨j,rfl⟩ : ∃ j,i = j + 1 := ⟨i - 1,by omega⟩;rw [Nat.add_sub_cancel];have kj := h.di ht (show j < nd N by omega);obtain ⟨c,hc⟩ : ∃ c,c = dgi N j := ⟨_,rfl⟩;have hc9 : c ≤ 9 := by rw [hc];exact (dgi_spec (by omega)).2
     rw [← hc] at kj;rw [← hc];have Hl := Lib.hid hl;clear hc hl;go_enter Tryz.func217,Tryz.ntmps217;go_wp2_with fail;go_ret;refine ⟨?_,rfl⟩
     have e : ((48 + (c : Int) - 48) % 2 != 0) = (decide (0 < j + 1) && decide (c % 2 ≠ 0)) := by
      rw [show decide (0 < j + 1) = true by simp,Bool.true_and,bne,Bool.eq_iff_iff];simp;omega
     exact congrArg (fun b => Ending.returned (.bool b)) e
   have t4 : ((i : Int) + 1 == (nd N : Int)) = false := by rw [beq_eq_false_iff_ne];omega
   rw [if_neg (by omega)];have Hl := Lib.hid hl;clear hl;go_enter Tryz.func217,Tryz.ntmps217;go_wp2_with fail;go_ret;exact ⟨rfl,rfl⟩
 · have t3 : (((48 + d : Nat) : Int) == 53) = false := by rw [beq_eq_false_iff_ne];omega
   rw [if_neg (by omega)];by_cases h6 : 5 ≤ d
   · have t5 : decide ((53 : Int) ≤ ((48 + d : Nat) : Int)) = true := by rw [decide_eq_true_eq];omega
     have e5 : decide (5 ≤ d) = true := by rw [decide_eq_true_eq];exact h6
     rw [e5];clear h5 e5;have T5 := Lib.hid t5;go_enter Tryz.func217,Tryz.ntmps217;go_wp2_with fail;go_ret;exact ⟨congrArg (fun b => Ending.returned (.bool b)) T5.out,rfl⟩
   have t5 : decide ((53 : Int) ≤ ((48 + d : Nat) : Int)) = false := by rw [decide_eq_false_iff_not];omega
   have e5 : decide (5 ≤ d) = false := by rw [decide_eq_false_iff_not];exact h6
   rw [e5];clear h5 e5;have T5 := Lib.hid t5;go_enter Tryz.func217,Tryz.ntmps217;go_wp2_with fail;go_ret;exact ⟨congrArg (fun b => Ending.returned (.bool b)) T5.out,rfl⟩
def riN (N : Nat) : Nat → Int
 | 0 => 0
 | i + 1 => if i < nd N then IntKind.u64.wrap (IntKind.u64.wrap (riN N i * 10) + dgi N i) else IntKind.u64.wrap (riN N i * 10)
def riF (N : Nat) (dp : Int) : Int := if 20 < dp then 18446744073709551615 else if upF N dp = true then IntKind.u64.wrap (riN N dp.toNat + 1) else riN N dp.toNat
theorem ri_any (p N : Nat) (arr : List UInt8) (dp : Int) (neg : Bool) (w : World) (h : DB w p arr (nd N) dp neg false) (hn : nd N ≤ 800) (ht : arr.take (nd N) = dg N) (hm : -100000 ≤ dp ∧ dp ≤ 100000) :
 Calls Tryz.prog 239 #[.pointer (some ⟨p,0,none⟩)] w fun e w' => e = .returned (.int .u64 (riF N dp)) ∧ w = w' := by
 have kn := h.cN;have kp := h.cP;by_cases h1 : 20 < dp
 · have t1 : decide (20 < dp) = true := by rw [decide_eq_true_eq];exact h1
   have e : riF N dp = 18446744073709551615 := by unfold riF;rw [if_pos h1]
   rw [e];go_enter Tryz.func239,Tryz.ntmps239;go_wp2_with fail;go_ret;exact ⟨rfl,rfl⟩
 have t1 : decide (20 < dp) = false := by rw [decide_eq_false_iff_not];exact h1
 have hU := up_any p N dp arr dp neg w h hn ht hm;obtain ⟨u,hu⟩ : ∃ u,u = upF N dp := ⟨_,rfl⟩;rw [← hu] at hU;have hF : riF N dp = if u = true then IntKind.u64.wrap (riN N dp.toNat + 1) else riN N dp.toNat := by unfold riF;rw [if_neg h1,← hu]
 rw [hF];have Ht := Lib.hid ht;clear hF hu ht h1;go_enter Tryz.func239,Tryz.ntmps239;go_wp2_with fail
 go_loopg [3,4] (nd N) (fun g v3 v4 wr => ∃ i : Nat,v3 = .int .i64 i ∧ v4 = .int .u64 (riN N i) ∧ g + i = nd N ∧ (i = 0 ∨ (i : Int) ≤ dp) ∧ w = wr)
 case atStart => exact ⟨0,rfl,rfl,by omega,.inl rfl,rfl⟩
 case round =>
  obtain ⟨i,rfl,rfl,hg,hi,rfl⟩ := hrel;have Hg := Lib.hid hg;have Hi := Lib.hid hi;have hiN : i ≤ nd N := by omega
  clear hg hi;by_cases h1 : (i : Int) < dp
  · have t2 : decide ((i : Int) < dp) = true := by rw [decide_eq_true_eq];exact h1
    by_cases h2 : i < nd N
    · have t3 : decide ((i : Int) < (nd N : Int)) = true := by rw [decide_eq_true_eq];omega
      have kd := h.di Ht.out h2;obtain ⟨x,hx⟩ : ∃ x,x = riN N i := ⟨_,rfl⟩;obtain ⟨d,hd⟩ : ∃ d,d = dgi N i := ⟨_,rfl⟩;have hd9 : d ≤ 9 := by rw [hd];exact (dgi_spec h2).2
      rw [← hd] at kd;rw [← hx];have Hx := Lib.hid hx;have Hd := Lib.hid hd;clear hx hd;go_wp2_with fail
      go_roundg (gk - 1)
      case measure => have := Hg.out;omega
      case rel =>
       refine ⟨i + 1,rfl,?_,by have := Hg.out;omega,.inr (by omega),rfl⟩;rw [riN,if_pos h2,← Hx.out,← Hd.out]
       first | rfl | exact congrArg _ (congrArg _ (by omega))
    have t3 : decide ((i : Int) < (nd N : Int)) = false := by rw [decide_eq_false_iff_not];omega
    go_wp2_with fail
    go_loopg [3,4] ((dp - i).toNat) (fun g v3 v4 wr => ∃ i : Nat,v3 = .int .i64 i ∧ v4 = .int .u64 (riN N i) ∧ g = (dp - i).toNat ∧ (i = 0 ∨ (i : Int) ≤ dp) ∧ (nd N ≤ i ∨ dp ≤ i) ∧ w = wr)
    case atStart => exact ⟨i,rfl,rfl,rfl,Hi.out,by omega,rfl⟩
    case round =>
     clear t2 Hg Hi hiN t3 h1 h2;obtain ⟨i,rfl,rfl,hg,hi,hni,rfl⟩ := hrel;have Hg := Lib.hid hg;have Hi := Lib.hid hi;have Hni := Lib.hid hni;obtain ⟨x,hx⟩ : ∃ x,x = riN N i := ⟨_,rfl⟩;rw [← hx];have Hx := Lib.hid hx;have hi3 : i ≤ 100000 := by omega
     clear hx hg hni hi;by_cases h3 : (i : Int) < dp
     · have t2 : decide ((i : Int) < dp) = true := by rw [decide_eq_true_eq];exact h3
       go_wp2_with fail
       go_roundg ((dp - (i + 1 : Nat)).toNat)
       case measure => have := Hg.out;omega
       case rel =>
        refine ⟨i + 1,rfl,?_,rfl,.inr (by omega),by have := Hni.out;omega,rfl⟩;rw [riN,if_neg (by have := Hni.out;omega),← Hx.out]
     have t2 : decide ((i : Int) < dp) = false := by rw [decide_eq_false_iff_not];exact h3
     have ei : Hid (i = dp.toNat) := Lib.hid (by have := Hi.out;omega);clear h3;go_wp2_with fail;refine hU.mono ?_;rintro e w9 ⟨rfl,rfl⟩
     cases u with
     | true =>
       go_wp2_with fail;go_ret;refine ⟨?_,rfl⟩;rw [← ei.out,← Hx.out];rfl
     | false =>
       go_wp2_with fail;go_ret;refine ⟨?_,rfl⟩;rw [← ei.out,← Hx.out];rfl
  have t2 : decide ((i : Int) < dp) = false := by rw [decide_eq_false_iff_not];exact h1
  go_wp2_with fail
  go_loopg [3,4] ((dp - i).toNat) (fun g v3 v4 wr => ∃ i : Nat,v3 = .int .i64 i ∧ v4 = .int .u64 (riN N i) ∧ g = (dp - i).toNat ∧ (i = 0 ∨ (i : Int) ≤ dp) ∧ (nd N ≤ i ∨ dp ≤ i) ∧ w = wr)
  case atStart => exact ⟨i,rfl,rfl,rfl,Hi.out,by omega,rfl⟩
  case round =>
   clear t2 Hg Hi hiN h1;obtain ⟨i,rfl,rfl,hg,hi,hni,rfl⟩ := hrel;have Hg := Lib.hid hg;have Hi := Lib.hid hi;have Hni := Lib.hid hni;obtain ⟨x,hx⟩ : ∃ x,x = riN N i := ⟨_,rfl⟩;rw [← hx];have Hx := Lib.hid hx;have hi3 : i ≤ 100000 := by omega
   clear hx hg hni hi;by_cases h3 : (i : Int) < dp
   · have t2 : decide ((i : Int) < dp) = true := by rw [decide_eq_true_eq];exact h3
     go_wp2_with fail
     go_roundg ((dp - (i + 1 : Nat)).toNat)
     case measure => have := Hg.out;omega
     case rel =>
      refine ⟨i + 1,rfl,?_,rfl,.inr (by omega),by have := Hni.out;omega,rfl⟩;rw [riN,if_neg (by have := Hni.out;omega),← Hx.out]
   have t2 : decide ((i : Int) < dp) = false := by rw [decide_eq_false_iff_not];exact h3
   have ei : Hid (i = dp.toNat) := Lib.hid (by have := Hi.out;omega);clear h3;go_wp2_with fail;refine hU.mono ?_;rintro e w9 ⟨rfl,rfl⟩
   cases u with
   | true =>
     go_wp2_with fail;go_ret;refine ⟨?_,rfl⟩;rw [← ei.out,← Hx.out];rfl
   | false =>
     go_wp2_with fail;go_ret;refine ⟨?_,rfl⟩;rw [← ei.out,← Hx.out];rfl
end Go.Proofs.YtcpijmbdibgdmaaGreatDoor
namespace Go.Proofs.YtcpijmbdibgdmaaGreatDoor
open Go.RowKit
attribute [local go_sem] ba_get store_flt
def BB (w : World) (b : Nat) (t : TypeId) (arr : List UInt8) : Prop := Blk w b t (arr.map bcell).toArray
theorem BB.cell {w : World} {b i c : Nat} {t : TypeId} {arr : List UInt8} (h : BB w b t arr) (hi : arr[i]? = some (UInt8.ofNat c)) (hc : c < 256) : w.cell? ⟨b,i,none⟩ = some (.int .u8 (c : Int)) := by
 refine (Blk.cell h i).trans ?_;rw [List.getElem?_toArray,List.getElem?_map,hi];simp only [Option.map_some,bcell,UInt8.toNat_ofNat'];rw [Nat.mod_eq_of_lt hc]
theorem BB.has {w : World} {b i : Nat} {t : TypeId} {arr : List UInt8} (h : BB w b t arr) (hi : i < arr.length) : w.cell? ⟨b,i,none⟩ = some (.int .u8 (arr[i].toNat : Int)) := by
 refine (Blk.cell h i).trans ?_;rw [List.getElem?_toArray,List.getElem?_map,List.getElem?_eq_getElem hi];rfl
theorem BB.set {w : World} {b i : Nat} {t : TypeId} {arr : List UInt8} (h : BB w b t arr) (x : UInt8) {v : Value} (hv : v = bcell x) : BB (w.setCell ⟨b,i,none⟩ v) b t (arr.set i x) := by
 subst hv;unfold BB;have := Blk.set_ h i (bcell x);rw [List.setIfInBounds_toArray] at this;rw [List.map_set];exact this
theorem BB.far {w : World} {b : Nat} {t : TypeId} {arr : List UInt8} (h : BB w b t arr) {p : Addr} (hp : b ≠ p.block) (u : Value) : BB (w.setCell p u) b t arr := Blk.far h hp u
theorem BB.drewN {w : World} {b : Nat} {t : TypeId} {arr : List UInt8} (h : BB w b t arr) (n : Nat) : BB (w.drewN n) b t arr := h
theorem DB.far {w : World} {p : Nat} {arr : List UInt8} {n dp : Int} {neg tr : Bool} (h : DB w p arr n dp neg tr) {a : Addr} (hp : p ≠ a.block) (u : Value) : DB (w.setCell a u) p arr n dp neg tr := ⟨h.1,h.2.far hp u⟩
theorem DB.alloc {w : World} {p : Nat} {arr : List UInt8} {n dp : Int} {neg tr : Bool} (h : DB w p arr n dp neg tr) (o : Obj) : DB (w.alloc o) p arr n dp neg tr := ⟨h.1,h.2.alloc o⟩
theorem div_none {m n : Nat} (h : m / 10 ^ n = 0) : nd m ≤ n := nd_le ((Nat.div_eq_zero_iff_lt (ten_pos n)).1 h)
theorem div_some {m n : Nat} (h : m / 10 ^ n ≠ 0) : n < nd m := by
 refine Nat.lt_of_not_le fun hle => h ?_
 rw [Nat.div_eq_zero_iff_lt (ten_pos n)];exact Nat.lt_of_lt_of_le (nd_lt m) (Nat.pow_le_pow_right (by decide) hle)
theorem assign_any (p m : Nat) (arr : List UInt8) (n0 dp0 : Int) (neg tr : Bool) (w : World) (h : DB w p arr n0 dp0 neg tr) (hm : m ≠ 0) (hm2 : m < 18446744073709551616) :
 Calls Tryz.prog 162 #[.pointer (some ⟨p,0,none⟩),.int .u64 m] w fun e w' => e = .returned (.tuple #[]) ∧ (∃ arr',arr'.take (nd (strip m)) = dg (strip m) ∧ DB w' p arr' (nd (strip m)) (nd m) neg tr) ∧ Only w w' p := by
 have hn20 : nd m ≤ 20 := nd_le (by omega);have hpl : p < w.heap.size := Blk.lt h.2;go_enter Tryz.func162,Tryz.ntmps162;go_wp2_with fail;obtain ⟨b,hb⟩ : ∃ b,b = w.heap.size := ⟨_,rfl⟩;have hbp : ¬ b = p ∧ ¬ p = b ∧ w.heap.size ≤ b := by omega
 rw [← hb];have hB0 : BB (w.alloc (.cells ((List.replicate 24 (0 : UInt8)).map bcell).toArray 200)) b 200 (List.replicate 24 0) := by rw [hb];exact Blk.new _ _ _
 have hD0 : DB (w.alloc (.cells ((List.replicate 24 (0 : UInt8)).map bcell).toArray 200)) p arr n0 dp0 neg tr := h.alloc _;have hO0 : Only w (w.alloc (.cells ((List.replicate 24 (0 : UInt8)).map bcell).toArray 200)) p := only_alloc (only_refl _ _) _;have Hb := Lib.hid hb;clear hb h
 go_loopg [1,5,6] (nd m) (fun g s1 s5 s6 wr => ∃ (n : Nat) (ab : List UInt8),s1 = .int .u64 ((m / 10 ^ n : Nat) : Int) ∧ s5 = .int .i64 n ∧ n + g = nd m ∧ ab.length = 24 ∧ (∀ j,j < n → ab[j]? = some (UInt8.ofNat (48 + m / 10 ^ j % 10))) ∧ BB wr b 200 ab ∧ DB wr p arr n0 dp0 neg tr ∧ Only w wr p)
 case atStart => exact ⟨0,_,by rw [Nat.pow_zero,Nat.div_one],rfl,by omega,by simp,fun j hj => by omega,hB0,hD0,hO0⟩
 case round =>
  clear hB0 hD0 hO0;obtain ⟨n,ab,rfl,rfl,hg,hl,hdj,hB,hD,hO⟩ := hrel;obtain ⟨v,hv⟩ : ∃ v,v = m / 10 ^ n := ⟨_,rfl⟩;rw [← hv];have hv2 : v < 18446744073709551616 := by rw [hv];exact Nat.lt_of_le_of_lt (Nat.div_le_self _ _) hm2
  by_cases hv0 : v = 0
  · have hn : n = nd m := by
     have := div_none (hv ▸ hv0);omega
    have t0 : ¬ 0 < v := by omega
    subst hv0;clear hv hv2 hg;rw [hn] at hdj ⊢;clear hn;have k800 := hD.cN;have f800 := hD.fz 800;have hn1 := nd_one hm;have Hd := Lib.hid hdj;clear hdj;go_wp2_with fail;have hD1 : DB (wr.setCell ⟨p,800,none⟩ (.int .i64 0)) p arr ((0 : Nat) : Int) dp0 neg tr := hD.setN _ rfl;have hB1 : BB (wr.setCell ⟨p,800,none⟩ (.int .i64 0)) b 200 ab := hB.far hbp.1 _;have hO1 : Only w (wr.setCell ⟨p,800,none⟩ (.int .i64 0)) p := only_set hO _ _;clear hD hB hO k800 f800
    go_loopg [5] (nd m) (fun g s5 wq => ∃ (r : Nat) (ar : List UInt8),s5 = .int .i64 ((nd m : Int) - 1 - r) ∧ r + g = nd m ∧ ar.take r = (dg m).take r ∧ BB wq b 200 ab ∧ DB wq p ar (r : Nat) dp0 neg tr ∧ Only w wq p)
    case atStart => exact ⟨0,arr,by go_num,by omega,by simp,hB1,hD1,hO1⟩
    case round =>
     clear hB1 hD1 hO1;obtain ⟨r,ar,rfl,hg,hta,hB,hD,hO⟩ := hrel;have k800 := hD.cN;have f800 := hD.fz 800;by_cases hr : r < nd m
     · have hr8 : r < 800 := by omega
       have kr := hD.d hr8;have fr := hD.fz r;obtain ⟨i,hi⟩ : ∃ i : Nat,i = nd m - 1 - r := ⟨_,rfl⟩;have hin : (nd m : Int) - 1 - (r : Int) = (i : Int) := by omega
       have him : i < 24 := by omega
       have kb : wr.cell? ⟨b,i,none⟩ = some (.int .u8 ((48 + m / 10 ^ i % 10 : Nat) : Int)) := hB.cell (Hd.out i (by omega)) (by omega);have Hi := Lib.hid hi;have Ht := Lib.hid hta;clear hi hta;go_wp2_with fail;refine region_tailq 10 (by kernel_rfl) (by kernel_rfl) ?_;intro w2 e2;have hD2 : DB w2 p ar (r : Nat) dp0 neg tr := by rw [e2];exact hD.drewN 1
       have hB2 : BB w2 b 200 ab := by rw [e2];exact hB.drewN 1
       have hO2 : Only w w2 p := by rw [e2];exact only_drew hO
       have kb2 : w2.cell? ⟨b,i,none⟩ = some (.int .u8 ((48 + m / 10 ^ i % 10 : Nat) : Int)) := by rw [e2];exact kb
       clear e2 hD hO hB k800 f800 kr fr kb;have k800 := hD2.cN;have kr := hD2.d hr8;have fr := hD2.fz r;have f800 := hD2.fz 800;simp only [List.take_succ_cons,List.take_zero,List.drop_succ_cons,List.drop_zero]
       repeat (go_big_quiet_step (fail))
       refine wpQuiet_nil ?_;go_wp2_with fail
       go_roundg (nd m - r - 1)
       case measure => omega
       case rel =>
        have hlen : r < ar.length := by rw [hD2.1];exact hr8
        refine ⟨r + 1,ar.set r (UInt8.ofNat (48 + m / 10 ^ i % 10)),?_,by omega,?_,(hB2.far hbp.1 _).far hbp.1 _,(hD2.setD hr8 _ ?_).setN _ ?_,only_set (only_set hO2 _ _) _ _⟩
        · go_num
        · have e : (dg m)[r]? = some (UInt8.ofNat (48 + m / 10 ^ i % 10)) := by
           have := dg_get i m (by rw [Hi.out];omega);rw [show nd m - 1 - i = r by rw [Hi.out];omega] at this;exact this
          have hrd : r < (dg m).length := hr;rw [List.getElem?_eq_getElem hrd] at e;injection e with e;rw [set_take _ hlen Ht.out,List.take_succ_eq_append_getElem hrd,e]
        · rw [UInt8.toNat_ofNat',Nat.mod_eq_of_lt (by omega)];rfl
        go_num
     have hrm : r = nd m := by omega
     have t1 : ¬ (0 : Int) ≤ (nd m : Int) - 1 - (r : Int) := by omega
     rw [hrm] at hD hta k800;have hta2 : ar.take (nd m) = dg m := by rw [hta];exact List.take_length
     have k801 := hD.cP;have f801 := hD.fz 801;clear hr hrm hta hg;go_wp2_with fail;have hD3 : DB (wr.setCell ⟨p,801,none⟩ (.int .i64 (nd m))) p ar (nd m) (nd m) neg tr := hD.setP _ rfl;refine (dtrim_any p m ar (nd m) neg tr _ hD3 hm (by omega) hta2).mono ?_;rintro e w4 ⟨rfl,hD4,hO4⟩;go_wp2_with fail
     go_end0
     exact ⟨rfl,⟨ar,dg_less hta2 hm,hD4⟩,only_trans (only_set hO _ _) hO4⟩
  have t0 : 0 < v := by omega
  have hn : n < nd m := div_some (by rw [← hv];exact hv0);have hnl : n < ab.length := by omega
  have kb := hB.has hnl;have fb := Blk.frozen hB n;have Hv := Lib.hid hv;have Hd := Lib.hid hdj;clear hv0 hv hdj;go_wp2_with fail
  go_roundg (nd m - n - 1)
  case measure => omega
  case rel =>
   have e1 : v / 10 = m / 10 ^ (n + 1) := by rw [Hv.out,Nat.div_div_eq_div_mul,Nat.pow_succ]
   refine ⟨n + 1,ab.set n (UInt8.ofNat (48 + v % 10)),?_,by go_num,by omega,by rw [List.length_set];exact hl,fun j hj => ?_,hB.set _ ?_,hD.far hbp.2.1 _,only_setCell hO (.inr hbp.2.2) _⟩
   · rw [← e1];go_num
   · by_cases hjn : j = n
     · subst hjn;rw [List.getElem?_set_self hnl,Hv.out]
     rw [List.getElem?_set_ne (by omega)];exact Hd.out j (by omega)
   simp only [bcell];congr 1;rw [UInt8.toNat_ofNat'];omega
end Go.Proofs.YtcpijmbdibgdmaaGreatDoor
namespace Go.Proofs.YtcpijmbdibgdmaaGreatDoor
open Go.RowKit
attribute [local go_sem] ba_get store_flt
theorem headN {N r : Nat} (h : r ≤ nd N) : nd (N / 10 ^ (nd N - r)) = r ∧ dg (N / 10 ^ (nd N - r)) = (dg N).take r := by
 have h1 := dg_take (nd N - r) N (by omega);rw [show nd N - (nd N - r) = r by omega] at h1;refine ⟨?_,h1.symm⟩;rw [nd,← h1,List.length_take];exact Nat.min_eq_left h
theorem head_ne {N r : Nat} (h0 : 1 ≤ r) (h : r ≤ nd N) : N / 10 ^ (nd N - r) ≠ 0 := by
 intro e;have := (headN h).1;rw [e,nd_zero] at this;omega
theorem down_any (p N r : Nat) (arr : List UInt8) (dp : Int) (neg tr : Bool) (w : World) (h : DB w p arr (nd N) dp neg tr) (hr : 1 ≤ r ∧ r < nd N) (hn : nd N ≤ 800) (ht : arr.take (nd N) = dg N) :
 Calls Tryz.prog 219 #[.pointer (some ⟨p,0,none⟩),.int .i64 r] w fun e w' => e = .returned (.tuple #[]) ∧ (∃ arr',arr'.take (nd (strip (N / 10 ^ (nd N - r)))) = dg (strip (N / 10 ^ (nd N - r))) ∧ DB w' p arr' (nd (strip (N / 10 ^ (nd N - r)))) dp neg tr) ∧ Only w w' p := by
 obtain ⟨A,hA⟩ : ∃ A,A = N / 10 ^ (nd N - r) := ⟨_,rfl⟩;have h1 := headN (N := N) (r := r) (by omega);have h2 := head_ne (N := N) (r := r) hr.1 (by omega);rw [← hA] at h1 h2 ⊢
 have hta : arr.take (nd A) = dg A := by
  rw [h1.1,h1.2,← ht,List.take_take];congr 1;omega
 have k800 := h.cN;have f800 := h.fz 800;have hD1 : DB (w.setCell ⟨p,800,none⟩ (.int .i64 r)) p arr (nd A) dp neg tr := h.setN _ (by rw [h1.1]);have hrn : ¬ nd N ≤ r := by omega
 have H1 := Lib.hid h1;clear hA h1 ht;go_enter Tryz.func219,Tryz.ntmps219;go_wp2_with fail;refine (dtrim_any p A arr dp neg tr _ hD1 h2 (by have := H1.out.1;omega) hta).mono ?_;rintro e w4 ⟨rfl,hD4,hO4⟩;go_wp2_with fail
 go_end0
 exact ⟨rfl,⟨arr,dg_less hta h2,hD4⟩,only_trans (only_set (only_refl _ _) _ _) hO4⟩
theorem rup_any (p N r : Nat) (arr : List UInt8) (dp : Int) (neg tr : Bool) (w : World) (h : DB w p arr (nd N) dp neg tr) (hr : 1 ≤ r ∧ r < nd N) (hn : nd N ≤ 800) (ht : arr.take (nd N) = dg N) (hdp : -100000 ≤ dp ∧ dp ≤ 100000) :
 Calls Tryz.prog 218 #[.pointer (some ⟨p,0,none⟩),.int .i64 r] w fun e w' => e = .returned (.tuple #[]) ∧ (∃ arr',arr'.take (nd (strip (N / 10 ^ (nd N - r) + 1))) = dg (strip (N / 10 ^ (nd N - r) + 1)) ∧ DB w' p arr' (nd (strip (N / 10 ^ (nd N - r) + 1))) (dp + ((nd (N / 10 ^ (nd N - r) + 1) : Int) - r)) neg tr) ∧ Only w w' p := by
 obtain ⟨A,hA⟩ : ∃ A,A = N / 10 ^ (nd N - r) := ⟨_,rfl⟩;have h1 := headN (N := N) (r := r) (by omega);have h2 := head_ne (N := N) (r := r) hr.1 (by omega);rw [← hA] at h1 h2 ⊢
 have hta : arr.take r = dg A := by
  rw [h1.2,← ht,List.take_take];congr 1;omega
 have k800 := h.cN;have hrn : ¬ nd N ≤ r := by omega
 have hndA : nd A = r := h1.1;have Hta := Lib.hid hta;have HA := Lib.hid hndA;clear hA h1 ht hta hndA;have hO : Only w w p := only_refl _ _;go_enter Tryz.func218,Tryz.ntmps218;go_wp2_with fail
 go_loopg [4,5] r (fun g s4 s5 wr => ∃ (j X : Nat),s4 = .int .i64 ((r : Int) - 1 - j) ∧ j + g = r ∧ A + 1 = (X + 1) * 10 ^ j ∧ nd X = g ∧ X = A / 10 ^ j ∧ w = wr)
 case atStart => exact ⟨0,A,by go_num,by omega,by rw [Nat.pow_zero,Nat.mul_one],HA.out,by rw [Nat.pow_zero,Nat.div_one],rfl⟩
 case round =>
  obtain ⟨j,X,rfl,hg,hX,hnX,hXA,rfl⟩ := hrel;have HX := Lib.hid hX;have HnX := Lib.hid hnX;have HXA := Lib.hid hXA;clear hX hnX hXA;have f800 := h.fz 800;by_cases hj : j < r
  · obtain ⟨i,hi⟩ : ∃ i : Nat,i = r - 1 - j := ⟨_,rfl⟩;have hi8 : i < 800 := by omega
    have hir : (r : Int) - 1 - (j : Int) = (i : Int) := by omega
    have hdi : arr[i]? = some (UInt8.ofNat (48 + X % 10)) := by
     have e1 := dg_get j A (by rw [HA.out];exact hj);rw [HA.out,show r - 1 - j = i by omega,← HXA.out] at e1;rw [take_get Hta.out (by omega)];exact e1
    have kd := h.dv hdi (by omega);have fd := h.fz i;have Hi := Lib.hid hi;have Hdi := Lib.hid hdi;clear hi hdi;by_cases h9 : X % 10 < 9
    · have t9 : ((48 + X % 10 : Nat) : Int) < 57 := by omega
      go_wp2_with fail;refine region_tailq 9 (by kernel_rfl) (by kernel_rfl) ?_;intro w2 e2;have hD2 : DB w2 p arr (nd N) dp neg tr := by rw [e2];exact h.drewN 1
      have hO2 : Only w w2 p := by rw [e2];exact only_drew hO
      clear e2 h hO k800 f800 kd fd;have kd := hD2.dv Hdi.out (by omega);have fd := hD2.fz i;have k800 := hD2.cN;have f800 := hD2.fz 800;simp only [List.take_succ_cons,List.take_zero,List.drop_succ_cons,List.drop_zero]
      repeat (go_big_quiet_step (fail))
      refine wpQuiet_nil ?_;go_wp2_with fail;refine bodyPost_ret (v := .tuple #[]) (by simp [results,Tryz.results218,go_sem]) rfl ?_
      have hX0 : X ≠ 0 := by
       intro e;have := HnX.out;rw [e,nd_zero] at this;omega
      have n1 := nd_pos hX0;have n2 := nd_pos (n := X + 1) (by omega);rw [show (X + 1) / 10 = X / 10 by omega] at n2;have s1 : strip (A + 1) = X + 1 := by rw [HX.out,strip_pow (by omega),strip,dif_neg (by omega)]
      have s2 : nd (A + 1) = r := by
       rw [HX.out,nd_pow (by omega)];have := HnX.out;omega
      have s3 : dg (X + 1) = dg (X / 10) ++ [UInt8.ofNat (48 + (X % 10 + 1))] := by
       rw [dg_pos (by omega),show (X + 1) / 10 = X / 10 by omega,show (X + 1) % 10 = X % 10 + 1 by omega]
      have s4 : arr.take i = dg (X / 10) := by
       have e1 := dg_take (j + 1) A (by rw [HA.out];omega);rw [HA.out,Nat.pow_succ,← Nat.div_div_eq_div_mul,← HXA.out,← Hta.out,List.take_take] at e1;rw [← e1];congr 1;have := Hi.out;omega
      have hir2 : nd (X + 1) = i + 1 := by have := Hi.out;have := HnX.out;omega
      have hlen : i < arr.length := by rw [hD2.1];exact hi8
      rw [s1,s2,show dp + ((r : Int) - (r : Int)) = dp by omega];refine ⟨rfl,⟨arr.set i (UInt8.ofNat (48 + (X % 10 + 1))),?_,(hD2.setD hi8 _ ?_).setN _ ?_⟩,only_set (only_set hO2 _ _) _ _⟩
      · rw [hir2,s3];exact set_take _ hlen s4
      · rw [UInt8.toNat_ofNat',Nat.mod_eq_of_lt (by omega)];congr 1
      rw [hir2];go_num
    have t9 : ¬ ((48 + X % 10 : Nat) : Int) < 57 := by omega
    have h99 : X % 10 = 9 := by omega
    rw [h99] at kd;clear t9 h9;have H99 := Lib.hid h99;clear h99;go_wp2_with fail
    go_roundg (r - j - 1)
    case measure => omega
    case rel =>
     refine ⟨j + 1,X / 10,by go_num,by omega,?_,?_,?_,rfl⟩
     · rw [HX.out,Nat.pow_succ];have : X + 1 = (X / 10 + 1) * 10 := by have := H99.out;omega
       rw [this]
       ac_rfl
     · have h3 := nd_pos (n := X) (by have := H99.out;omega);have := HnX.out;omega
     rw [HXA.out,Nat.div_div_eq_div_mul,Nat.pow_succ]
  have hjr : j = r := by omega
  have t1 : ¬ (0 : Int) ≤ (r : Int) - 1 - (j : Int) := by omega
  have f0 := h.fz 0;have k0 := h.d (i := 0) (by omega);have kp := h.cP;have fp := h.fz 801;go_wp2_with fail
  go_end0
  have hX0 : X = 0 := nd_none (by have := HnX.out;omega);have e1 : A + 1 = 1 * 10 ^ r := by have := HX.out;rw [hX0,hjr] at this;exact this
  have s0 : strip 1 = 1 := by rw [strip,dif_neg (by omega)]
  have n1 : nd 1 = 1 := by rw [nd_pos (by omega),show 1 / 10 = 0 by rfl,nd_zero]
  have s1 : strip (A + 1) = 1 := by rw [e1,strip_pow (by omega),s0]
  have s2 : nd (A + 1) = 1 + r := by rw [e1,nd_pow (by omega),n1]
  rw [s1,s2,n1];refine ⟨rfl,⟨arr.set 0 49,?_,((h.setD (by omega) 49 rfl).setN _ ?_).setP _ ?_⟩,only_set (only_set (only_set hO _ _) _ _) _ _⟩
  · have : arr.length = 800 := h.1;have e2 : (arr.set 0 49).take (0 + 1) = [] ++ [49] := set_take _ (by omega) (by rw [List.take_zero]);rw [show (1 : Nat) = 0 + 1 by rfl,e2,dg_pos (by omega),show (0 + 1) / 10 = 0 by rfl,dg_zero];rfl
  · go_num
  go_num
def rnM (N r : Nat) : Nat := N / 10 ^ (nd N - r) + (if upF N r then 1 else 0)
def rnN (N r : Nat) : Nat := if nd N ≤ r then N else strip (rnM N r)
def rnP (N r : Nat) (dp : Int) : Int := if nd N ≤ r then dp else dp + ((nd (rnM N r) : Int) - r)
theorem round10_any (p N r : Nat) (arr : List UInt8) (dp : Int) (neg : Bool) (w : World) (h : DB w p arr (nd N) dp neg false) (hr : 1 ≤ r ∧ r ≤ 100000) (hn : nd N ≤ 800) (ht : arr.take (nd N) = dg N) (hdp : -100000 ≤ dp ∧ dp ≤ 100000) :
 Calls Tryz.prog 164 #[.pointer (some ⟨p,0,none⟩),.int .i64 r] w fun e w' => e = .returned (.tuple #[]) ∧ (∃ arr',arr'.take (nd (rnN N r)) = dg (rnN N r) ∧ DB w' p arr' (nd (rnN N r)) (rnP N r dp) neg false) ∧ Only w w' p := by
 have k800 := h.cN;by_cases h1 : nd N ≤ r
 · have e1 : rnN N r = N ∧ rnP N r dp = dp := by unfold rnN rnP;rw [if_pos h1,if_pos h1];exact ⟨rfl,rfl⟩
   rw [e1.1,e1.2];clear e1;go_enter Tryz.func164,Tryz.ntmps164;go_wp2_with fail
   first | go_end0 | refine bodyPost_ret (v := .tuple #[]) (by simp [results,Tryz.results164,go_sem]) rfl ?_
   exact ⟨rfl,⟨arr,ht,h⟩,only_refl _ _⟩
 · have hup := fun w h => up_any p N (r : Int) arr dp neg w h hn ht (by omega)
   cases hu : upF N (r : Int) with
   | true =>
     have e1 : rnN N r = strip (N / 10 ^ (nd N - r) + 1) ∧ rnP N r dp = dp + ((nd (N / 10 ^ (nd N - r) + 1) : Int) - r) := by unfold rnN rnP rnM;rw [if_neg h1,if_neg h1,hu];exact ⟨rfl,rfl⟩
     rw [e1.1,e1.2];rw [hu] at hup;clear e1 hu;go_enter Tryz.func164,Tryz.ntmps164;go_wp2_with fail;refine (hup _ h).mono ?_;rintro e w1 ⟨rfl,rfl⟩;go_wp2_with fail;refine (rup_any p N r arr dp neg false _ h (by omega) hn ht hdp).mono ?_;rintro e w2 ⟨rfl,h2,h3⟩;go_wp2_with fail
     first | go_end0 | refine bodyPost_ret (v := .tuple #[]) (by simp [results,Tryz.results164,go_sem]) rfl ?_
     exact ⟨rfl,h2,h3⟩
   | false =>
     have h4 := (headN (N := N) (r := r) (by omega)).1
     have e1 : rnN N r = strip (N / 10 ^ (nd N - r)) ∧ rnP N r dp = dp := by
      unfold rnN rnP rnM;rw [if_neg h1,if_neg h1,hu];refine ⟨rfl,?_⟩;simp only [Bool.false_eq_true,if_false,Nat.add_zero,h4];omega
     rw [e1.1,e1.2];rw [hu] at hup;clear e1 hu h4;go_enter Tryz.func164,Tryz.ntmps164;go_wp2_with fail;refine (hup _ h).mono ?_;rintro e w1 ⟨rfl,rfl⟩;go_wp2_with fail;refine (down_any p N r arr dp neg false _ h (by omega) hn ht).mono ?_;rintro e w2 ⟨rfl,h2,h3⟩;go_wp2_with fail
     first | go_end0 | refine bodyPost_ret (v := .tuple #[]) (by simp [results,Tryz.results164,go_sem]) rfl ?_
     exact ⟨rfl,h2,h3⟩
end Go.Proofs.YtcpijmbdibgdmaaGreatDoor
namespace Go.Proofs.YtcpijmbdibgdmaaGreatDoor
open Go.RowKit
def feE (b : Nat) : Nat := b / 4503599627370496 % 2048
def feM (b : Nat) : Nat := if feE b = 0 then b % 4503599627370496 else b % 4503599627370496 + 4503599627370496
def feX (b : Nat) : Int := (if feE b = 0 then 1 else (feE b : Int)) - 1023
def ndF (X : Int) : Int := if 0 ≤ X then 1 + log10F (1 + X) + 12 else 13 - log10F (-X)
def fiF (X : Int) : Nat := (ndF X - 1 - log10F X + 348).toNat
def fvF (hi lo : Nat → Nat) (M : Nat) (X : Int) : Nat := rndN (fxQ hi lo (xF M 53) (fiF X) (ndF X).toNat (X - 63))
def fpF (hi lo : Nat → Nat) (M : Nat) (X : Int) : Nat := fxP hi lo (xF M 53) (fiF X) (ndF X).toNat (X - 63)
def ffD (hi lo : Nat → Nat) (M : Nat) (X : Int) : List UInt8 × Int :=
 if M = 0 then ([],0)
 else if ndF X ≤ 18 then
  if 0 < ndF X then (if fvF hi lo M X = 0 then ([],0) else (dg (strip (fvF hi lo M X)),(nd (fvF hi lo M X) : Int) - fpF hi lo M X)) else ([],0)
 else
  let k := (52 - X).toNat;let N := shR (strip M) k;let dp := dpR (strip M) (nd M) k
  (dg (rnN N (dp + 12).toNat),rnP N (dp + 12).toNat dp)
def ffB (hi lo : Nat → Nat) (b : Nat) : List UInt8 := fmtN (decide (b / 9223372036854775808 ≠ 0)) (ffD hi lo (feM b) (feX b)).1 (ffD hi lo (feM b) (feX b)).2
theorem ndF_row : ∀ X : Fin 1200,(1 ≤ ndF ((X.val : Int) - 1100) ∧ ndF ((X.val : Int) - 1100) ≤ 18 ∧ (X.val : Int) - 1100 ≤ 46) → (-43 ≤ (X.val : Int) - 1100 ∧ (ndF ((X.val : Int) - 1100) - 1 - log10F ((X.val : Int) - 1100) = 12 ∨ ndF ((X.val : Int) - 1100) - 1 - log10F ((X.val : Int) - 1100) = 13)) := by decide +kernel
theorem ndF_rows {X : Int} (h0 : -1100 ≤ X) (h1 : 1 ≤ ndF X) (h2 : ndF X ≤ 18) (h3 : X ≤ 46) : -43 ≤ X ∧ (ndF X - 1 - log10F X = 12 ∨ ndF X - 1 - log10F X = 13) := by
 have := ndF_row ⟨(X + 1100).toNat,by omega⟩;simp only [show (((X + 1100).toNat : Nat) : Int) - 1100 = X by omega] at this;exact this ⟨h1,h2,h3⟩
theorem ndF_big : ∀ X : Fin 1200,18 < ndF ((X.val : Int) - 1100) → (18 ≤ (X.val : Int) - 1100) := by decide +kernel
theorem ndF_bigs {X : Int} (h0 : -1100 ≤ X) (h3 : X ≤ 46) (h : 18 < ndF X) : 18 ≤ X := by
 have := ndF_big ⟨(X + 1100).toNat,by omega⟩;simp only [show (((X + 1100).toNat : Nat) : Int) - 1100 = X by omega] at this;exact this h
theorem bitLen53 {M : Nat} (h1 : 4503599627370496 ≤ M) (h2 : M < 9007199254740992) : Lib.bitLen M = 53 := by
 obtain ⟨a,b,c⟩ := Lib.bitLenAux_bounds 64 M (by omega) (by omega);unfold Lib.bitLen;generalize Lib.bitLenAux 64 M = L at a b c
 have h3 : L < 54 := by
  refine Nat.lt_of_not_le fun h => ?_
  have : 2 ^ 53 ≤ 2 ^ (L - 1) := Nat.pow_le_pow_right (by decide) (by omega);omega
 have h4 : 52 < L := by
  refine Nat.lt_of_not_le fun h => ?_
  have : 2 ^ L ≤ 2 ^ 52 := Nat.pow_le_pow_right (by decide) h;omega
 omega
end Go.Proofs.YtcpijmbdibgdmaaGreatDoor
namespace Go.Proofs.YtcpijmbdibgdmaaGreatDoor
open Go.RowKit
attribute [local go_sem] ba_get store_flt
theorem fmt0_any (neg : Bool) (B : Nat) (v0 : Value) (w : World) (hO : Own w B v0 []) (hB : B ≤ w.heap.size) :
 Calls Tryz.prog 156 #[v0,.bool neg,.slice none 0 0,.int .i64 0,.int .i64 0,.int .i64 12,.int .u8 102,.bool false] w fun e w' => ∃ v',e = .returned v' ∧ FS w w' B v0 v' (fmtN neg [] 0) := by
 have hf0 : FS w w B v0 v0 [] := FS.refl hO;go_enter Tryz.func156,Tryz.ntmps156
 go_upto_if 178 with fail
 go_cut [0] from 179 to 181 (fun s0 wc => FS w wc B v0 s0 (sgnB neg))
 case first =>
  cases neg with
  | true =>
    go_wp2_with (at_builtin;refine wp_app_fs w _ 45 B v0 _ _ hf0 hB ?c0 rfl _ _ rfl rfl rfl ?_)
    case c0 => simp
    intro v1 w1 hf1;go_wp2_with fail
    go_meet
    case rel => exact hf1
  | false =>
    go_wp2_with fail
    go_meet
    case rel => exact hf0
 case rest =>
  have hf1 := hcut;clear hf0 hcut;have hsg : (sgnB neg).length ≤ 1 := by unfold sgnB;split <;> simp
  go_wp2_with (at_builtin;refine wp_app_fs w _ 48 B v0 _ _ hf1 hB ?c0 rfl _ _ rfl rfl rfl ?_)
  case c0 => omega
  intro v1 w1 hf2;clear hf1;go_wp2_with (at_builtin;refine wp_app_fs w _ 46 B v0 _ _ hf2 hB ?c0 rfl _ _ rfl rfl rfl ?_)
  case c0 => simp;omega
  intro v2 w2 hf3;clear hf2;go_wp2_with fail;refine wp_loop_rounds 1 ?_;rw [rounds_succ];go_wp2_with fail;refine wp_loop_rounds 1 ?_;rw [rounds_succ];go_wp2_with fail
  go_loopg [0,261] 12 (fun g s0 si wr => ∃ i : Nat,si = .int .i64 i ∧ i + g = 12 ∧ FS w wr B v0 s0 (sgnB neg ++ ([48] ++ ([46] ++ List.replicate i 48))))
  case atStart => exact ⟨0,rfl,by omega,by rw [List.replicate_zero,List.append_nil];exact hf3⟩
  case round =>
   clear hf3;obtain ⟨k,rfl,hg,hf⟩ := hrel;by_cases hk : k < 12
   · have tk : k < 12 := hk;go_wp2_with (at_builtin;refine wp_app_fs w _ 48 B v0 _ _ hf hB ?c0 rfl _ _ rfl rfl rfl ?_)
     case c0 => first | omega | (simp;omega)
     intro v1 w1 hf1;go_wp2_with fail
     go_roundg (12 - k - 1)
     case measure => omega
     case rel => exact ⟨k + 1,by go_num,by omega,by rw [List.replicate_succ'];exact hf1⟩
   have hc : k = 12 := by omega
   have tk : ¬ k < 12 := hk;rw [hc] at hf;clear hc;go_wp2_with fail;go_ret;refine ⟨_,rfl,?_⟩
   have e : fmtN neg [] 0 = sgnB neg ++ ([48] ++ ([46] ++ List.replicate 12 48)) := by
    cases neg <;> rfl
   rw [e];exact hf
end Go.Proofs.YtcpijmbdibgdmaaGreatDoor
namespace Go.Proofs.YtcpijmbdibgdmaaGreatDoor
open Go.RowKit
attribute [local go_sem] ba_get store_flt
theorem nd_digits {u : Nat} (h : 1 ≤ u) : Lib.nDigits u = nd u := by
 have h1 := nd_lt u;have h2 := nd_ge u (by omega);have h3 := nd_one (n := u) (by omega);have e : nd u = nd u - 1 + 1 := by omega
 rw [e] at h1 h2 ⊢;rw [Nat.pow_succ] at h2;exact Lib.nDigits_unique _ _ (by omega) h1
theorem only_putRow {α : Type} [Inhabited α] (enc : α → Value) (w : World) (q off : Nat) (d : Array α) : Only w (Sort.putRow enc w q off d) q := by
 refine ⟨rfl,rfl,rfl,by simp [Sort.putRow,Sort.mapBlock],fun k hk hne => ?_⟩;simp only [Sort.putRow,Sort.mapBlock,Array.getElem?_modify];rw [if_neg (fun e => hne (by rw [e]))]
theorem setDigits_any (u q L : Nat) (p : Int) (w : World) (hu : 1 ≤ u) (hu2 : u < 18446744073709551616) (hL : nd u ≤ L ∧ L ≤ 100) (hp : -10000 ≤ p ∧ p ≤ 10000) (hc : ∀ i,i < L → w.cell? ⟨q,i,none⟩ = some (.int .u8 0)) (hf : ∀ i,i < L → w.frozen? ⟨q,i,none⟩ = false) :
 Calls Tryz.prog 159 #[.slice (some ⟨q,0,none⟩) L L,.int .u64 u,.int .i64 p,.int .i64 (nd u)] w fun e w' =>
  e = .returned (.tuple #[.int .i64 ((nd u : Int) + p),.int .i64 (nd (strip u))]) ∧ (∀ i,(h : i < (dg (strip u)).length) → w'.cell? ⟨q,i,none⟩ = some (bcell (dg (strip u))[i])) ∧ Only w w' q := by
 obtain ⟨d0,hd0⟩ : ∃ d0 : Array UInt8,d0 = (List.replicate (nd u) 0).toArray := ⟨_,rfl⟩;have hs0 : d0.size = nd u := by rw [hd0];simp
 have hH : Sort.Holds (fun (b : UInt8) => Value.int .u8 (b.toNat : Int)) w q 0 d0 := by
  intro j hj;rw [hs0] at hj;rw [Nat.zero_add];refine ⟨(hc j (by omega)).trans ?_,hf j (by omega)⟩;rw [hd0,getElem!_pos _ j (by simpa using hj)];simp
 have hfmt := fun cap => Tryz.internal_strconv_formatBase10 q 0 cap u d0 w hH (by rw [hs0];exact nd_lt u) hu2 (by omega)
 rw [hs0] at hfmt;have hn1 := nd_one (n := u) (by omega);have hn2 : nd u ≤ 100 := by omega
 have hs2 := strip_nd_le (n := u) (by omega);have HH := Lib.hid hH;have Hs := Lib.hid hs0;have Hc := Lib.hid hc;clear hH hd0 hc hf;go_enter Tryz.func159,Tryz.ntmps159;go_wp2_with fail;refine (hfmt _).mono ?_;rintro e w1 ⟨rfl,n,v',dk,hw1,hinv⟩
 have hdig : Hid (∀ i,i < nd u → w1.cell? ⟨q,i,none⟩ = some (bcell ((dg u)[i]?.getD 0))) := Lib.hid (by
  intro i hi
  have h1 := Sort.cell?_putRow (fun (b : UInt8) => Value.int .u8 (b.toNat : Int)) w q 0 d0 dk HH.out (by rw [Hs.out];exact hinv.size) i (by rw [hinv.size];exact hi)
  rw [Nat.zero_add] at h1
  rw [hw1]
  refine Eq.trans (b := (Sort.putRow (fun (b : UInt8) => Value.int .u8 (b.toNat : Int)) w q 0 dk).cell? ⟨q,i,none⟩) rfl (h1.trans ?_)
  rw [hinv.done i (Nat.zero_le _) hi]
  have h2 := dg_get (nd u - 1 - i) u (by omega)
  rw [show nd u - 1 - (nd u - 1 - i) = i by omega] at h2
  rw [h2]
  rfl)
 have hO : Only w w1 q := by rw [hw1];exact only_drewN (only_putRow _ _ _ _ _) _
 clear hw1 hinv hfmt;go_wp2_with fail
 go_loopg [3] (nd u) (fun g s3 wr => ∃ M z,s3 = .int .i64 g ∧ u = M * 10 ^ z ∧ M ≠ 0 ∧ nd M = g ∧ w1 = wr)
 case atStart => exact ⟨u,0,rfl,by rw [Nat.pow_zero,Nat.mul_one],by omega,rfl,rfl⟩
 case round =>
  obtain ⟨M,z,rfl,hM,hM0,hg,rfl⟩ := hrel;have hz : nd u = nd M + z := by rw [hM];exact nd_pow hM0 z
  have h1 := nd_one hM0;obtain ⟨n,hn'⟩ : ∃ n,gk = n + 1 := ⟨gk - 1,by omega⟩;subst hn'
  have hkd : w1.cell? ⟨q,n,none⟩ = some (.int .u8 ((48 + M % 10 : Nat) : Int)) := by
   have h2 := hdig.out n (by omega);have h3 := dg_get z u (by omega);rw [show nd u - 1 - z = n by omega] at h3;rw [h3] at h2;rw [h2,show u / 10 ^ z = M by rw [hM,Nat.mul_div_cancel _ (ten_pos z)]];simp only [bcell,Option.getD_some,UInt8.toNat_ofNat'];congr 2;omega
  have hnL : n < L := by omega
  have Hg := Lib.hid hg;have HM := Lib.hid hM;have t0 : (0 : Int) < ((n + 1 : Nat) : Int) := by omega
  clear hg hM hz h1;by_cases h10 : M % 10 = 0
  · rw [h10] at hkd;have H10 := Lib.hid h10;clear h10;go_wp2_with fail
    go_roundg n
    case measure => omega
    case rel =>
     have e := H10.out;have e3 : M = M / 10 * 10 := by omega
     refine ⟨M / 10,z + 1,by go_num,?_,by omega,?_,rfl⟩
     · rw [HM.out,Nat.pow_succ]
       conv => lhs;rw [e3]
       ac_rfl
     have := nd_pos hM0;have := Hg.out;omega
  have t2 : (((48 + M % 10 : Nat) : Int) == 48) = false := by rw [beq_eq_false_iff_ne];omega
  have H10 := Lib.hid h10;clear h10;go_wp2_with fail;have e : strip u = M := by rw [HM.out,strip_pow hM0,strip,dif_neg (by have := H10.out;omega)]
  refine bodyPost_ret (v := .tuple #[.int .i64 ((nd u : Int) + p),.int .i64 (nd (strip u))]) (by simp [results,Tryz.results159,go_sem,e,Hg.out]) rfl ?_;refine ⟨rfl,fun i hi => ?_,hO⟩;have hnz : nd u = nd M + z := by rw [HM.out];exact nd_pow hM0 z
  have hi2 : i < nd M := by rw [e] at hi;exact hi
  rw [hdig.out i (by omega)];have h4 := dg_take z u (by omega);rw [show u / 10 ^ z = M by rw [HM.out,Nat.mul_div_cancel _ (ten_pos z)]] at h4;have h5 := take_get h4 (show i < nd u - z by omega);rw [h5,← e,List.getElem?_eq_getElem hi];rfl
end Go.Proofs.YtcpijmbdibgdmaaGreatDoor
namespace Go.Proofs.YtcpijmbdibgdmaaGreatDoor
open Go.RowKit
attribute [local go_sem] ba_get store_flt
theorem FS.after {w w1 w2 : World} {B : Nat} {v0 v : Value} {bs : List UInt8} (hb : Below w.heap.size w w1) (h : FS w1 w2 B v0 v bs) : FS w w2 B v0 v bs := by
 refine ⟨h.own,⟨h.gr.os.trans hb.os,h.gr.tape.trans hb.tape,h.gr.output.trans hb.output,Nat.le_trans hb.size h.gr.size,fun k hk hne => (h.gr.block k (Nat.lt_of_lt_of_le hk hb.size) hne).trans (hb.block k hk)⟩,?_⟩;rcases h.loc with h1 | ⟨k,h1,h2⟩
 · exact .inl h1
 exact .inr ⟨k,h1,Nat.le_trans hb.size h2⟩
theorem bits_run (u : Nat) (w : World) : (callFunc 153 #[.float .f64 u]).run Tryz.prog w = .ok (.value (.int .u64 (u : Int))) w := by
 rw [run_callFunc_extern Tryz.func153 (by kernel_rfl) (by kernel_rfl) (by kernel_rfl) (e := Extern.MathFloatBits.float64bits) (by kernel_rfl)];rfl
theorem ftoa_zero (hi lo : Nat → Nat) (b B : Nat) (v0 : Value) (W0 w : World) (hT : ∀ i,i < 696 → W0.cell? ⟨22,i * 2,none⟩ = some (.int .u64 (hi i)) ∧ W0.cell? ⟨22,i * 2 + 1,none⟩ = some (.int .u64 (lo i))) (hb : ∀ i,i < 696 → hi i < 18446744073709551616 ∧ lo i < 18446744073709551616)
 (hP : ∀ i,i < 20 → W0.cell? ⟨10,i,none⟩ = some (.int .u64 ((10 ^ i : Nat) : Int))) (htab : ∀ w',Below W0.heap.size W0 w' → Lib.TabIs Tryz.prog w' "internal/strconv.uint64pow10" .u64 Lib.pow10Tab)
 (hopt : W0.cell? ⟨9,0,none⟩ = some (.bool true)) (h22 : 22 < W0.heap.size) (hW : Below W0.heap.size W0 w) (hb64 : b < 18446744073709551616) (hE : feE b ≤ 1069) (hO : Own w B v0 []) (hB : B ≤ w.heap.size) (hB0 : W0.heap.size ≤ B) (hcs : feM b = 0) :
 Calls Tryz.prog 123 #[v0,.float .f64 b,.int .u8 102,.int .i64 12] w fun e w' => ∃ v',e = .returned v' ∧ FS w w' B v0 v' (ffB hi lo b) := by
 have Hcs := Lib.hid hcs;clear hcs;have hbr := bits_run;obtain ⟨neg,hneg⟩ : ∃ neg,neg = decide (b / 9223372036854775808 ≠ 0) := ⟨_,rfl⟩
 have tneg : ((b : Int) / 9223372036854775808 != 0) = neg := by
  rw [hneg];by_cases h : b / 9223372036854775808 = 0
  · rw [decide_eq_false (by omega),bne_eq_false_iff_eq];omega
  rw [decide_eq_true h,bne_iff_ne];omega
 have tE : bits BinOp.and IntKind.i64 ((b : Int) / 4503599627370496) 2047 = (feE b : Int) := by
  show IntKind.i64.wrap ((BitVec.ofInt 64 ((b : Int) / 4503599627370496) &&& BitVec.ofInt 64 2047).toNat : Int) = _;have e1 : (BitVec.ofInt 64 ((b : Int) / 4503599627370496)).toNat = b / 4503599627370496 := by rw [show (b : Int) / 4503599627370496 = ((b / 4503599627370496 : Nat) : Int) by omega];exact ofInt_u64 _ (by omega)
  have e2 : (BitVec.ofInt 64 2047).toNat = 2 ^ 11 - 1 := by decide
  rw [BitVec.toNat_and,e1,e2,Nat.and_two_pow_sub_one_eq_mod];unfold feE;simp [IntKind.wrap,IntKind.bits,IntKind.signed];omega
 have tM : bits BinOp.and IntKind.u64 (b : Int) 4503599627370495 = ((b % 4503599627370496 : Nat) : Int) := by
  rw [show (4503599627370495 : Int) = ((4503599627370496 : Nat) : Int) - 1 by rfl];exact and_mask (k := 52) rfl (by decide) hb64
 have copt := (hW.cell (p := ⟨9,0,none⟩) (by show 9 < _;omega)).trans hopt;have hF : ffB hi lo b = fmtN neg (ffD hi lo (feM b) (feX b)).1 (ffD hi lo (feM b) (feX b)).2 := by rw [hneg];rfl
 rw [hF];obtain ⟨m0,hm0⟩ : ∃ m0,m0 = b % 4503599627370496 := ⟨_,rfl⟩;obtain ⟨E,hEe⟩ : ∃ E,E = feE b := ⟨_,rfl⟩;have HM : Hid (feM b = if E = 0 then m0 else m0 + 4503599627370496) := Lib.hid (by rw [hEe,hm0];rfl);have HXx : Hid (feX b = (if E = 0 then 1 else (E : Int)) - 1023) := Lib.hid (by rw [hEe];rfl);rw [← hm0] at tM;rw [← hEe] at tE hE;have hm0l : m0 < 4503599627370496 := by omega
 have hwE : (b : Int) / 4503599627370496 < 4096 := by omega
 clear hneg hm0 hEe hF;go_enter Tryz.func123,Tryz.ntmps123;go_wp2_with fail;go_quiet (fail)
 go_upto_if 78 with fail
 obtain ⟨M,hM⟩ : ∃ M,M = feM b := ⟨_,rfl⟩;obtain ⟨X,hX⟩ : ∃ X,X = feX b := ⟨_,rfl⟩;simp only [← hM,← hX] at Hcs;rw [← hM] at HM;rw [← hX] at HXx;have HMX : Hid (ffD hi lo (feM b) (feX b) = ffD hi lo M X) := Lib.hid (by rw [hM,hX]);clear hM hX;obtain ⟨X1,hX1⟩ : ∃ X1,X1 = X + 1023 := ⟨_,rfl⟩;have HX1 := Lib.hid hX1;have hX2 : X1 + -1023 = X := by omega
 clear hX1
 go_cut [14,15] from 79 to 84 (fun s14 s15 wc => s14 = .int .i64 X1 ∧ s15 = .int .u64 M ∧ wc = w.drewN nq)
 case first =>
  by_cases h0 : E = 0
  · have t0 : ((E : Int) == 0) = true := by rw [beq_iff_eq];omega
    have e1 : X1 = (E : Int) + 1 := by have h1 := HXx.out;have := HX1.out;rw [if_pos h0] at h1;omega
    have e2 : M = m0 := by have := HM.out;rw [if_pos h0] at this;exact this
    clear h0;go_wp2_with fail
    go_meet
    case rel => exact ⟨congrArg _ e1.symm,by rw [e2],rfl⟩
  have t0 : ((E : Int) == 0) = false := by rw [beq_eq_false_iff_ne];omega
  have e1 : X1 = (E : Int) := by have h1 := HXx.out;have := HX1.out;rw [if_neg h0] at h1;omega
  have e2 : M = m0 + 4503599627370496 := by have := HM.out;rw [if_neg h0] at this;exact this
  have e3 : bits BinOp.or IntKind.u64 (m0 : Int) 4503599627370496 = (m0 : Int) + 4503599627370496 := by
   have := u64_or_nat m0 4503599627370496 (by omega) (by decide)
   have h2 : m0 ||| 4503599627370496 = m0 + 4503599627370496 := by
    rw [Nat.or_comm,nat_join 52 _ _ (by decide) (by omega)];omega
   rw [h2] at this;exact Eq.trans this (by omega)
  have E1 := Lib.hid e1;have E2 := Lib.hid e2;clear h0 e1 e2;go_wp2_with fail
  go_meet
  case rel => exact ⟨congrArg _ E1.out.symm,by rw [E2.out];rfl,rfl⟩
 case rest =>
  obtain ⟨rfl,rfl,rfl⟩ := hcut;have hXr : -1022 ≤ X ∧ X ≤ 46 := by have := HXx.out;split at this <;> omega
  have hMl : M < 9007199254740992 := by have := HM.out;split at this <;> omega
  have hMX : Hid (M ≠ 0 → -1022 < X → 4503599627370496 ≤ M) := Lib.hid (by
   intro _ h2
   have h3 := HXx.out
   have := HM.out
   by_cases h0 : E = 0
   · rw [if_pos h0] at h3;omega
   · rw [if_neg h0] at this;omega)
  clear tE tM hE hm0l hwE tneg;have hM0 : M = 0 := Hcs.out;have tm : ((M : Int) == 0) = true := by rw [beq_iff_eq];omega
  have e0 : Hid (ffD hi lo M X = ([],0)) := Lib.hid (by unfold ffD;rw [if_pos hM0]);clear hM0;go_wp2_with fail;refine (fmt0_any neg B v0 _ (hO.drewN _) (by simpa using hB)).mono ?_;rintro e w9 ⟨v',rfl,hf⟩;go_wp2_with fail;go_ret;refine ⟨_,rfl,?_⟩;rw [HMX.out,e0.out];exact hf.after (below_drewN (Below.refl _ w) _)
end Go.Proofs.YtcpijmbdibgdmaaGreatDoor
