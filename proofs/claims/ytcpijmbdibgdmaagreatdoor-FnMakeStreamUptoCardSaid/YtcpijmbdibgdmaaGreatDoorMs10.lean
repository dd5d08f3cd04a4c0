/-
  internal/strconv's decimal in memory; trim.
  internal/strconv: decimal.rightShift.
  internal/strconv: prefixIsLessThan, decimal.leftShift.
-/
import Derived.Test.YtcpijmbdibgdmaaGreatDoorMs09
set_option linter.all false
set_option maxHeartbeats 16000000
set_option maxRecDepth 100000
namespace Go.Proofs.YtcpijmbdibgdmaaGreatDoor
open Go.RowKit
attribute [local go_sem] ba_get store_flt
def DBc (arr : List UInt8) (n dp : Int) (neg tr : Bool) : Array Value := (arr.map bcell ++ ([.int .i64 n,.int .i64 dp,.bool neg,.bool tr] : List Value)).toArray
def DB (w : World) (p : Nat) (arr : List UInt8) (n dp : Int) (neg tr : Bool) : Prop := arr.length = 800 ∧ Blk w p 242 (DBc arr n dp neg tr)
section
variable {w w' : World} {p : Nat} {arr : List UInt8} {n dp : Int} {neg tr : Bool}
theorem DBc_lo (h : arr.length = 800) {i : Nat} (hi : i < 800) : (DBc arr n dp neg tr)[i]? = some (.int .u8 (arr[i]'(by omega)).toNat) := by
 unfold DBc;rw [List.getElem?_toArray,List.getElem?_append_left (by rw [List.length_map];omega),List.getElem?_map,List.getElem?_eq_getElem (by omega)];rfl
theorem DBc_hi (h : arr.length = 800) (i : Nat) : (DBc arr n dp neg tr)[800 + i]? = ([.int .i64 n,.int .i64 dp,.bool neg,.bool tr] : List Value)[i]? := by
 unfold DBc;rw [List.getElem?_toArray,List.getElem?_append_right (by rw [List.length_map];omega),List.length_map,h,Nat.add_sub_cancel_left]
theorem DB.d (h : DB w p arr n dp neg tr) {i : Nat} (hi : i < 800) : w.cell? ⟨p,i,none⟩ = some (.int .u8 (arr[i]'(by have := h.1;omega)).toNat) := (h.2.cell i).trans (DBc_lo h.1 hi)
theorem DB.cN (h : DB w p arr n dp neg tr) : w.cell? ⟨p,800,none⟩ = some (.int .i64 n) := (h.2.cell 800).trans (DBc_hi h.1 0)
theorem DB.cP (h : DB w p arr n dp neg tr) : w.cell? ⟨p,801,none⟩ = some (.int .i64 dp) := (h.2.cell 801).trans (DBc_hi h.1 1)
theorem DB.cG (h : DB w p arr n dp neg tr) : w.cell? ⟨p,802,none⟩ = some (.bool neg) := (h.2.cell 802).trans (DBc_hi h.1 2)
theorem DB.cT (h : DB w p arr n dp neg tr) : w.cell? ⟨p,803,none⟩ = some (.bool tr) := (h.2.cell 803).trans (DBc_hi h.1 3)
theorem DB.fz (h : DB w p arr n dp neg tr) (i : Nat) : w.frozen? ⟨p,i,none⟩ = false := h.2.frozen i
theorem DB.dv (h : DB w p arr n dp neg tr) {i c : Nat} (hi : arr[i]? = some (UInt8.ofNat c)) (hc : c < 256) : w.cell? ⟨p,i,none⟩ = some (.int .u8 c) := by
 obtain ⟨h1,h2⟩ := List.getElem?_eq_some_iff.1 hi;rw [h.d (by have := h.1;omega),h2,UInt8.toNat_ofNat',Nat.mod_eq_of_lt hc]
theorem DBc_set (h : arr.length = 800) {i : Nat} (hi : i < 800) (b : UInt8) : (DBc arr n dp neg tr).setIfInBounds i (.int .u8 b.toNat) = DBc (arr.set i b) n dp neg tr := by
 unfold DBc;rw [List.setIfInBounds_toArray,List.set_append_left _ _ (by rw [List.length_map];omega),List.map_set]
theorem DBc_set2 (h : arr.length = 800) (i : Nat) (u : Value) : (DBc arr n dp neg tr).setIfInBounds (800 + i) u = (arr.map bcell ++ ([.int .i64 n,.int .i64 dp,.bool neg,.bool tr] : List Value).set i u).toArray := by
 unfold DBc;rw [List.setIfInBounds_toArray,List.set_append_right _ _ (by rw [List.length_map];omega),List.length_map,h,Nat.add_sub_cancel_left]
theorem DB.setD (h : DB w p arr n dp neg tr) {i : Nat} (hi : i < 800) (b : UInt8) {v : Value} (hv : v = .int .u8 b.toNat) : DB (w.setCell ⟨p,i,none⟩ v) p (arr.set i b) n dp neg tr := by
 subst hv;refine ⟨by rw [List.length_set];exact h.1,?_⟩;rw [← DBc_set h.1 hi];exact h.2.set_ i _
theorem DB.setN (h : DB w p arr n dp neg tr) (n' : Int) {v : Value} (hv : v = .int .i64 n') : DB (w.setCell ⟨p,800,none⟩ v) p arr n' dp neg tr := by
 subst hv;refine ⟨h.1,?_⟩;have := h.2.set_ (800 + 0) (.int .i64 n');rw [DBc_set2 h.1] at this;exact this
theorem DB.setP (h : DB w p arr n dp neg tr) (n' : Int) {v : Value} (hv : v = .int .i64 n') : DB (w.setCell ⟨p,801,none⟩ v) p arr n n' neg tr := by
 subst hv;refine ⟨h.1,?_⟩;have := h.2.set_ (800 + 1) (.int .i64 n');rw [DBc_set2 h.1] at this;exact this
theorem DB.setG (h : DB w p arr n dp neg tr) (b : Bool) {v : Value} (hv : v = .bool b) : DB (w.setCell ⟨p,802,none⟩ v) p arr n dp b tr := by
 subst hv;refine ⟨h.1,?_⟩;have := h.2.set_ (800 + 2) (.bool b);rw [DBc_set2 h.1] at this;exact this
theorem DB.setT (h : DB w p arr n dp neg tr) (b : Bool) {v : Value} (hv : v = .bool b) : DB (w.setCell ⟨p,803,none⟩ v) p arr n dp neg b := by
 subst hv;refine ⟨h.1,?_⟩;have := h.2.set_ (800 + 3) (.bool b);rw [DBc_set2 h.1] at this;exact this
theorem DB.drewN (h : DB w p arr n dp neg tr) (k : Nat) : DB (w.drewN k) p arr n dp neg tr := ⟨h.1,h.2.drewN k⟩
theorem DB.below {B : Nat} (h : DB w p arr n dp neg tr) (hb : Below B w w') (hp : p < B) : DB w' p arr n dp neg tr := ⟨h.1,h.2.below hb hp⟩
end
theorem take_get {α : Type} {l m : List α} {n i : Nat} (h : l.take n = m) (hi : i < n) : l[i]? = m[i]? := by rw [← h,List.getElem?_take_of_lt hi]
theorem dg_last {arr : List UInt8} {N M z : Nat} (ht : arr.take (nd N) = dg N) (h : N = M * 10 ^ z) (h0 : M ≠ 0) : arr[nd M - 1]? = some (UInt8.ofNat (48 + M % 10)) := by
 have h1 : nd N = nd M + z := by rw [h];exact nd_pow h0 z
 have h2 := nd_one h0;rw [take_get ht (by omega)];have := dg_get z N (by omega);rw [show nd N - 1 - z = nd M - 1 by omega] at this;rw [this,h,Nat.mul_div_cancel _ (ten_pos z)]
theorem dg_less {arr : List UInt8} {N : Nat} (ht : arr.take (nd N) = dg N) (h0 : N ≠ 0) : arr.take (nd (strip N)) = dg (strip N) := by
 obtain ⟨z,h1,h2⟩ := strip_nd h0;have h3 := dg_take z N (by omega)
 have e : N / 10 ^ z = strip N := by
  have := Nat.mul_div_cancel (strip N) (ten_pos z);rw [← h1] at this;exact this
 rw [e,← ht,List.take_take] at h3;rw [← h3];congr 1;omega
theorem dtrim_any (p N : Nat) (arr : List UInt8) (dp : Int) (neg tr : Bool) (w : World) (h : DB w p arr (nd N) dp neg tr) (h0 : N ≠ 0) (hn : nd N ≤ 800) (ht : arr.take (nd N) = dg N) :
 Calls Tryz.prog 214 #[.pointer (some ⟨p,0,none⟩)] w fun e w' => e = .returned (.tuple #[]) ∧ DB w' p arr (nd (strip N)) dp neg tr ∧ Only w w' p := by
 go_enter Tryz.func214,Tryz.ntmps214;go_wp2_with fail
 go_loopg [] (nd N) (fun g wr => ∃ M z,N = M * 10 ^ z ∧ M ≠ 0 ∧ nd M = g ∧ DB wr p arr g dp neg tr ∧ Only w wr p)
 case atStart => exact ⟨N,0,by rw [Nat.pow_zero,Nat.mul_one],h0,rfl,h,only_refl _ _⟩
 case round =>
  obtain ⟨M,z,hM,hM0,hg,hD,hO⟩ := hrel;have hz : nd N = nd M + z := by rw [hM];exact nd_pow hM0 z
  have h1 := nd_one hM0;obtain ⟨n,hn'⟩ : ∃ n,gk = n + 1 := ⟨gk - 1,by omega⟩;subst hn';have hl := dg_last ht hM hM0;rw [hg,Nat.add_sub_cancel] at hl;have kn := hD.cN;have kd := hD.dv hl (by omega);have kp := hD.cP;have f0 := hD.fz 800;have hn8 : n < 800 := by omega
  have Hg := Lib.hid hg;have HM := Lib.hid hM;have Ht := Lib.hid ht;have Hl := Lib.hid hl;clear hg hM hz hl h1 hn ht;by_cases h10 : M % 10 = 0
  · rw [h10] at kd;have t1 : decide ((0 : Int) < ((n + 1 : Nat) : Int)) = true := by rw [decide_eq_true_eq];omega
    have H10 := Lib.hid h10;clear h10;go_wp2_with fail;go_quiet (fail);go_wp2_with fail
    go_roundg n
    case measure => omega
    case rel =>
     have e := H10.out;have e2 := HM.out;have e3 : M = M / 10 * 10 := by omega
     refine ⟨M / 10,z + 1,?_,by omega,?_,(hD.drewN _).setN _ ?_,(by repeat first | with_reducible exact hO | refine only_drewN ?_ _ | refine only_set ?_ _ _ | refine only_drew ?_)⟩
     · rw [e2,Nat.pow_succ]
       conv => lhs;rw [e3]
       ac_rfl
     · have := nd_pos hM0;have := Hg.out;omega
     simp
  have t1 : decide ((0 : Int) < ((n + 1 : Nat) : Int)) = true := by rw [decide_eq_true_eq];omega
  have t2 : (((48 + M % 10 : Nat) : Int) == 48) = false := by rw [beq_eq_false_iff_ne];omega
  have t3 : (((n + 1 : Nat) : Int) == 0) = false := by rw [beq_eq_false_iff_ne];omega
  have H10 := Lib.hid h10;clear h10;go_wp2_with fail;go_quiet (fail);go_wp2_with fail
  go_end0
  have e : strip N = M := by
   rw [HM.out,strip_pow hM0,strip,dif_neg (by have := H10.out;omega)]
  rw [e];refine ⟨rfl,?_,(by repeat first | with_reducible exact hO | refine only_drewN ?_ _ | refine only_set ?_ _ _ | refine only_drew ?_)⟩;rw [Hg.out];exact hD
end Go.Proofs.YtcpijmbdibgdmaaGreatDoor
namespace Go.Proofs.YtcpijmbdibgdmaaGreatDoor
open Go.RowKit
attribute [local go_sem] ba_get store_flt
theorem set_take {l m : List UInt8} {i : Nat} (b : UInt8) (hi : i < l.length) (h : l.take i = m) : (l.set i b).take (i + 1) = m ++ [b] := by
 rw [List.take_succ_eq_append_getElem (by rw [List.length_set];exact hi),List.getElem_set_self,List.take_set_of_le (Nat.le_refl _),h]
theorem two_le {K k m M : Nat} (hK : K = 2 ^ k) (hk : k ≤ m) (hM : 2 ^ m = M) : K ≤ M := by
 rw [hK,← hM];exact Nat.pow_le_pow_right (by decide) hk
theorem and_mask {n K k : Nat} (hK : K = 2 ^ k) (hk : k ≤ 63) (hn : n < 18446744073709551616) : bits BinOp.and IntKind.u64 (n : Int) ((K : Int) - 1) = ((n % K : Nat) : Int) := by
 have h1 : 0 < K := by rw [hK];exact two_pos k
 have h2 : K ≤ 9223372036854775808 := two_le hK hk (by decide);rw [show (K : Int) - 1 = ((K - 1 : Nat) : Int) by omega,u64_and_nat n (K - 1) hn (by omega),hK,Nat.and_two_pow_sub_one_eq_mod]
theorem pre_small {N r k K : Nat} (h0 : N ≠ 0) (hK : K = 2 ^ k) (hr : nd N ≤ r) (h : pre N r < K) : r < nd N + k := by
 rw [pre_ge hr] at h;have h1 : 10 ^ (r - nd N) ≤ N * 10 ^ (r - nd N) := Nat.le_mul_of_pos_left _ (Nat.pos_of_ne_zero h0);have h2 : 2 ^ (r - nd N) ≤ 10 ^ (r - nd N) := Nat.pow_le_pow_left (by decide) _;have h3 : 2 ^ (r - nd N) < 2 ^ k := by omega
 have := pow2_lt h3;omega
theorem dvt {n K : Nat} (hK : 0 < K) (h : n < K) : ((n : Int) / (K : Int) == 0) = true := by
 rw [beq_iff_eq,← Int.natCast_ediv];have := (Nat.div_eq_zero_iff_lt hK).2 h;omega
theorem dvf {n K : Nat} (hK : 0 < K) (h : ¬ n < K) : ((n : Int) / (K : Int) == 0) = false := by
 rw [beq_eq_false_iff_ne,← Int.natCast_ediv];intro e;exact h ((Nat.div_eq_zero_iff_lt hK).1 (by omega))
theorem right_any (p N k : Nat) (arr : List UInt8) (dp : Int) (neg tr : Bool) (w : World) (h : DB w p arr (nd N) dp neg tr) (h0 : N ≠ 0) (hn : nd N ≤ 800) (ht : arr.take (nd N) = dg N)
 (hk : 1 ≤ k ∧ k ≤ 60) (hL : nd (N * 5 ^ k) ≤ 800) (hdp : -100000 ≤ dp ∧ dp ≤ 100000) :
 Calls Tryz.prog 216 #[.pointer (some ⟨p,0,none⟩),.int .u64 k] w fun e w' => e = .returned (.tuple #[]) ∧ (∃ arr',DB w' p arr' (nd (shR N k)) (dpR N dp k) neg tr ∧ arr'.take (nd (shR N k)) = dg (shR N k)) ∧ Only w w' p := by
 obtain ⟨K,hK⟩ : ∃ K,K = 2 ^ k := ⟨_,rfl⟩;have hKi : (2 : Int) ^ k = (K : Int) := by rw [hK];simp
 have hK0 : 0 < K := by rw [hK];exact two_pos k
 have hK1 : K ≤ 1152921504606846976 := two_le hK hk.2 (by decide);have HK := Lib.hid hK;have HL := Lib.hid hL;have Ht := Lib.hid ht;have H0 := Lib.hid h0;have hne : 1 ≤ nd N := nd_one h0;clear hK hL ht h0;go_enter Tryz.func216,Tryz.ntmps216
 go_upto_block 0 with fail
 go_cut [4,6] from 12 to 48 (fun v4 v6 wc => ∃ r x : Nat,v4 = .int .i64 r ∧ v6 = .int .u64 x ∧ x = pre N r ∧ K ≤ x ∧ x < 10 * K ∧ 1 ≤ r ∧ r ≤ nd N + 61 ∧ w = wc)
 case first =>
  go_wp2_with fail
  go_loopg [4,6] (nd N) (fun g v4 v6 wr => ∃ r x : Nat,v4 = .int .i64 r ∧ v6 = .int .u64 x ∧ x = pre N r ∧ x < 10 * K ∧ g + r = nd N ∧ (r = 0 → x = 0) ∧ w = wr)
  case atStart => exact ⟨0,0,rfl,rfl,(pre_zero N).symm,by omega,by omega,fun _ => rfl,rfl⟩
  case round =>
   obtain ⟨r,x,rfl,rfl,hx,hxl,hg,hr0,rfl⟩ := hrel;have Hx := Lib.hid hx;have Hg := Lib.hid hg;have hrn : r ≤ nd N := by omega
   have kn := h.cN;have Hr0 := Lib.hid hr0;clear hx hg hr0;by_cases hlt : x < K
   · have t1 := dvt hK0 hlt;have Hlt := Lib.hid hlt;by_cases hrd : r < nd N
     · have t2 : decide ((nd N : Int) ≤ (r : Int)) = false := by rw [decide_eq_false_iff_not];omega
       obtain ⟨d,hd9,hd,hdg⟩ := pre_next hrd;have hdd : arr[r]? = some (UInt8.ofNat (48 + d)) := by rw [take_get Ht.out hrd];exact hdg
       have kd := h.dv hdd (by omega);have Hd := Lib.hid hd;clear hd hdg hdd;go_wp2_with fail
       go_roundg (gk - 1)
       case measure => have := Hg.out;omega
       case rel =>
        have e1 := Hx.out;have e2 := Hd.out;rw [← e1] at e2;refine ⟨r + 1,x * 10 + d,rfl,?_,e2.symm,by omega,by have := Hg.out;omega,fun h => by omega,rfl⟩;exact congrArg _ (by omega)
     have t2 : decide ((nd N : Int) ≤ (r : Int)) = true := by rw [decide_eq_true_eq];omega
     have hxN : x ≠ 0 := by rw [Hx.out];exact pre_pos H0.out (by omega)
     have t3 : ((x : Int) == 0) = false := by rw [beq_eq_false_iff_ne];omega
     have hge : nd N ≤ r := by omega
     clear hrd;go_wp2_with fail
     go_loopg [4,6] (10 * K - x) (fun g v4 v6 wr => ∃ r x : Nat,v4 = .int .i64 r ∧ v6 = .int .u64 x ∧ x = pre N r ∧ x < 10 * K ∧ g + x = 10 * K ∧ nd N ≤ r ∧ r ≤ nd N + 61 ∧ x ≠ 0 ∧ w = wr)
     case atStart => exact ⟨r,x,rfl,rfl,Hx.out,by omega,by omega,hge,by omega,hxN,rfl⟩
     case round =>
      clear Hx Hg Hr0 t1 Hlt hxN t2 t3 hge hxl hlt;obtain ⟨r2,x2,rfl,rfl,hx,hxl,hg,hr1,hr2,hxN,rfl⟩ := hrel;have Hx := Lib.hid hx;have Hg := Lib.hid hg;have HxN := Lib.hid hxN;clear hx hg hxN;by_cases hlt : x2 < K
      · have t1 := dvt hK0 hlt;have hrs : r2 < nd N + k := pre_small H0.out HK.out hr1 (by rw [← Hx.out];exact hlt);go_wp2_with fail
        go_roundg (10 * K - x2 * 10)
        case measure => have := Hg.out;have := HxN.out;omega
        case rel =>
         refine ⟨r2 + 1,x2 * 10,rfl,rfl,?_,by omega,by omega,by omega,by omega,by have := HxN.out;omega,rfl⟩;rw [pre_more hr1,Hx.out]
      have t1 := dvf hK0 hlt;go_wp2_with fail
      go_meet
      case rel => exact ⟨r2,x2,rfl,rfl,Hx.out,by omega,hxl,by omega,hr2,rfl⟩
   have t1 := dvf hK0 hlt;go_wp2_with fail
   go_meet
   case rel =>
    refine ⟨r,x,rfl,rfl,Hx.out,by omega,hxl,?_,by omega,rfl⟩;rcases Nat.eq_zero_or_pos r with e | e
    · have := Hr0.out e;omega
    exact e
 case rest =>
  obtain ⟨r0,x0,rfl,rfl,hx0,hx1,hx2,hr1,hr2,rfl⟩ := hcut;have Hx0 := Lib.hid hx0;clear hx0;have kp := h.cP;have f801 := h.fz 801
  go_upto_block 4 with fail
  have hD0 := h.setP (dp - ((r0 : Int) - 1)) (v := .int .i64 (dp - ((r0 : Int) - 1))) rfl;have hO0 : Only w (w.setCell ⟨p,801,none⟩ (.int .i64 (dp - ((r0 : Int) - 1)))) p := only_set (only_refl _ _) _ _;refine wp_gen (fun wo => DB wo p arr (nd N) (dp - ((r0 : Int) - 1)) neg tr ∧ Only w wo p) ⟨hD0,hO0⟩ ?_;clear hD0 hO0 kp f801 h;rintro wo ⟨hD0,hO0⟩
  go_cut [4,5,6] from 61 to 96 (fun v4 v5 v6 wc => ∃ (r wi n O : Nat) (arr' : List UInt8),v4 = .int .i64 r ∧ v5 = .int .i64 wi ∧ v6 = .int .u64 n ∧ nd N ≤ r ∧ (r ≤ nd N ∨ r = r0) ∧ r ≤ nd N + 61 ∧ wi + r0 = r ∧ nd O = wi ∧ arr'.take wi = dg O ∧ pre N r = O * (10 * K) + n ∧ n < 10 * K ∧ (O ≠ 0 ∨ K ≤ n) ∧
   DB wc p arr' (nd N) (dp - ((r0 : Int) - 1)) neg tr ∧ Only w wc p)
  case first =>
   go_wp2_with fail
   go_loopg [4,5,6] (nd N - r0) (fun g v4 v5 v6 wr => ∃ (r wi n O : Nat) (arr' : List UInt8),v4 = .int .i64 r ∧ v5 = .int .i64 wi ∧ v6 = .int .u64 n ∧ g = nd N - r ∧ (r ≤ nd N ∨ r = r0) ∧ wi + r0 = r ∧ nd O = wi ∧ arr'.take wi = dg O ∧ (∀ i,r ≤ i → i < nd N → arr'[i]? = (dg N)[i]?) ∧ pre N r = O * (10 * K) + n ∧ n < 10 * K ∧ (O ≠ 0 ∨ K ≤ n) ∧
    DB wr p arr' (nd N) (dp - ((r0 : Int) - 1)) neg tr ∧ Only w wr p)
   case atStart => exact ⟨r0,0,x0,0,arr,rfl,rfl,rfl,rfl,.inr rfl,by omega,nd_zero,by rw [dg_zero];rfl,fun i _ h => take_get Ht.out h,by rw [Nat.zero_mul,Nat.zero_add];exact Hx0.out.symm,hx2,.inr hx1,hD0,hO0⟩
   case round =>
    clear hD0 hO0;obtain ⟨r,wi,n,O,arr',rfl,rfl,rfl,hg,hr,hw,hO1,hta,hfa,hpr,hnl,hnz,hD,hO⟩ := hrel;have Hg := Lib.hid hg;have Hw := Lib.hid hw;have HO1 := Lib.hid hO1;have Hta := Lib.hid hta;have Hfa := Lib.hid hfa;have Hpr := Lib.hid hpr;have Hnz := Lib.hid hnz;have kn := hD.cN;have hrb : r ≤ nd N + 61 := by omega
    by_cases hlt : r < nd N
    · have hw8 : wi < 800 := by omega
      clear hg hw hO1 hta hfa hpr hnz;have t1 : decide ((r : Int) < (nd N : Int)) = true := by rw [decide_eq_true_eq];omega
      obtain ⟨d,hd9,hd,hdg⟩ := pre_next hlt;have hdd : arr'[r]? = some (UInt8.ofNat (48 + d)) := by rw [Hfa.out r (Nat.le_refl _) hlt];exact hdg
      have kd := hD.dv hdd (by omega);have fw := hD.fz wi;have kw := hD.d hw8;have hm := and_mask HK.out (by omega) (n := n) (by omega);obtain ⟨q,hq⟩ : ∃ q,q = n / K := ⟨_,rfl⟩;have hqi : (n : Int) / (K : Int) = (q : Int) := by rw [hq,Int.natCast_ediv]
      obtain ⟨m,hmm⟩ : ∃ m,m = n % K := ⟨_,rfl⟩;rw [← hmm] at hm;have hml : m < K := by rw [hmm];exact Nat.mod_lt _ hK0
      have hdig := right_dig (k := k) (by rw [← HK.out];exact Hnz.out) (by rw [← HK.out];exact hnl);rw [← HK.out,← hq] at hdig;obtain ⟨hq9,hqz⟩ := hdig;have Hqz := Lib.hid hqz;have Hq := Lib.hid hq;have Hmm := Lib.hid hmm;have Hd := Lib.hid hd;clear hqz hq hmm hd hdg hdd;go_wp2_with fail
      go_roundg (gk - 1)
      case measure => have := Hg.out;omega
      case rel =>
       have hdig : UInt8.ofNat (48 + q) = UInt8.ofNat (48 + q) := rfl;have hP := Hpr.out;have hK := HK.out;have hlen : wi < arr'.length := by rw [hD.1];exact hw8
       refine ⟨r + 1,wi + 1,m * 10 + d,10 * O + q,arr'.set wi (UInt8.ofNat (48 + q)),rfl,rfl,congrArg _ (by omega),by have := Hg.out;omega,by omega,by have := Hw.out;omega,?_,?_,?_,?_,by omega,?_,hD.setD hw8 _ ?_,only_set hO _ _⟩
       · rw [nd_snoc Hqz.out hq9,HO1.out]
       · rw [dg_snoc Hqz.out hq9];exact set_take _ hlen Hta.out
       · intro i hi1 hi2;rw [List.getElem?_set_ne (by have := Hw.out;omega)];exact Hfa.out i (by omega) hi2
       · rw [Hd.out,hP,hK,Hq.out,Hmm.out,hK];exact right_step rfl
       · rcases Hqz.out with h | h
         · exact .inl (by omega)
         exact .inl (by omega)
       rw [UInt8.toNat_ofNat'];exact congrArg _ (by omega)
    clear hw hO1 hta hfa hpr hnz;have hge : nd N ≤ r := by omega
    clear hlt;have Hr := Lib.hid hr;clear hr hg;go_wp2_with fail
    go_meet
    case rel => exact ⟨r,wi,n,O,arr',rfl,rfl,rfl,hge,Hr.out,hrb,Hw.out,HO1.out,Hta.out,Hpr.out,hnl,Hnz.out,hD,hO⟩
  case rest =>
   clear hD0 hO0;obtain ⟨r,wi,n,O,arr',rfl,rfl,rfl,hr,hrr,hrb,hw,hO1,hta,hpr,hnl,hnz,hD,hO⟩ := hcut;have Hp : Hid (N * 10 ^ (r - nd N) = O * (10 * K) + n) := Lib.hid (by rw [← pre_ge hr];exact hpr);have Hw : Hid (wi + r0 = (r - nd N) + nd N) := Lib.hid (by omega);have HO1 := Lib.hid hO1;have Hta := Lib.hid hta;have Hnz := Lib.hid hnz
   have HJ : Hid (r - nd N ≤ k + 1) := Lib.hid (by
    rcases Nat.eq_zero_or_pos (r - nd N) with e | e
    · omega
    · have hn0 : n ≠ 0 ∨ n = 0 := by omega
      rcases hn0 with h | h
      · have := right_more (k := k) (by rw [← HK.out];exact Hp.out) (by rw [← HK.out];exact hnl) h
        omega
      · exfalso
        have hw0 : wi = 0 := by omega
        have hO0 : O = 0 := nd_none (by rw [hO1,hw0])
        have := pre_pos H0.out (r := r) (by omega)
        rw [hpr,hO0,h] at this
        omega)
   clear hrr hw hO1 hta hpr hnz;go_wp2_with fail
   go_loopg [5,6] (k + 1 - (r - nd N)) (fun g v5 v6 wr => ∃ (wi n O J : Nat) (arr' : List UInt8),v5 = .int .i64 wi ∧ v6 = .int .u64 n ∧ g + J = k + 1 ∧ wi + r0 = J + nd N ∧ nd O = wi ∧ arr'.take wi = dg O ∧ N * 10 ^ J = O * (10 * K) + n ∧ n < 10 * K ∧ (O ≠ 0 ∨ K ≤ n) ∧
    DB wr p arr' (nd N) (dp - ((r0 : Int) - 1)) neg tr ∧ Only w wr p)
   case atStart => exact ⟨wi,n,O,r - nd N,arr',rfl,rfl,by have := HJ.out;omega,Hw.out,HO1.out,Hta.out,Hp.out,hnl,Hnz.out,hD,hO⟩
   case round =>
    clear HJ hD hO Hw HO1 Hta Hnz Hp hnl hr hrb;obtain ⟨wi,n,O,J,arr',rfl,rfl,hg,hw,hO1,hta,hpr,hnl,hnz,hD,hO⟩ := hrel;have Hw := Lib.hid hw;have HO1 := Lib.hid hO1;have Hta := Lib.hid hta;have Hnz := Lib.hid hnz;have Hp := Lib.hid hpr;have Hg := Lib.hid hg;have hr0 := nd_right (k := k) H0.out (by rw [← HK.out,← Hx0.out];exact hx1) (by rw [← HK.out,← Hx0.out];exact hx2);have Hr0 := Lib.hid hr0;by_cases hn0 : n = 0
    · subst hn0;obtain ⟨hOn,hst⟩ := right_end (k := k) (by rw [← HK.out];exact Hp.out) H0.out;have Hst := Lib.hid hst;have kn := hD.cN;have f800 := hD.fz 800;have hwi : wi ≤ 800 := by have := HL.out;have := strip_nd_le (mul5_ne H0.out k);omega
      have hDn : DB (wr.setCell ⟨p,800,none⟩ (.int .i64 wi)) p arr' (nd O) (dp - ((r0 : Int) - 1)) neg tr := hD.setN _ (by rw [hO1]);have hT := dtrim_any p O arr' (dp - ((r0 : Int) - 1)) neg tr _ hDn hOn (by rw [hO1];exact hwi) (by rw [hO1];exact hta);clear hw hO1 hta hpr hnz hg hr0 hst;go_wp2_with fail;refine hT.mono ?_;rintro e w9 ⟨rfl,hD9,hO9⟩;go_wp2_with fail
      go_end0
      have e1 : strip O = shR N k := Hst.out;have e2 : dp - ((r0 : Int) - 1) = dpR N dp k := by unfold dpR;have := Hr0.out;omega
      rw [e1,e2] at hD9;refine ⟨rfl,⟨arr',hD9,?_⟩,only_trans (only_set hO _ _) hO9⟩;rw [← e1];exact dg_less (by rw [HO1.out];exact Hta.out) hOn
    have hJ := right_more (k := k) (by rw [← HK.out];exact Hp.out) (by rw [← HK.out];exact hnl) hn0;have hw8 : wi < 800 := by have := HL.out;omega
    have hpos : 0 < n := Nat.pos_of_ne_zero hn0;have t2 : decide ((wi : Int) < 800) = true := by rw [decide_eq_true_eq];omega
    have fw := hD.fz wi;have kw := hD.d hw8;have hm := and_mask HK.out (by omega) (n := n) (by omega);obtain ⟨q,hq⟩ : ∃ q,q = n / K := ⟨_,rfl⟩;have hqi : (n : Int) / (K : Int) = (q : Int) := by rw [hq,Int.natCast_ediv]
    obtain ⟨m,hmm⟩ : ∃ m,m = n % K := ⟨_,rfl⟩;rw [← hmm] at hm;have hml : m < K := by rw [hmm];exact Nat.mod_lt _ hK0
    have hdig := right_dig (k := k) (by rw [← HK.out];exact Hnz.out) (by rw [← HK.out];exact hnl);rw [← HK.out,← hq] at hdig;obtain ⟨hq9,hqz⟩ := hdig;have Hqz := Lib.hid hqz;have Hq := Lib.hid hq;have Hmm := Lib.hid hmm;have Hn0 := Lib.hid hn0;clear hqz hq hmm hw hO1 hta hpr hnz hg hr0 hn0;go_wp2_with fail
    go_roundg (gk - 1)
    case measure => have := Hg.out;omega
    case rel =>
     have hP := Hp.out;have hK := HK.out;have hlen : wi < arr'.length := by rw [hD.1];exact hw8
     refine ⟨wi + 1,m * 10,10 * O + q,J + 1,arr'.set wi (UInt8.ofNat (48 + q)),rfl,rfl,by have := Hg.out;omega,by have := Hw.out;omega,?_,?_,?_,by omega,?_,hD.setD hw8 _ ?_,only_set hO _ _⟩
     · rw [nd_snoc Hqz.out hq9,HO1.out]
     · rw [dg_snoc Hqz.out hq9];exact set_take _ hlen Hta.out
     · rw [Nat.pow_succ,← Nat.mul_assoc,hP,hK,Hq.out,Hmm.out,hK];exact right_step (c := 0) rfl
     · rcases Hqz.out with h | h
       · exact .inl (by omega)
       exact .inl (by omega)
     rw [UInt8.toNat_ofNat'];exact congrArg _ (by omega)
end Go.Proofs.YtcpijmbdibgdmaaGreatDoor
namespace Go.Proofs.YtcpijmbdibgdmaaGreatDoor
open Go.RowKit
attribute [local go_sem] ba_get store_flt
theorem DB.db {w : World} {p n' : Nat} {arr bs : List UInt8} {n dp : Int} {neg tr : Bool} (h : DB w p arr n dp neg tr) (ht : arr.take n' = bs) {i : Nat} (hi : i < bs.length) : w.cell? ⟨p,i,none⟩ = some (.int .u8 ((bs[i].toNat : Nat) : Int)) := by
 subst ht;have h1 := h.1;have h2 : i < 800 := by rw [List.length_take] at hi;omega
 rw [h.d h2];simp
theorem drew_three (w : World) (a b c : Nat) : ∃ n,((w.drewN a).drewN b).drewN c = w.drewN n := ⟨a + b + c,by simp⟩
theorem less_any (p : Nat) (arr bs cs : List UInt8) (n dp : Int) (neg tr : Bool) (w : World) (h : DB w p arr n dp neg tr) (ht : arr.take bs.length = bs) (hb : bs.length ≤ 800) (hc : cs.length ≤ 1000) :
 Calls Tryz.prog 243 #[.slice (some ⟨p,0,none⟩) bs.length 800,S cs] w fun e w' => e = .returned (.bool (lessB bs cs)) ∧ ∃ m,w' = w.drewN m := by
 obtain ⟨R,hR⟩ : ∃ R,R = lessB bs cs := ⟨_,rfl⟩;rw [← hR];have HR := Lib.hid hR;have Ht := Lib.hid ht;clear hR ht;go_enter Tryz.func243,Tryz.ntmps243;go_wp2_with fail
 go_loopg [5] cs.length (fun g v5 wr => ∃ i m : Nat,v5 = .int .i64 i ∧ g + i = cs.length ∧ i ≤ bs.length ∧ lessB (bs.drop i) (cs.drop i) = R ∧ wr = w.drewN m)
 case atStart => exact ⟨0,0,rfl,by omega,by omega,HR.out.symm,rfl⟩
 case round =>
  obtain ⟨i,m,rfl,hg,hi,hl,rfl⟩ := hrel;have Hg := Lib.hid hg;have Hl := Lib.hid hl;have h2 := h.drewN m;have hic : i ≤ cs.length := by omega
  clear hg hl;by_cases h1 : i < cs.length
  · by_cases h3 : i < bs.length
    · have kd := h.db Ht.out h3;have h800 : i < 800 := by omega
      by_cases h4 : bs[i] = cs[i]
      · have t4 : ((bs[i].toNat : Int) != (cs[i].toNat : Int)) = false := by rw [h4];simp
        have H4 := Lib.hid h4;clear h4;go_wp2_with fail;go_quiet (fail);go_wp2_with fail
        go_roundg (gk - 1)
        case measure => have := Hg.out;omega
        case rel =>
         have e := Hl.out;rw [drop_at h3,drop_at h1,lessB,if_pos H4.out] at e;exact ⟨i + 1,m + nq,rfl,by have := Hg.out;omega,by omega,e,by simp⟩
      have hne : bs[i].toNat ≠ cs[i].toNat := fun e => h4 (UInt8.toNat_inj.1 e)
      have t4 : ((bs[i].toNat : Int) != (cs[i].toNat : Int)) = true := by rw [bne_iff_ne];omega
      have H4 := Lib.hid h4;clear h4 hne;go_wp2_with fail;go_quiet (fail);go_wp2_with fail;go_quiet (fail);go_wp2_with fail;go_ret;have e := Hl.out;rw [drop_at h3,drop_at h1,lessB,if_neg H4.out] at e;refine ⟨?_,drew_three _ _ _ _⟩;rw [← e];rfl
    have e := Hl.out;rw [List.drop_eq_nil_of_le (by omega),drop_at h1,lessB] at e;subst e;clear HR;go_wp2_with fail;go_ret;exact ⟨rfl,_,rfl⟩
  have e := Hl.out
  have e2 : lessB (bs.drop i) (cs.drop i) = false := by
   rw [List.drop_eq_nil_of_le (by omega : cs.length ≤ i)];cases bs.drop i <;> rfl
  rw [e2] at e;subst e;clear HR;go_wp2_with fail;go_ret;exact ⟨rfl,_,rfl⟩
structure LC (lb lo lc : Nat) (w : World) : Prop where
 v : w.cell? ⟨23,0,none⟩ = some (.slice (some ⟨lb,lo,none⟩) 61 lc)
 d : ∀ k,1 ≤ k → k ≤ 60 → w.cell? ⟨lb,lo + k * 2,none⟩ = some (.int .i64 ((k - nd (5 ^ k) + 1 : Nat) : Int)) ∧ w.cell? ⟨lb,lo + k * 2 + 1,none⟩ = some (S (dg (5 ^ k)))
theorem quiet_draw {P : Program} {f : FuncId} {args : Array Value} {w : World} {n : Nat} {v : Value}
 (h : Calls P f args (w.drewN n) fun e w' => e = .returned v ∧ ∃ m,w' = (w.drewN n).drewN m) : Calls P f args (w.drewN n) fun e w'' => e = .returned v ∧ ∃ m,w'' = w.drewN m :=
 h.mono fun _ _ ⟨he,m,hm⟩ => ⟨he,n + m,by rw [hm];simp⟩
theorem quiet_add_draw {P : Program} {f : FuncId} {args : Array Value} {w : World} {a n : Nat} {v : Value}
 (h : Calls P f args (w.drewN (a + n)) fun e w' => e = .returned v ∧ ∃ m,w' = (w.drewN (a + n)).drewN m) :
 Calls P f args (w.drewN (a + n)) fun e w'' => e = .returned v ∧ ∃ m,w'' = w.drewN (a + m) :=
 h.mono fun _ _ ⟨he,m,hm⟩ => ⟨he,n + m,by rw [hm];simp [Nat.add_assoc]⟩
theorem five_mod : ∀ k,1 ≤ k → 5 ^ k % 10 = 5
 | 0,h => by omega
 | 1,_ => rfl
 | k + 2,_ => by
   rw [Nat.pow_succ,Nat.mul_mod,five_mod (k + 1) (by omega)]
theorem five_le (k : Nat) (h : 1 ≤ k) : nd (5 ^ k) ≤ k := nd_le (Nat.pow_lt_pow_left (by decide) (by omega))
theorem less_five (N k : Nat) (h : 1 ≤ k) : lessB (dg N) (dg (5 ^ k)) = true ↔ N * 10 ^ nd (5 ^ k) < 5 ^ k * 10 ^ nd N := by
 have h5 := five_pos k
 have := less_iff (dg N) (dg (5 ^ k)) (dg_digits _) (dg_digits _) (fun _ => by
  rw [dg_pos (by omega),List.getLast?_append,five_mod k h]
  simp)
 rw [unD_dg,unD_dg] at this;exact this
theorem left_E (N k : Nat) (h0 : N ≠ 0) (h : 1 ≤ k) : nd (N * 2 ^ k) = nd N + (if lessB (dg N) (dg (5 ^ k)) = true then k - nd (5 ^ k) else k - nd (5 ^ k) + 1) := by
 split
 · rename_i hl;exact nd_left_less h0 rfl (five_le k h) ((less_five N k h).1 hl)
 rename_i hl;exact nd_left_more h0 rfl (five_le k h) (fun e => hl ((less_five N k h).2 e))
theorem wrap_u64_nat {n : Nat} (h : n < 18446744073709551616) : IntKind.u64.wrap (n : Int) = n := by
 simp [IntKind.wrap,IntKind.bits,IntKind.signed];omega
theorem slice800 (w : World) (p n : Nat) (hn : n ≤ 800) : (Instr.sliceAt 240 (.pointer (some ⟨p,0,none⟩)) (some (.int .i64 0)) (some (.int .i64 n)) none).run Tryz.prog w = .ok (.slice (some ⟨p,0,none⟩) n 800) w := by
 have e1 : Tryz.prog.arrayLen 240 = 800 := by kernel_rfl
 have ht : Tryz.prog.underlying 240 = some (.array (Tryz.prog.arrayLen 240) (Tryz.prog.elem 240)) := by kernel_rfl
 have hs : ∀ w : World,(sizeOf (Tryz.prog.elem 240)).run Tryz.prog w = .ok 1 w := fun w => by kernel_rfl
 rw [run_sliceAt_array_lh w 240 ⟨p,0,none⟩ ht .i64 .i64 0 n (by omega) (by omega) (by rw [e1];omega),hs,e1];simp only [Result.andThen,slicedAt,Int.toNat_natCast];rw [Int.toNat_zero,Nat.sub_zero,Nat.sub_zero];split <;> rfl
theorem left_any (p N k lb lo lc : Nat) (arr : List UInt8) (dp : Int) (neg tr : Bool) (w : World) (hC : LC lb lo lc w) (h : DB w p arr (nd N) dp neg tr) (h0 : N ≠ 0) (hn : nd N ≤ 800) (ht : arr.take (nd N) = dg N)
 (hk : 1 ≤ k ∧ k ≤ 60) (hL : nd (N * 2 ^ k) < 800) (hdp : -100000 ≤ dp ∧ dp ≤ 100000) :
 Calls Tryz.prog 215 #[.pointer (some ⟨p,0,none⟩),.int .u64 k] w fun e w' => e = .returned (.tuple #[]) ∧ (∃ arr',DB w' p arr' (nd (shL N k)) (dpL N dp k) neg tr ∧ arr'.take (nd (shL N k)) = dg (shL N k)) ∧ Only w w' p := by
 obtain ⟨hv,hcd⟩ := hC;obtain ⟨hcd1,hcd2⟩ := hcd k hk.1 hk.2;clear hcd;obtain ⟨K,hK⟩ : ∃ K,K = 2 ^ k := ⟨_,rfl⟩;have hKi : (2 : Int) ^ k = (K : Int) := by rw [hK];simp
 have hK0 : 0 < K := by rw [hK];exact two_pos k
 have hK1 : K ≤ 1152921504606846976 := two_le hK hk.2 (by decide);have hE := left_E N k h0 hk.1;obtain ⟨L,hL'⟩ : ∃ L,L = nd (N * 2 ^ k) := ⟨_,rfl⟩;obtain ⟨E,hE'⟩ : ∃ E,E = L - nd N := ⟨_,rfl⟩;obtain ⟨D,hD'⟩ : ∃ D,D = k - nd (5 ^ k) + 1 := ⟨_,rfl⟩;rw [← hD'] at hcd1;have hDk : D ≤ 61 := by omega
 have hl5 : (dg (5 ^ k)).length ≤ 1000 := by have := five_le k hk.1;unfold nd at this;omega
 obtain ⟨fs,hfs⟩ : ∃ fs,fs = dg (5 ^ k) := ⟨_,rfl⟩;rw [← hfs] at hcd2 hl5 hE;have hP := fun w' (hD : DB w' p arr (nd N) dp neg tr) => less_any p arr (dg N) fs (nd N) dp neg tr w' hD ht hn hl5
 change ∀ w',_ → Calls Tryz.prog 243 #[.slice (some ⟨p,0,none⟩) (nd N) 800,S fs] _ _ at hP;obtain ⟨b,hb⟩ : ∃ b,b = lessB (dg N) fs := ⟨_,rfl⟩;rw [← hb] at hP hE
 have hEb : E = if b = true then D - 1 else D := by
  rw [hE',hL',hE];split <;> omega
 have hLE : L = nd N + E := by
  have := nd_mul_ge (N := N) (k := k) (c := 2) (by decide);omega
 have hPw := fun n => hP (w.drewN n) (h.drewN n)
 have kn := h.cN;have hne : 1 ≤ nd N := nd_one h0;have hE0 : E ≤ 61 := by rw [hEb];split <;> omega
 have hsl := fun w => slice800 w p (nd N) hn
 have HK := Lib.hid hK;have HL := Lib.hid hL;have HL' := Lib.hid hL';have Ht := Lib.hid ht;have H0 := Lib.hid h0;have HEb : Hid ((b = true → E + 1 = D) ∧ (b = false → E = D)) := Lib.hid (by rw [hEb];cases b <;> simp;omega);have HLE := Lib.hid hLE;have HPw := Lib.hid hPw;have hD1 : 1 ≤ D := by omega
 clear hK hL hL' hE' hD' hE ht h0 hEb hLE hPw hP hb hfs hl5;go_enter Tryz.func215,Tryz.ntmps215
 go_upto_region 1 with fail
 refine wp_region_quiet_lit (by kernel_rfl) (by kernel_rfl) ?_
 repeat (go_big_quiet_step (fail))
 go_big_quiet_want;go_big_quiet_op
 apply Exists.intro;refine ⟨fun _ => ?_,?_⟩
 · first | exact quiet_draw (HPw.out _) | exact quiet_add_draw (HPw.out _)
 go_big_quiet_on
 repeat (go_big_quiet_step (fail))
 refine wpQuiet_nil ?_;intro _ hw';obtain ⟨nq,hw''⟩ := hw';subst hw''
 go_upto_if 30 with fail
 go_cut [4] from 31 to 32 (fun v4 wc => v4 = .int .i64 E ∧ DB wc p arr (nd N) dp neg tr ∧ Only w wc p)
 case first =>
  cases b with
  | true =>
    go_wp2_with fail
    go_meet
    case rel => exact ⟨congrArg _ (by have := HEb.out.1 (by trivial);omega),h.drewN nq,only_drewN (only_refl _ _) _⟩
  | false =>
    go_wp2_with fail
    go_meet
    case rel => exact ⟨congrArg _ (by have := HEb.out.2 (by trivial);omega),h.drewN nq,only_drewN (only_refl _ _) _⟩
 case rest =>
  obtain ⟨rfl,hD0,hO0⟩ := hcut;clear h hcd1 hcd2 hv hsl HPw HEb kn;have kn := hD0.cN;obtain ⟨T,hT⟩ : ∃ T,T = N * 2 ^ k := ⟨_,rfl⟩;have HT := Lib.hid hT;clear hT;have hL8 : L < 800 := by rw [HL'.out];exact HL.out
  have hLn : nd N + E = L := HLE.out.symm;have HLn := Lib.hid hLn;clear hLn;go_wp2_with fail
  go_loopg [5,6,7] (nd N) (fun g v5 v6 v7 wr => ∃ (m n : Nat) (arr' : List UInt8),v5 = .int .i64 ((nd N : Int) - 1 - m) ∧ v6 = .int .i64 ((nd N : Int) + E - m) ∧ v7 = .int .u64 n ∧ g + m = nd N ∧ n = N % 10 ^ m * 2 ^ k / 10 ^ m ∧
   (∀ i,i < nd N - m → arr'[i]? = (dg N)[i]?) ∧ (∀ i,L - m ≤ i → i < L → arr'[i]? = (dg T)[i]?) ∧ DB wr p arr' (nd N) dp neg tr ∧ Only w wr p)
  case atStart =>
   refine ⟨0,0,arr,congrArg _ (by omega),congrArg _ (by omega),rfl,by omega,?_,fun i hi => take_get Ht.out (by omega),fun i h1 h2 => by omega,hD0,hO0⟩;rw [Nat.pow_zero,Nat.mod_one,Nat.zero_mul,Nat.zero_div]
  case round =>
   clear hD0 hO0;obtain ⟨m,n,arr',rfl,rfl,rfl,hg,hn',hfa,hfb,hD,hO⟩ := hrel;have kn := hD.cN;have hmN : m ≤ nd N := by omega
   have hn1 : n ≤ K := by rw [hn',HK.out];exact left_carry N k m
   have Hg := Lib.hid hg;have Hn := Lib.hid hn';have Hfa := Lib.hid hfa;have Hfb := Lib.hid hfb;have hLn := HLn.out;clear hg hn' hfa hfb;by_cases hm : m < nd N
   · obtain ⟨r,hr⟩ : ∃ r,r = nd N - 1 - m := ⟨_,rfl⟩;obtain ⟨u,hu⟩ : ∃ u,u = L - m - 1 := ⟨_,rfl⟩;have e1 : (nd N : Int) - 1 - m = (r : Int) := by omega
     have e2 : (nd N : Int) + E - m = ((u + 1 : Nat) : Int) := by omega
     rw [e1,e2];have hdg := dg_get m N hm;rw [← hr] at hdg;have hdg2 : arr'[r]? = some (UInt8.ofNat (48 + N / 10 ^ m % 10)) := by rw [Hfa.out r (by omega)];exact hdg
     obtain ⟨d,hd⟩ : ∃ d,d = N / 10 ^ m % 10 := ⟨_,rfl⟩;rw [← hd] at hdg2;have hd9 : d ≤ 9 := by omega
     have kd := hD.dv hdg2 (by omega);have hr8 : r < 800 := by omega
     have hu8 : u < 800 := by omega
     have ku := hD.d hu8;have fu := hD.fz u;obtain ⟨y,hy⟩ : ∃ y,y = d * K := ⟨_,rfl⟩;have hdK : d * K ≤ 9 * K := Nat.mul_le_mul_right _ hd9;have hyK : y ≤ 9 * K := by rw [hy];exact hdK
     have hyw : IntKind.u64.wrap ((48 + (d : Int) - 48) * (K : Int)) = (y : Int) := by
      have e : (48 + (d : Int) - 48) * (K : Int) = ((y : Nat) : Int) := by rw [hy,show (48 + (d : Int) - 48) = (d : Int) by omega];simp
      rw [e];exact wrap_u64_nat (by omega)
     obtain ⟨q,hq⟩ : ∃ q,q = (n + y) / 10 := ⟨_,rfl⟩
     have hqw : IntKind.u64.wrap (((n : Int) + (y : Int)).tdiv 10) = (q : Int) := by
      rw [Int.tdiv_eq_ediv_of_nonneg (by omega),show ((n : Int) + y) / 10 = ((q : Nat) : Int) by omega];exact wrap_u64_nat (by omega)
     have hq1 : 10 * q ≤ n + y := by omega
     have hq2 : n + y ≤ 10 * q + 9 := by omega
     have Hr := Lib.hid hr;have Hu := Lib.hid hu;have Hd := Lib.hid hd;have Hy := Lib.hid hy;have Hq := Lib.hid hq;have HLn2 := Lib.hid hLn;clear hr hu hd hq hy hdK hLn e1 e2 hdg hdg2;go_wp2_with fail
     go_roundg (gk - 1)
     case measure => have := Hg.out;omega
     case rel =>
      obtain ⟨s1,s2⟩ := left_step N k m;rw [← HT.out,← HK.out,← Hd.out,← Hy.out] at s1;rw [← Hd.out] at s2;have hlen : u < arr'.length := by rw [hD.1];exact hu8
      have hnn := Hn.out;have hKK := HK.out;have hyy := Hy.out;rw [← hKK] at hnn;rw [← hnn] at s1;rw [← hKK,← hnn,← hyy] at s2;have hdig : n + y - 10 * q ≤ 9 := by omega
      have hTd : T / 10 ^ m % 10 = n + y - 10 * q := by rw [s1];omega
      refine ⟨m + 1,q,arr'.set u (UInt8.ofNat (48 + (n + y - 10 * q))),congrArg _ (by have := Hr.out;omega),congrArg _ (by have := Hu.out;have := HLn2.out;omega),rfl,by have := Hg.out;omega,?_,?_,?_,hD.setD hu8 _ ?_,only_set hO _ _⟩
      · rw [← hKK,← s2];exact Hq.out
      · intro i hi;rw [List.getElem?_set_ne (by have := Hu.out;have := HLn2.out;omega)];exact Hfa.out i (by omega)
      · intro i hi1 hi2;by_cases hiu : i = u
        · subst hiu;rw [List.getElem?_set_self hlen];have hTL : nd T = L := by rw [HT.out,HL'.out]
          have hLE := HLn2.out;have := dg_get m T (by omega);rw [hTd,hTL,show L - 1 - m = i by have := Hu.out;omega] at this;exact this.symm
        rw [List.getElem?_set_ne (fun e => hiu e.symm)];exact Hfb.out i (by have := Hu.out;omega) hi2
      rw [UInt8.toNat_ofNat'];exact congrArg _ (by omega)
   have e1 : (nd N : Int) - 1 - m = -1 := by omega
   have hm' : m = nd N := by omega
   have hnT : Hid (n = T / 10 ^ m) := Lib.hid (by rw [Hn.out,hm',Nat.mod_eq_of_lt (nd_lt N),HT.out]);rw [e1];have Hm := Lib.hid hm';have HLn2 := Lib.hid hLn;clear e1 hm' hm hLn Hfa Hn hn1;go_wp2_with fail
   go_loopg [6,7] E (fun g v6 v7 wr => ∃ (m n : Nat) (arr' : List UInt8),v6 = .int .i64 ((nd N : Int) + E - m) ∧ v7 = .int .u64 n ∧ g + m = L ∧ nd N ≤ m ∧ n = T / 10 ^ m ∧ n < 18446744073709551616 ∧
    (∀ i,L - m ≤ i → i < L → arr'[i]? = (dg T)[i]?) ∧ DB wr p arr' (nd N) dp neg tr ∧ Only w wr p)
   case atStart =>
    refine ⟨m,n,arr',rfl,rfl,by have := Hm.out;have := HLn2.out;omega,by have := Hm.out;omega,hnT.out,?_,Hfb.out,hD,hO⟩
    have e : n ≤ K := by
     rw [hnT.out,HT.out,HK.out,Hm.out];have := left_carry N k (nd N);rw [Nat.mod_eq_of_lt (nd_lt N)] at this;exact this
    omega
   case round =>
    clear hnT Hm Hg hD hO Hfb kn;obtain ⟨m,n,arr',rfl,rfl,hg,hm1,hn',hnl,hfb,hD,hO⟩ := hrel;have kn := hD.cN;have Hg := Lib.hid hg;have Hn := Lib.hid hn';have Hfb := Lib.hid hfb;have hLn := HLn2.out;have hTL : nd T = L := by rw [HT.out,HL'.out]
    have hT0 : T ≠ 0 := by rw [HT.out];exact mul2_ne H0.out k
    have HTL := Lib.hid hTL;have HT0 := Lib.hid hT0;clear hg hn' hfb hTL hT0;by_cases hm : m < L
    · have hn0 : 0 < n := by
       rw [Hn.out];refine Nat.div_pos ?_ (ten_pos m);have h1 := nd_ge T HT0.out;rw [HTL.out] at h1;have h2 : 10 ^ (m + 1) ≤ 10 ^ L := Nat.pow_le_pow_right (by decide) hm;rw [Nat.pow_succ] at h2;omega
      obtain ⟨u,hu⟩ : ∃ u,u = L - m - 1 := ⟨_,rfl⟩;have e2 : (nd N : Int) + E - m = ((u + 1 : Nat) : Int) := by omega
      rw [e2];have hu8 : u < 800 := by omega
      have ku := hD.d hu8;have fu := hD.fz u;obtain ⟨q,hq⟩ : ∃ q,q = n / 10 := ⟨_,rfl⟩
      have hqw : IntKind.u64.wrap ((n : Int).tdiv 10) = (q : Int) := by
       rw [Int.tdiv_eq_ediv_of_nonneg (by omega),show (n : Int) / 10 = ((q : Nat) : Int) by omega];exact wrap_u64_nat (by omega)
      have hq1 : 10 * q ≤ n := by omega
      have hq2 : n ≤ 10 * q + 9 := by omega
      have Hu := Lib.hid hu;have Hq := Lib.hid hq;have HLn3 := Lib.hid hLn;clear hu hq hLn e2;go_wp2_with fail
      go_roundg (gk - 1)
      case measure => have := Hg.out;omega
      case rel =>
       have hlen : u < arr'.length := by rw [hD.1];exact hu8
       have hnn := Hn.out;have hTd : T / 10 ^ m % 10 = n - 10 * q := by rw [← hnn];omega
       refine ⟨m + 1,q,arr'.set u (UInt8.ofNat (48 + (n - 10 * q))),congrArg _ (by have := Hu.out;have := HLn3.out;omega),congrArg _ (by have := Hq.out;omega),by have := Hg.out;omega,by omega,?_,by omega,?_,hD.setD hu8 _ ?_,only_set hO _ _⟩
       · rw [Nat.pow_succ,← Nat.div_div_eq_div_mul,← hnn];exact Hq.out
       · intro i hi1 hi2;by_cases hiu : i = u
         · subst hiu;rw [List.getElem?_set_self hlen];have hTL := HTL.out;have := dg_get m T (by omega);rw [hTd,hTL,show L - 1 - m = i by have := Hu.out;omega] at this;exact this.symm
         rw [List.getElem?_set_ne (fun e => hiu e.symm)];exact Hfb.out i (by have := Hu.out;omega) hi2
       rw [UInt8.toNat_ofNat'];exact congrArg _ (by omega)
    have hn0 : n = 0 := by
     rw [Hn.out];refine Nat.div_eq_of_lt ?_;have h1 := nd_lt T;rw [HTL.out] at h1;have h2 : 10 ^ L ≤ 10 ^ m := Nat.pow_le_pow_right (by decide) (by omega);omega
    subst hn0
    have hta : arr'.take L = dg T := by
     refine List.ext_getElem? ?_;intro i;by_cases hi : i < L
     · rw [List.getElem?_take_of_lt hi];exact Hfb.out i (by omega) hi
     rw [List.getElem?_take_eq_none (by omega),List.getElem?_eq_none (by have := HTL.out;unfold nd at this;omega)]
    have f800 := hD.fz 800;have f801 := hD.fz 801;have kp := hD.cP;have hDn : DB ((wr.setCell ⟨p,800,none⟩ (.int .i64 ((nd N : Int) + E))).setCell ⟨p,801,none⟩ (.int .i64 (dp + E))) p arr' (nd T) (dp + E) neg tr := (hD.setN _ (by rw [HTL.out];exact congrArg _ (by omega))).setP _ rfl;have hTr := dtrim_any p T arr' (dp + E) neg tr _ hDn HT0.out (by rw [HTL.out];omega) (by rw [HTL.out];exact hta);have t8 : decide ((800 : Int) ≤ (nd N : Int) + E) = false := by rw [decide_eq_false_iff_not];omega
    have Hta := Lib.hid hta;have HLn3 := Lib.hid hLn;clear hta hLn hDn;go_wp2_with fail;refine hTr.mono ?_;rintro e w9 ⟨rfl,hD9,hO9⟩;go_wp2_with fail
    go_end0
    have e1 : strip T = shL N k := by rw [HT.out];rfl
    have e2 : dp + (E : Int) = dpL N dp k := by unfold dpL;rw [← HL'.out];have := HLn3.out;omega
    rw [e1,e2] at hD9;refine ⟨rfl,⟨arr',hD9,?_⟩,only_trans (only_set (only_set hO _ _) _ _) hO9⟩;rw [← e1];exact dg_less (by rw [HTL.out];exact Hta.out) HT0.out
end Go.Proofs.YtcpijmbdibgdmaaGreatDoor
