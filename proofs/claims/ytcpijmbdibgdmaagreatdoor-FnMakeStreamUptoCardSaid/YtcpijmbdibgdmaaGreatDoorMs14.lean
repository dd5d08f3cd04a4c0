/-
  Floats that are no NaN: plain law.
  internal/strconv.atof64exact, joined.
  internal/strconv.special: neither an infinity nor a NaN.
-/
import Derived.Test.YtcpijmbdibgdmaaGreatDoorMs08
import Derived.Laws.FloatArith
set_option linter.all false
set_option maxHeartbeats 16000000
set_option maxRecDepth 100000
namespace Go.Proofs.YtcpijmbdibgdmaaGreatDoor
open Go.RowKit
def NN (b : Nat) : Prop := (Ieee.double.read b).isNaN = false
def PN (b : Nat) : Prop := ∃ s m i,Ieee.double.read b = .number s m i ∧ m ≠ 0
theorem nn_word (neg : Bool) (r : Nat) (h : r ≤ Ieee.double.infRung) : NN (Ieee.double.word neg r) := by
 have h1 := Ieee.Format.infRung_lt Ieee.double
 have hm : Ieee.double.word neg r % Ieee.double.signWeight = r := by
  unfold Ieee.Format.word;cases neg
  · simp only [Bool.false_eq_true,if_false];exact Nat.mod_eq_of_lt (by omega)
  simp only [if_true];rw [Nat.add_mod_left];exact Nat.mod_eq_of_lt (by omega)
 unfold NN Ieee.Format.read;simp only [hm];split
 · rfl
 split
 · rfl
 split
 · rfl
 omega
theorem nn_write (d : Ieee.Datum) (h : d.isNaN = false) : NN (Ieee.double.write d) := by
 cases d with
 | number neg mag place =>
   unfold Ieee.Format.write Ieee.Format.nearest;dsimp only;split
   · exact nn_word _ _ (Nat.zero_le _)
   exact nn_word _ _ (Nat.min_le_right ..)
 | infinity neg => exact nn_word _ _ (Nat.le_refl _)
 | nan neg fr => cases h
theorem nn_int (n : Int) : NN (floatOfInt .f64 n) := nn_write (.number (n < 0) n.natAbs 0) rfl
theorem nn_mul {x y : Nat} (hx : NN x) (hy : PN y) : ∃ r,floatBits .mul .f64 x y = some r ∧ NN r := by
 obtain ⟨s,m,i,hy,hm⟩ := hy;unfold floatBits;simp only [FloatKind.format,Ieee.Format.mul];rw [hy];unfold NN at hx
 cases hr : Ieee.double.read x with
 | number t n j => exact ⟨_,rfl,nn_write _ rfl⟩
 | infinity t => simp only [Ieee.Datum.product,if_neg hm];exact ⟨_,rfl,nn_write _ rfl⟩
 | nan t f => rw [hr] at hx;cases hx
theorem nn_div {x y : Nat} (hx : NN x) (hy : PN y) : ∃ r,floatBits .quo .f64 x y = some r ∧ NN r := by
 obtain ⟨s,m,i,hy,hm⟩ := hy;unfold floatBits;simp only [FloatKind.format,Ieee.Format.div];rw [hy];unfold NN at hx
 cases hr : Ieee.double.read x with
 | number t n j => simp only [Ieee.Datum.quotient,if_neg hm];exact ⟨_,rfl,nn_write _ rfl⟩
 | infinity t => exact ⟨_,rfl,nn_write _ rfl⟩
 | nan t f => rw [hr] at hx;cases hx
theorem nn_mod (x : Nat) : NN x ↔ x % Ieee.double.signWeight ≤ Ieee.double.infRung := by
 unfold NN Ieee.Format.read;simp only;split
 · have : Ieee.double.binade ≤ Ieee.double.infRung := by decide +kernel
   exact ⟨fun _ => by omega,fun _ => rfl⟩
 split
 · exact ⟨fun _ => by omega,fun _ => rfl⟩
 split
 · exact ⟨fun _ => by omega,fun _ => rfl⟩
 exact ⟨fun h => (by cases h),fun _ => (by omega)⟩
theorem nn_neg {x : Nat} (hx : NN x) : NN (Op.negFloat .f64 x) := by
 rw [nn_mod] at hx ⊢;have e : Ieee.double.signWeight = 2 ^ 63 := by rfl
 have e2 : Op.negFloat .f64 x = x ^^^ 2 ^ 63 := by rfl
 rw [e2];rw [e] at hx ⊢;rw [Nat.xor_mod_two_pow,Nat.mod_self,Nat.xor_zero];exact hx
def mulB (x y : Nat) : Nat := (floatBits .mul .f64 x y).getD 0
def divB (x y : Nat) : Nat := (floatBits .quo .f64 x y).getD 0
def bigT (x : Nat) : Bool := FloatKind.f64.format.order x 4831355200913801216 == some .gt || FloatKind.f64.format.order x 14054727237768577024 == some .lt
def f0F (m : Nat) (neg : Bool) : Nat := if neg then Op.negFloat .f64 (floatOfInt .f64 m) else floatOfInt .f64 m
def exG (fv : Nat → Nat) (m : Nat) (e : Int) (x : Nat) : Option Nat :=
 if m / 4503599627370496 ≠ 0 then none
 else if e = 0 then some x
 else if 0 < e ∧ e ≤ 37 then
  if 22 < e then (if bigT (mulB x (fv (e - 22).toNat)) then none else some (mulB (mulB x (fv (e - 22).toNat)) (fv 22)))
  else (if bigT x then none else some (mulB x (fv e.toNat)))
 else if e < 0 ∧ -22 ≤ e then some (divB x (fv (-e).toNat))
 else none
theorem nn_f0 (m : Nat) (neg : Bool) : NN (f0F m neg) := by
 unfold f0F;split
 · exact nn_neg (nn_int _)
 exact nn_int _
attribute [local go_sem] ba_get store_flt
structure FP (fv : Nat → Nat) (fb fo fc : Nat) (w : World) : Prop where
 c17 : w.cell? ⟨17,0,none⟩ = some (.int .u64 52)
 c21 : w.cell? ⟨21,0,none⟩ = some (.slice (some ⟨fb,fo,none⟩) 23 fc)
 cv : ∀ j,j < 23 → w.cell? ⟨fb,fo + j,none⟩ = some (.float .f64 (fv j))
 pn : ∀ j,j < 23 → PN (fv j)
def ExPost (fv : Nat → Nat) (m : Nat) (e : Int) (x : Nat) (w : World) (e' : Ending) (w' : World) : Prop :=
 (∃ f b,e' = .returned (.tuple #[.float .f64 f,.bool b]) ∧ exG fv m e x = (if b then some f else none)) ∧ w = w'
def Sgn (m x : Nat) (neg : Bool) : Prop := ∃ z,(∀ w : World,(convert 158 24 (.int .u64 m)).run Tryz.prog w = .ok (.float .f64 z) w) ∧ (neg = true → ∀ w : World,(Op.unary .neg (.float .f64 z)).run Tryz.prog w = .ok (.float .f64 x) w) ∧ (neg = false → z = x)
theorem exact_pbig (fb fo fc : Nat) (fv : Nat → Nat) (m x : Nat) (e : Int) (w : World) (hF : FP fv fb fo fc w) (hm : m < 18446744073709551616) (nf : NN x) (hs : Sgn m x false) (hb : m / 4503599627370496 ≠ 0) : Calls Tryz.prog 200 #[.int .u64 m,.int .i64 e,.bool false] w (ExPost fv m e x w) := by
 obtain ⟨c17,c21,hcv,hpn⟩ := hF;obtain ⟨z,hz,hz1,hz2⟩ := hs;have ez := hz2 rfl;subst ez;clear hz1 hz2;have tb : (((m : Int) / 4503599627370496) != 0) = true := by rw [bne_iff_ne];omega
 have Hx := Lib.hid (show exG fv m e z = none by unfold exG;rw [if_pos hb]);clear hcv hpn hb;go_enter Tryz.func200,Tryz.ntmps200;go_wp2_with fail;refine bodyPost_ret (v := .tuple #[.float .f64 (0),.bool false]) (by simp [results,Tryz.results200,go_sem]) rfl ?_;exact ⟨⟨_,_,rfl,Hx.out⟩,rfl⟩
theorem exact_pzero (fb fo fc : Nat) (fv : Nat → Nat) (m x : Nat) (e : Int) (w : World) (hF : FP fv fb fo fc w) (hm : m < 18446744073709551616) (nf : NN x) (hs : Sgn m x false) (hb : m / 4503599627370496 = 0) (h0 : e = 0) : Calls Tryz.prog 200 #[.int .u64 m,.int .i64 e,.bool false] w (ExPost fv m e x w) := by
 obtain ⟨c17,c21,hcv,hpn⟩ := hF;obtain ⟨z,hz,hz1,hz2⟩ := hs;have ez := hz2 rfl;subst ez;clear hz1 hz2;subst h0;have tb : (((m : Int) / 4503599627370496) != 0) = false := by rw [bne_eq_false_iff_eq];omega
 have Hx := Lib.hid (show exG fv m 0 z = some z by unfold exG;rw [if_neg (by omega),if_pos rfl]);clear hcv hpn hb nf;go_enter Tryz.func200,Tryz.ntmps200;go_wp2_with fail;refine bodyPost_ret (v := .tuple #[.float .f64 (z),.bool true]) (by simp [results,Tryz.results200,go_sem]) rfl ?_;exact ⟨⟨_,_,rfl,Hx.out⟩,rfl⟩
theorem exact_pggt (fb fo fc : Nat) (fv : Nat → Nat) (m x : Nat) (e : Int) (w : World) (hF : FP fv fb fo fc w) (hm : m < 18446744073709551616) (nf : NN x) (hs : Sgn m x false) (hb : m / 4503599627370496 = 0) (j : Nat) (hj : e = (j : Int) + 22) (hj0 : 0 < j ∧ j ≤ 15) (r1 : Nat) (hr1 : floatBits .mul .f64 x (fv j) = some r1) (hg : (FloatKind.f64.format.order (r1) 4831355200913801216 == some .gt) = true) : Calls Tryz.prog 200 #[.int .u64 m,.int .i64 e,.bool false] w (ExPost fv m e x w) := by
 obtain ⟨c17,c21,hcv,hpn⟩ := hF;obtain ⟨z,hz,hz1,hz2⟩ := hs;have ez := hz2 rfl;subst ez;clear hz1 hz2;subst hj;have tb : (((m : Int) / 4503599627370496) != 0) = false := by rw [bne_eq_false_iff_eq];omega
 have ej : ((j : Int) + 22 - 22).toNat = j := by omega
 have e1 : mulB z (fv j) = r1 := by unfold mulB;rw [hr1];rfl
 have hbig : bigT r1 = true := by unfold bigT;rw [hg];rfl
 have Hx := Lib.hid (show exG fv m ((j : Int) + 22) z = none by unfold exG;rw [if_neg (by omega),if_neg (by omega),if_pos (by omega),if_pos (by omega),ej,e1,hbig];rfl);have hm1 : ∀ w : World,(binOp .mul 24 (.float .f64 z) (.float .f64 (fv j))).run Tryz.prog w = .ok (.float .f64 r1) w := fun w => run_float_arith w .mul 24 .f64 _ _ _ hr1
 have cj := hcv j (by omega);have c22 := hcv 22 (by omega);have t0 : ((j : Int) + 22 == 0) = false := by rw [beq_eq_false_iff_ne];omega
 have t1 : decide (0 < (j : Int) + 22) = true := by rw [decide_eq_true_eq];omega
 have t2 : decide ((j : Int) + 22 ≤ 37) = true := by rw [decide_eq_true_eq];omega
 have t3 : decide (22 < (j : Int) + 22) = true := by rw [decide_eq_true_eq];omega
 have j23 : j < 23 := by omega
 clear hcv hpn hb ej hbig e1 hr1 nf;go_enter Tryz.func200,Tryz.ntmps200;go_wp2_with fail;refine bodyPost_ret (v := .tuple #[.float .f64 (r1),.bool false]) (by simp [results,Tryz.results200,go_sem]) rfl ?_;exact ⟨⟨_,_,rfl,Hx.out⟩,rfl⟩
theorem exact_pmgt (fb fo fc : Nat) (fv : Nat → Nat) (m x : Nat) (e : Int) (w : World) (hF : FP fv fb fo fc w) (hm : m < 18446744073709551616) (nf : NN x) (hs : Sgn m x false) (hb : m / 4503599627370496 = 0) (j : Nat) (hj : e = (j : Int)) (hj0 : 0 < j ∧ j ≤ 22) (hg : (FloatKind.f64.format.order (x) 4831355200913801216 == some .gt) = true) : Calls Tryz.prog 200 #[.int .u64 m,.int .i64 e,.bool false] w (ExPost fv m e x w) := by
 obtain ⟨c17,c21,hcv,hpn⟩ := hF;obtain ⟨z,hz,hz1,hz2⟩ := hs;have ez := hz2 rfl;subst ez;clear hz1 hz2;subst hj;have tb : (((m : Int) / 4503599627370496) != 0) = false := by rw [bne_eq_false_iff_eq];omega
 have ej : ((j : Int)).toNat = j := by omega
 have hbig : bigT z = true := by unfold bigT;rw [hg];rfl
 have Hx := Lib.hid (show exG fv m (j : Int) z = none by unfold exG;rw [if_neg (by omega),if_neg (by omega),if_pos (by omega),if_neg (by omega),ej,hbig];rfl);have cj := hcv j (by omega);have t0 : ((j : Int) == 0) = false := by rw [beq_eq_false_iff_ne];omega
 have t1 : decide (0 < (j : Int)) = true := by rw [decide_eq_true_eq];omega
 have t2 : decide ((j : Int) ≤ 37) = true := by rw [decide_eq_true_eq];omega
 have t3 : decide (22 < (j : Int)) = false := by rw [decide_eq_false_iff_not];omega
 have j23 : j < 23 := by omega
 have j0 : 0 < j := by omega
 clear hcv hpn hb ej hbig nf hj0;go_enter Tryz.func200,Tryz.ntmps200;go_wp2_with fail;refine bodyPost_ret (v := .tuple #[.float .f64 (z),.bool false]) (by simp [results,Tryz.results200,go_sem]) rfl ?_;exact ⟨⟨_,_,rfl,Hx.out⟩,rfl⟩
theorem exact_pglt (fb fo fc : Nat) (fv : Nat → Nat) (m x : Nat) (e : Int) (w : World) (hF : FP fv fb fo fc w) (hm : m < 18446744073709551616) (nf : NN x) (hs : Sgn m x false) (hb : m / 4503599627370496 = 0) (j : Nat) (hj : e = (j : Int) + 22) (hj0 : 0 < j ∧ j ≤ 15) (r1 : Nat) (hr1 : floatBits .mul .f64 x (fv j) = some r1) (hg : (FloatKind.f64.format.order (r1) 4831355200913801216 == some .gt) = false) (hl : (FloatKind.f64.format.order (r1) 14054727237768577024 == some .lt) = true) : Calls Tryz.prog 200 #[.int .u64 m,.int .i64 e,.bool false] w (ExPost fv m e x w) := by
 obtain ⟨c17,c21,hcv,hpn⟩ := hF;obtain ⟨z,hz,hz1,hz2⟩ := hs;have ez := hz2 rfl;subst ez;clear hz1 hz2;subst hj;have tb : (((m : Int) / 4503599627370496) != 0) = false := by rw [bne_eq_false_iff_eq];omega
 have ej : ((j : Int) + 22 - 22).toNat = j := by omega
 have e1 : mulB z (fv j) = r1 := by unfold mulB;rw [hr1];rfl
 have hbig : bigT r1 = true := by unfold bigT;rw [hg,hl];rfl
 have Hx := Lib.hid (show exG fv m ((j : Int) + 22) z = none by unfold exG;rw [if_neg (by omega),if_neg (by omega),if_pos (by omega),if_pos (by omega),ej,e1,hbig];rfl);have hm1 : ∀ w : World,(binOp .mul 24 (.float .f64 z) (.float .f64 (fv j))).run Tryz.prog w = .ok (.float .f64 r1) w := fun w => run_float_arith w .mul 24 .f64 _ _ _ hr1
 have cj := hcv j (by omega);have c22 := hcv 22 (by omega);have t0 : ((j : Int) + 22 == 0) = false := by rw [beq_eq_false_iff_ne];omega
 have t1 : decide (0 < (j : Int) + 22) = true := by rw [decide_eq_true_eq];omega
 have t2 : decide ((j : Int) + 22 ≤ 37) = true := by rw [decide_eq_true_eq];omega
 have t3 : decide (22 < (j : Int) + 22) = true := by rw [decide_eq_true_eq];omega
 have j23 : j < 23 := by omega
 clear hcv hpn hb ej hbig e1 hr1 nf;go_enter Tryz.func200,Tryz.ntmps200;go_wp2_with fail;refine bodyPost_ret (v := .tuple #[.float .f64 (r1),.bool false]) (by simp [results,Tryz.results200,go_sem]) rfl ?_;exact ⟨⟨_,_,rfl,Hx.out⟩,rfl⟩
theorem exact_pmlt (fb fo fc : Nat) (fv : Nat → Nat) (m x : Nat) (e : Int) (w : World) (hF : FP fv fb fo fc w) (hm : m < 18446744073709551616) (nf : NN x) (hs : Sgn m x false) (hb : m / 4503599627370496 = 0) (j : Nat) (hj : e = (j : Int)) (hj0 : 0 < j ∧ j ≤ 22) (hg : (FloatKind.f64.format.order (x) 4831355200913801216 == some .gt) = false) (hl : (FloatKind.f64.format.order (x) 14054727237768577024 == some .lt) = true) : Calls Tryz.prog 200 #[.int .u64 m,.int .i64 e,.bool false] w (ExPost fv m e x w) := by
 obtain ⟨c17,c21,hcv,hpn⟩ := hF;obtain ⟨z,hz,hz1,hz2⟩ := hs;have ez := hz2 rfl;subst ez;clear hz1 hz2;subst hj;have tb : (((m : Int) / 4503599627370496) != 0) = false := by rw [bne_eq_false_iff_eq];omega
 have ej : ((j : Int)).toNat = j := by omega
 have hbig : bigT z = true := by unfold bigT;rw [hg,hl];rfl
 have Hx := Lib.hid (show exG fv m (j : Int) z = none by unfold exG;rw [if_neg (by omega),if_neg (by omega),if_pos (by omega),if_neg (by omega),ej,hbig];rfl);have cj := hcv j (by omega);have t0 : ((j : Int) == 0) = false := by rw [beq_eq_false_iff_ne];omega
 have t1 : decide (0 < (j : Int)) = true := by rw [decide_eq_true_eq];omega
 have t2 : decide ((j : Int) ≤ 37) = true := by rw [decide_eq_true_eq];omega
 have t3 : decide (22 < (j : Int)) = false := by rw [decide_eq_false_iff_not];omega
 have j23 : j < 23 := by omega
 have j0 : 0 < j := by omega
 clear hcv hpn hb ej hbig nf hj0;go_enter Tryz.func200,Tryz.ntmps200;go_wp2_with fail;refine bodyPost_ret (v := .tuple #[.float .f64 (z),.bool false]) (by simp [results,Tryz.results200,go_sem]) rfl ?_;exact ⟨⟨_,_,rfl,Hx.out⟩,rfl⟩
theorem exact_pgok (fb fo fc : Nat) (fv : Nat → Nat) (m x : Nat) (e : Int) (w : World) (hF : FP fv fb fo fc w) (hm : m < 18446744073709551616) (nf : NN x) (hs : Sgn m x false) (hb : m / 4503599627370496 = 0) (j : Nat) (hj : e = (j : Int) + 22) (hj0 : 0 < j ∧ j ≤ 15) (r1 : Nat) (hr1 : floatBits .mul .f64 x (fv j) = some r1) (hg : (FloatKind.f64.format.order (r1) 4831355200913801216 == some .gt) = false) (hl : (FloatKind.f64.format.order (r1) 14054727237768577024 == some .lt) = false) : Calls Tryz.prog 200 #[.int .u64 m,.int .i64 e,.bool false] w (ExPost fv m e x w) := by
 obtain ⟨c17,c21,hcv,hpn⟩ := hF;obtain ⟨z,hz,hz1,hz2⟩ := hs;have ez := hz2 rfl;subst ez;clear hz1 hz2;subst hj;have tb : (((m : Int) / 4503599627370496) != 0) = false := by rw [bne_eq_false_iff_eq];omega
 have ej : ((j : Int) + 22 - 22).toNat = j := by omega
 have e1 : mulB z (fv j) = r1 := by unfold mulB;rw [hr1];rfl
 have hbig : bigT r1 = false := by unfold bigT;rw [hg,hl];rfl
 obtain ⟨r1',hr1',nr1⟩ := nn_mul nf (hpn j (by omega));have er : r1' = r1 := by rw [hr1] at hr1';injection hr1' with h;exact h.symm
 subst er;obtain ⟨r2,hr2,nr2⟩ := nn_mul nr1 (hpn 22 (by omega));have e2 : mulB r1' (fv 22) = r2 := by unfold mulB;rw [hr2];rfl
 have hm2 : ∀ w : World,(binOp .mul 24 (.float .f64 r1') (.float .f64 (fv 22))).run Tryz.prog w = .ok (.float .f64 r2) w := fun w => run_float_arith w .mul 24 .f64 _ _ _ hr2
 have Hx := Lib.hid (show exG fv m ((j : Int) + 22) z = some r2 by unfold exG;rw [if_neg (by omega),if_neg (by omega),if_pos (by omega),if_pos (by omega),ej,e1,hbig,e2];rfl);have hm1 : ∀ w : World,(binOp .mul 24 (.float .f64 z) (.float .f64 (fv j))).run Tryz.prog w = .ok (.float .f64 r1') w := fun w => run_float_arith w .mul 24 .f64 _ _ _ hr1
 have cj := hcv j (by omega);have c22 := hcv 22 (by omega);have t0 : ((j : Int) + 22 == 0) = false := by rw [beq_eq_false_iff_ne];omega
 have t1 : decide (0 < (j : Int) + 22) = true := by rw [decide_eq_true_eq];omega
 have t2 : decide ((j : Int) + 22 ≤ 37) = true := by rw [decide_eq_true_eq];omega
 have t3 : decide (22 < (j : Int) + 22) = true := by rw [decide_eq_true_eq];omega
 have j23 : j < 23 := by omega
 clear hcv hpn hb ej hbig e1 hr1 nf hr2 nr2 e2 nr1;go_enter Tryz.func200,Tryz.ntmps200;go_wp2_with fail;refine bodyPost_ret (v := .tuple #[.float .f64 (r2),.bool true]) (by simp [results,Tryz.results200,go_sem]) rfl ?_;exact ⟨⟨_,_,rfl,Hx.out⟩,rfl⟩
theorem exact_pmok (fb fo fc : Nat) (fv : Nat → Nat) (m x : Nat) (e : Int) (w : World) (hF : FP fv fb fo fc w) (hm : m < 18446744073709551616) (nf : NN x) (hs : Sgn m x false) (hb : m / 4503599627370496 = 0) (j : Nat) (hj : e = (j : Int)) (hj0 : 0 < j ∧ j ≤ 22) (hg : (FloatKind.f64.format.order (x) 4831355200913801216 == some .gt) = false) (hl : (FloatKind.f64.format.order (x) 14054727237768577024 == some .lt) = false) : Calls Tryz.prog 200 #[.int .u64 m,.int .i64 e,.bool false] w (ExPost fv m e x w) := by
 obtain ⟨c17,c21,hcv,hpn⟩ := hF;obtain ⟨z,hz,hz1,hz2⟩ := hs;have ez := hz2 rfl;subst ez;clear hz1 hz2;subst hj;have tb : (((m : Int) / 4503599627370496) != 0) = false := by rw [bne_eq_false_iff_eq];omega
 have ej : ((j : Int)).toNat = j := by omega
 have hbig : bigT z = false := by unfold bigT;rw [hg,hl];rfl
 obtain ⟨r2,hr2,nr2⟩ := nn_mul nf (hpn j (by omega));have e2 : mulB z (fv j) = r2 := by unfold mulB;rw [hr2];rfl
 have hm2 : ∀ w : World,(binOp .mul 24 (.float .f64 z) (.float .f64 (fv j))).run Tryz.prog w = .ok (.float .f64 r2) w := fun w => run_float_arith w .mul 24 .f64 _ _ _ hr2
 have Hx := Lib.hid (show exG fv m (j : Int) z = some r2 by unfold exG;rw [if_neg (by omega),if_neg (by omega),if_pos (by omega),if_neg (by omega),ej,hbig,e2];rfl);have cj := hcv j (by omega);have t0 : ((j : Int) == 0) = false := by rw [beq_eq_false_iff_ne];omega
 have t1 : decide (0 < (j : Int)) = true := by rw [decide_eq_true_eq];omega
 have t2 : decide ((j : Int) ≤ 37) = true := by rw [decide_eq_true_eq];omega
 have t3 : decide (22 < (j : Int)) = false := by rw [decide_eq_false_iff_not];omega
 have j23 : j < 23 := by omega
 have j0 : 0 < j := by omega
 clear hcv hpn hb ej hbig nf hj0 hr2 nr2 e2;go_enter Tryz.func200,Tryz.ntmps200;go_wp2_with fail;refine bodyPost_ret (v := .tuple #[.float .f64 (r2),.bool true]) (by simp [results,Tryz.results200,go_sem]) rfl ?_;exact ⟨⟨_,_,rfl,Hx.out⟩,rfl⟩
theorem exact_pneg (fb fo fc : Nat) (fv : Nat → Nat) (m x : Nat) (e : Int) (w : World) (hF : FP fv fb fo fc w) (hm : m < 18446744073709551616) (nf : NN x) (hs : Sgn m x false) (hb : m / 4503599627370496 = 0) (j : Nat) (hj : e = -(j : Int)) (hj0 : 0 < j ∧ j ≤ 22) : Calls Tryz.prog 200 #[.int .u64 m,.int .i64 e,.bool false] w (ExPost fv m e x w) := by
 obtain ⟨c17,c21,hcv,hpn⟩ := hF;obtain ⟨z,hz,hz1,hz2⟩ := hs;have ez := hz2 rfl;subst ez;clear hz1 hz2;subst hj;have tb : (((m : Int) / 4503599627370496) != 0) = false := by rw [bne_eq_false_iff_eq];omega
 have ej : (- -(j : Int)).toNat = j := by omega
 have cj := hcv j (by omega);obtain ⟨r2,hr2,nr2⟩ := nn_div nf (hpn j (by omega));have e2 : divB z (fv j) = r2 := by unfold divB;rw [hr2];rfl
 have hm2 : ∀ w : World,(binOp .quo 24 (.float .f64 z) (.float .f64 (fv j))).run Tryz.prog w = .ok (.float .f64 r2) w := fun w => run_float_arith w .quo 24 .f64 _ _ _ hr2
 have Hx := Lib.hid (show exG fv m (-(j : Int)) z = some r2 by unfold exG;rw [if_neg (by omega),if_neg (by omega),if_neg (by omega),if_pos (by omega),ej,e2]);have t0 : (-(j : Int) == 0) = false := by rw [beq_eq_false_iff_ne];omega
 have t1 : decide (0 < -(j : Int)) = false := by rw [decide_eq_false_iff_not];omega
 have t2 : decide (-(j : Int) < 0) = true := by rw [decide_eq_true_eq];omega
 have t3 : decide (-22 ≤ -(j : Int)) = true := by rw [decide_eq_true_eq];omega
 have j23 : j < 23 := by omega
 have j0 : 0 < j := by omega
 clear hcv hpn hb ej nf hj0 hr2 nr2 e2;go_enter Tryz.func200,Tryz.ntmps200;go_wp2_with fail;refine bodyPost_ret (v := .tuple #[.float .f64 (r2),.bool true]) (by simp [results,Tryz.results200,go_sem]) rfl ?_;exact ⟨⟨_,_,rfl,Hx.out⟩,rfl⟩
theorem exact_pup (fb fo fc : Nat) (fv : Nat → Nat) (m x : Nat) (e : Int) (w : World) (hF : FP fv fb fo fc w) (hm : m < 18446744073709551616) (nf : NN x) (hs : Sgn m x false) (hb : m / 4503599627370496 = 0) (h4 : 37 < e) : Calls Tryz.prog 200 #[.int .u64 m,.int .i64 e,.bool false] w (ExPost fv m e x w) := by
 obtain ⟨c17,c21,hcv,hpn⟩ := hF;obtain ⟨z,hz,hz1,hz2⟩ := hs;have ez := hz2 rfl;subst ez;clear hz1 hz2;have tb : (((m : Int) / 4503599627370496) != 0) = false := by rw [bne_eq_false_iff_eq];omega
 have Hx := Lib.hid (show exG fv m e z = none by unfold exG;rw [if_neg (by omega),if_neg (by omega),if_neg (by omega),if_neg (by omega)]);have t0 : (e == 0) = false := by rw [beq_eq_false_iff_ne];omega
 have t1 : decide (0 < e) = true := by rw [decide_eq_true_eq];omega
 have t2 : decide (e ≤ 37) = false := by rw [decide_eq_false_iff_not];omega
 have t4 : decide (e < 0) = false := by rw [decide_eq_false_iff_not];omega
 clear hcv hpn hb nf h4;go_enter Tryz.func200,Tryz.ntmps200;go_wp2_with fail;refine bodyPost_ret (v := .tuple #[.float .f64 (z),.bool false]) (by simp [results,Tryz.results200,go_sem]) rfl ?_;exact ⟨⟨_,_,rfl,Hx.out⟩,rfl⟩
theorem exact_pdown (fb fo fc : Nat) (fv : Nat → Nat) (m x : Nat) (e : Int) (w : World) (hF : FP fv fb fo fc w) (hm : m < 18446744073709551616) (nf : NN x) (hs : Sgn m x false) (hb : m / 4503599627370496 = 0) (h4 : e < -22) : Calls Tryz.prog 200 #[.int .u64 m,.int .i64 e,.bool false] w (ExPost fv m e x w) := by
 obtain ⟨c17,c21,hcv,hpn⟩ := hF;obtain ⟨z,hz,hz1,hz2⟩ := hs;have ez := hz2 rfl;subst ez;clear hz1 hz2;have tb : (((m : Int) / 4503599627370496) != 0) = false := by rw [bne_eq_false_iff_eq];omega
 have Hx := Lib.hid (show exG fv m e z = none by unfold exG;rw [if_neg (by omega),if_neg (by omega),if_neg (by omega),if_neg (by omega)]);have t0 : (e == 0) = false := by rw [beq_eq_false_iff_ne];omega
 have t1 : decide (0 < e) = false := by rw [decide_eq_false_iff_not];omega
 have t4 : decide (e < 0) = true := by rw [decide_eq_true_eq];omega
 have t5 : decide (-22 ≤ e) = false := by rw [decide_eq_false_iff_not];omega
 clear hcv hpn hb nf h4;go_enter Tryz.func200,Tryz.ntmps200;go_wp2_with fail;refine bodyPost_ret (v := .tuple #[.float .f64 (z),.bool false]) (by simp [results,Tryz.results200,go_sem]) rfl ?_;exact ⟨⟨_,_,rfl,Hx.out⟩,rfl⟩
theorem exact_nbig (fb fo fc : Nat) (fv : Nat → Nat) (m x : Nat) (e : Int) (w : World) (hF : FP fv fb fo fc w) (hm : m < 18446744073709551616) (nf : NN x) (hs : Sgn m x true) (hb : m / 4503599627370496 ≠ 0) : Calls Tryz.prog 200 #[.int .u64 m,.int .i64 e,.bool true] w (ExPost fv m e x w) := by
 obtain ⟨c17,c21,hcv,hpn⟩ := hF;obtain ⟨z,hz,hz1,hz2⟩ := hs;have hn := hz1 rfl;clear hz1 hz2;have tb : (((m : Int) / 4503599627370496) != 0) = true := by rw [bne_iff_ne];omega
 have Hx := Lib.hid (show exG fv m e x = none by unfold exG;rw [if_pos hb]);clear hcv hpn hb;go_enter Tryz.func200,Tryz.ntmps200;go_wp2_with fail;refine bodyPost_ret (v := .tuple #[.float .f64 (0),.bool false]) (by simp [results,Tryz.results200,go_sem]) rfl ?_;exact ⟨⟨_,_,rfl,Hx.out⟩,rfl⟩
theorem exact_nzero (fb fo fc : Nat) (fv : Nat → Nat) (m x : Nat) (e : Int) (w : World) (hF : FP fv fb fo fc w) (hm : m < 18446744073709551616) (nf : NN x) (hs : Sgn m x true) (hb : m / 4503599627370496 = 0) (h0 : e = 0) : Calls Tryz.prog 200 #[.int .u64 m,.int .i64 e,.bool true] w (ExPost fv m e x w) := by
 obtain ⟨c17,c21,hcv,hpn⟩ := hF;obtain ⟨z,hz,hz1,hz2⟩ := hs;have hn := hz1 rfl;clear hz1 hz2;subst h0;have tb : (((m : Int) / 4503599627370496) != 0) = false := by rw [bne_eq_false_iff_eq];omega
 have Hx := Lib.hid (show exG fv m 0 x = some x by unfold exG;rw [if_neg (by omega),if_pos rfl]);clear hcv hpn hb nf;go_enter Tryz.func200,Tryz.ntmps200;go_wp2_with fail;refine bodyPost_ret (v := .tuple #[.float .f64 (x),.bool true]) (by simp [results,Tryz.results200,go_sem]) rfl ?_;exact ⟨⟨_,_,rfl,Hx.out⟩,rfl⟩
theorem exact_nggt (fb fo fc : Nat) (fv : Nat → Nat) (m x : Nat) (e : Int) (w : World) (hF : FP fv fb fo fc w) (hm : m < 18446744073709551616) (nf : NN x) (hs : Sgn m x true) (hb : m / 4503599627370496 = 0) (j : Nat) (hj : e = (j : Int) + 22) (hj0 : 0 < j ∧ j ≤ 15) (r1 : Nat) (hr1 : floatBits .mul .f64 x (fv j) = some r1) (hg : (FloatKind.f64.format.order (r1) 4831355200913801216 == some .gt) = true) : Calls Tryz.prog 200 #[.int .u64 m,.int .i64 e,.bool true] w (ExPost fv m e x w) := by
 obtain ⟨c17,c21,hcv,hpn⟩ := hF;obtain ⟨z,hz,hz1,hz2⟩ := hs;have hn := hz1 rfl;clear hz1 hz2;subst hj;have tb : (((m : Int) / 4503599627370496) != 0) = false := by rw [bne_eq_false_iff_eq];omega
 have ej : ((j : Int) + 22 - 22).toNat = j := by omega
 have e1 : mulB x (fv j) = r1 := by unfold mulB;rw [hr1];rfl
 have hbig : bigT r1 = true := by unfold bigT;rw [hg];rfl
 have Hx := Lib.hid (show exG fv m ((j : Int) + 22) x = none by unfold exG;rw [if_neg (by omega),if_neg (by omega),if_pos (by omega),if_pos (by omega),ej,e1,hbig];rfl);have hm1 : ∀ w : World,(binOp .mul 24 (.float .f64 x) (.float .f64 (fv j))).run Tryz.prog w = .ok (.float .f64 r1) w := fun w => run_float_arith w .mul 24 .f64 _ _ _ hr1
 have cj := hcv j (by omega);have c22 := hcv 22 (by omega);have t0 : ((j : Int) + 22 == 0) = false := by rw [beq_eq_false_iff_ne];omega
 have t1 : decide (0 < (j : Int) + 22) = true := by rw [decide_eq_true_eq];omega
 have t2 : decide ((j : Int) + 22 ≤ 37) = true := by rw [decide_eq_true_eq];omega
 have t3 : decide (22 < (j : Int) + 22) = true := by rw [decide_eq_true_eq];omega
 have j23 : j < 23 := by omega
 clear hcv hpn hb ej hbig e1 hr1 nf;go_enter Tryz.func200,Tryz.ntmps200;go_wp2_with fail;refine bodyPost_ret (v := .tuple #[.float .f64 (r1),.bool false]) (by simp [results,Tryz.results200,go_sem]) rfl ?_;exact ⟨⟨_,_,rfl,Hx.out⟩,rfl⟩
theorem exact_nmgt (fb fo fc : Nat) (fv : Nat → Nat) (m x : Nat) (e : Int) (w : World) (hF : FP fv fb fo fc w) (hm : m < 18446744073709551616) (nf : NN x) (hs : Sgn m x true) (hb : m / 4503599627370496 = 0) (j : Nat) (hj : e = (j : Int)) (hj0 : 0 < j ∧ j ≤ 22) (hg : (FloatKind.f64.format.order (x) 4831355200913801216 == some .gt) = true) : Calls Tryz.prog 200 #[.int .u64 m,.int .i64 e,.bool true] w (ExPost fv m e x w) := by
 obtain ⟨c17,c21,hcv,hpn⟩ := hF;obtain ⟨z,hz,hz1,hz2⟩ := hs;have hn := hz1 rfl;clear hz1 hz2;subst hj;have tb : (((m : Int) / 4503599627370496) != 0) = false := by rw [bne_eq_false_iff_eq];omega
 have ej : ((j : Int)).toNat = j := by omega
 have hbig : bigT x = true := by unfold bigT;rw [hg];rfl
 have Hx := Lib.hid (show exG fv m (j : Int) x = none by unfold exG;rw [if_neg (by omega),if_neg (by omega),if_pos (by omega),if_neg (by omega),ej,hbig];rfl);have cj := hcv j (by omega);have t0 : ((j : Int) == 0) = false := by rw [beq_eq_false_iff_ne];omega
 have t1 : decide (0 < (j : Int)) = true := by rw [decide_eq_true_eq];omega
 have t2 : decide ((j : Int) ≤ 37) = true := by rw [decide_eq_true_eq];omega
 have t3 : decide (22 < (j : Int)) = false := by rw [decide_eq_false_iff_not];omega
 have j23 : j < 23 := by omega
 have j0 : 0 < j := by omega
 clear hcv hpn hb ej hbig nf hj0;go_enter Tryz.func200,Tryz.ntmps200;go_wp2_with fail;refine bodyPost_ret (v := .tuple #[.float .f64 (x),.bool false]) (by simp [results,Tryz.results200,go_sem]) rfl ?_;exact ⟨⟨_,_,rfl,Hx.out⟩,rfl⟩
theorem exact_nglt (fb fo fc : Nat) (fv : Nat → Nat) (m x : Nat) (e : Int) (w : World) (hF : FP fv fb fo fc w) (hm : m < 18446744073709551616) (nf : NN x) (hs : Sgn m x true) (hb : m / 4503599627370496 = 0) (j : Nat) (hj : e = (j : Int) + 22) (hj0 : 0 < j ∧ j ≤ 15) (r1 : Nat) (hr1 : floatBits .mul .f64 x (fv j) = some r1) (hg : (FloatKind.f64.format.order (r1) 4831355200913801216 == some .gt) = false) (hl : (FloatKind.f64.format.order (r1) 14054727237768577024 == some .lt) = true) : Calls Tryz.prog 200 #[.int .u64 m,.int .i64 e,.bool true] w (ExPost fv m e x w) := by
 obtain ⟨c17,c21,hcv,hpn⟩ := hF;obtain ⟨z,hz,hz1,hz2⟩ := hs;have hn := hz1 rfl;clear hz1 hz2;subst hj;have tb : (((m : Int) / 4503599627370496) != 0) = false := by rw [bne_eq_false_iff_eq];omega
 have ej : ((j : Int) + 22 - 22).toNat = j := by omega
 have e1 : mulB x (fv j) = r1 := by unfold mulB;rw [hr1];rfl
 have hbig : bigT r1 = true := by unfold bigT;rw [hg,hl];rfl
 have Hx := Lib.hid (show exG fv m ((j : Int) + 22) x = none by unfold exG;rw [if_neg (by omega),if_neg (by omega),if_pos (by omega),if_pos (by omega),ej,e1,hbig];rfl);have hm1 : ∀ w : World,(binOp .mul 24 (.float .f64 x) (.float .f64 (fv j))).run Tryz.prog w = .ok (.float .f64 r1) w := fun w => run_float_arith w .mul 24 .f64 _ _ _ hr1
 have cj := hcv j (by omega);have c22 := hcv 22 (by omega);have t0 : ((j : Int) + 22 == 0) = false := by rw [beq_eq_false_iff_ne];omega
 have t1 : decide (0 < (j : Int) + 22) = true := by rw [decide_eq_true_eq];omega
 have t2 : decide ((j : Int) + 22 ≤ 37) = true := by rw [decide_eq_true_eq];omega
 have t3 : decide (22 < (j : Int) + 22) = true := by rw [decide_eq_true_eq];omega
 have j23 : j < 23 := by omega
 clear hcv hpn hb ej hbig e1 hr1 nf;go_enter Tryz.func200,Tryz.ntmps200;go_wp2_with fail;refine bodyPost_ret (v := .tuple #[.float .f64 (r1),.bool false]) (by simp [results,Tryz.results200,go_sem]) rfl ?_;exact ⟨⟨_,_,rfl,Hx.out⟩,rfl⟩
theorem exact_nmlt (fb fo fc : Nat) (fv : Nat → Nat) (m x : Nat) (e : Int) (w : World) (hF : FP fv fb fo fc w) (hm : m < 18446744073709551616) (nf : NN x) (hs : Sgn m x true) (hb : m / 4503599627370496 = 0) (j : Nat) (hj : e = (j : Int)) (hj0 : 0 < j ∧ j ≤ 22) (hg : (FloatKind.f64.format.order (x) 4831355200913801216 == some .gt) = false) (hl : (FloatKind.f64.format.order (x) 14054727237768577024 == some .lt) = true) : Calls Tryz.prog 200 #[.int .u64 m,.int .i64 e,.bool true] w (ExPost fv m e x w) := by
 obtain ⟨c17,c21,hcv,hpn⟩ := hF;obtain ⟨z,hz,hz1,hz2⟩ := hs;have hn := hz1 rfl;clear hz1 hz2;subst hj;have tb : (((m : Int) / 4503599627370496) != 0) = false := by rw [bne_eq_false_iff_eq];omega
 have ej : ((j : Int)).toNat = j := by omega
 have hbig : bigT x = true := by unfold bigT;rw [hg,hl];rfl
 have Hx := Lib.hid (show exG fv m (j : Int) x = none by unfold exG;rw [if_neg (by omega),if_neg (by omega),if_pos (by omega),if_neg (by omega),ej,hbig];rfl);have cj := hcv j (by omega);have t0 : ((j : Int) == 0) = false := by rw [beq_eq_false_iff_ne];omega
 have t1 : decide (0 < (j : Int)) = true := by rw [decide_eq_true_eq];omega
 have t2 : decide ((j : Int) ≤ 37) = true := by rw [decide_eq_true_eq];omega
 have t3 : decide (22 < (j : Int)) = false := by rw [decide_eq_false_iff_not];omega
 have j23 : j < 23 := by omega
 have j0 : 0 < j := by omega
 clear hcv hpn hb ej hbig nf hj0;go_enter Tryz.func200,Tryz.ntmps200;go_wp2_with fail;refine bodyPost_ret (v := .tuple #[.float .f64 (x),.bool false]) (by simp [results,Tryz.results200,go_sem]) rfl ?_;exact ⟨⟨_,_,rfl,Hx.out⟩,rfl⟩
theorem exact_ngok (fb fo fc : Nat) (fv : Nat → Nat) (m x : Nat) (e : Int) (w : World) (hF : FP fv fb fo fc w) (hm : m < 18446744073709551616) (nf : NN x) (hs : Sgn m x true) (hb : m / 4503599627370496 = 0) (j : Nat) (hj : e = (j : Int) + 22) (hj0 : 0 < j ∧ j ≤ 15) (r1 : Nat) (hr1 : floatBits .mul .f64 x (fv j) = some r1) (hg : (FloatKind.f64.format.order (r1) 4831355200913801216 == some .gt) = false) (hl : (FloatKind.f64.format.order (r1) 14054727237768577024 == some .lt) = false) : Calls Tryz.prog 200 #[.int .u64 m,.int .i64 e,.bool true] w (ExPost fv m e x w) := by
 obtain ⟨c17,c21,hcv,hpn⟩ := hF;obtain ⟨z,hz,hz1,hz2⟩ := hs;have hn := hz1 rfl;clear hz1 hz2;subst hj;have tb : (((m : Int) / 4503599627370496) != 0) = false := by rw [bne_eq_false_iff_eq];omega
 have ej : ((j : Int) + 22 - 22).toNat = j := by omega
 have e1 : mulB x (fv j) = r1 := by unfold mulB;rw [hr1];rfl
 have hbig : bigT r1 = false := by unfold bigT;rw [hg,hl];rfl
 obtain ⟨r1',hr1',nr1⟩ := nn_mul nf (hpn j (by omega));have er : r1' = r1 := by rw [hr1] at hr1';injection hr1' with h;exact h.symm
 subst er;obtain ⟨r2,hr2,nr2⟩ := nn_mul nr1 (hpn 22 (by omega));have e2 : mulB r1' (fv 22) = r2 := by unfold mulB;rw [hr2];rfl
 have hm2 : ∀ w : World,(binOp .mul 24 (.float .f64 r1') (.float .f64 (fv 22))).run Tryz.prog w = .ok (.float .f64 r2) w := fun w => run_float_arith w .mul 24 .f64 _ _ _ hr2
 have Hx := Lib.hid (show exG fv m ((j : Int) + 22) x = some r2 by unfold exG;rw [if_neg (by omega),if_neg (by omega),if_pos (by omega),if_pos (by omega),ej,e1,hbig,e2];rfl);have hm1 : ∀ w : World,(binOp .mul 24 (.float .f64 x) (.float .f64 (fv j))).run Tryz.prog w = .ok (.float .f64 r1') w := fun w => run_float_arith w .mul 24 .f64 _ _ _ hr1
 have cj := hcv j (by omega);have c22 := hcv 22 (by omega);have t0 : ((j : Int) + 22 == 0) = false := by rw [beq_eq_false_iff_ne];omega
 have t1 : decide (0 < (j : Int) + 22) = true := by rw [decide_eq_true_eq];omega
 have t2 : decide ((j : Int) + 22 ≤ 37) = true := by rw [decide_eq_true_eq];omega
 have t3 : decide (22 < (j : Int) + 22) = true := by rw [decide_eq_true_eq];omega
 have j23 : j < 23 := by omega
 clear hcv hpn hb ej hbig e1 hr1 nf hr2 nr2 e2 nr1;go_enter Tryz.func200,Tryz.ntmps200;go_wp2_with fail;refine bodyPost_ret (v := .tuple #[.float .f64 (r2),.bool true]) (by simp [results,Tryz.results200,go_sem]) rfl ?_;exact ⟨⟨_,_,rfl,Hx.out⟩,rfl⟩
theorem exact_nmok (fb fo fc : Nat) (fv : Nat → Nat) (m x : Nat) (e : Int) (w : World) (hF : FP fv fb fo fc w) (hm : m < 18446744073709551616) (nf : NN x) (hs : Sgn m x true) (hb : m / 4503599627370496 = 0) (j : Nat) (hj : e = (j : Int)) (hj0 : 0 < j ∧ j ≤ 22) (hg : (FloatKind.f64.format.order (x) 4831355200913801216 == some .gt) = false) (hl : (FloatKind.f64.format.order (x) 14054727237768577024 == some .lt) = false) : Calls Tryz.prog 200 #[.int .u64 m,.int .i64 e,.bool true] w (ExPost fv m e x w) := by
 obtain ⟨c17,c21,hcv,hpn⟩ := hF;obtain ⟨z,hz,hz1,hz2⟩ := hs;have hn := hz1 rfl;clear hz1 hz2;subst hj;have tb : (((m : Int) / 4503599627370496) != 0) = false := by rw [bne_eq_false_iff_eq];omega
 have ej : ((j : Int)).toNat = j := by omega
 have hbig : bigT x = false := by unfold bigT;rw [hg,hl];rfl
 obtain ⟨r2,hr2,nr2⟩ := nn_mul nf (hpn j (by omega));have e2 : mulB x (fv j) = r2 := by unfold mulB;rw [hr2];rfl
 have hm2 : ∀ w : World,(binOp .mul 24 (.float .f64 x) (.float .f64 (fv j))).run Tryz.prog w = .ok (.float .f64 r2) w := fun w => run_float_arith w .mul 24 .f64 _ _ _ hr2
 have Hx := Lib.hid (show exG fv m (j : Int) x = some r2 by unfold exG;rw [if_neg (by omega),if_neg (by omega),if_pos (by omega),if_neg (by omega),ej,hbig,e2];rfl);have cj := hcv j (by omega);have t0 : ((j : Int) == 0) = false := by rw [beq_eq_false_iff_ne];omega
 have t1 : decide (0 < (j : Int)) = true := by rw [decide_eq_true_eq];omega
 have t2 : decide ((j : Int) ≤ 37) = true := by rw [decide_eq_true_eq];omega
 have t3 : decide (22 < (j : Int)) = false := by rw [decide_eq_false_iff_not];omega
 have j23 : j < 23 := by omega
 have j0 : 0 < j := by omega
 clear hcv hpn hb ej hbig nf hj0 hr2 nr2 e2;go_enter Tryz.func200,Tryz.ntmps200;go_wp2_with fail;refine bodyPost_ret (v := .tuple #[.float .f64 (r2),.bool true]) (by simp [results,Tryz.results200,go_sem]) rfl ?_;exact ⟨⟨_,_,rfl,Hx.out⟩,rfl⟩
theorem exact_nneg (fb fo fc : Nat) (fv : Nat → Nat) (m x : Nat) (e : Int) (w : World) (hF : FP fv fb fo fc w) (hm : m < 18446744073709551616) (nf : NN x) (hs : Sgn m x true) (hb : m / 4503599627370496 = 0) (j : Nat) (hj : e = -(j : Int)) (hj0 : 0 < j ∧ j ≤ 22) : Calls Tryz.prog 200 #[.int .u64 m,.int .i64 e,.bool true] w (ExPost fv m e x w) := by
 obtain ⟨c17,c21,hcv,hpn⟩ := hF;obtain ⟨z,hz,hz1,hz2⟩ := hs;have hn := hz1 rfl;clear hz1 hz2;subst hj;have tb : (((m : Int) / 4503599627370496) != 0) = false := by rw [bne_eq_false_iff_eq];omega
 have ej : (- -(j : Int)).toNat = j := by omega
 have cj := hcv j (by omega);obtain ⟨r2,hr2,nr2⟩ := nn_div nf (hpn j (by omega));have e2 : divB x (fv j) = r2 := by unfold divB;rw [hr2];rfl
 have hm2 : ∀ w : World,(binOp .quo 24 (.float .f64 x) (.float .f64 (fv j))).run Tryz.prog w = .ok (.float .f64 r2) w := fun w => run_float_arith w .quo 24 .f64 _ _ _ hr2
 have Hx := Lib.hid (show exG fv m (-(j : Int)) x = some r2 by unfold exG;rw [if_neg (by omega),if_neg (by omega),if_neg (by omega),if_pos (by omega),ej,e2]);have t0 : (-(j : Int) == 0) = false := by rw [beq_eq_false_iff_ne];omega
 have t1 : decide (0 < -(j : Int)) = false := by rw [decide_eq_false_iff_not];omega
 have t2 : decide (-(j : Int) < 0) = true := by rw [decide_eq_true_eq];omega
 have t3 : decide (-22 ≤ -(j : Int)) = true := by rw [decide_eq_true_eq];omega
 have j23 : j < 23 := by omega
 have j0 : 0 < j := by omega
 clear hcv hpn hb ej nf hj0 hr2 nr2 e2;go_enter Tryz.func200,Tryz.ntmps200;go_wp2_with fail;refine bodyPost_ret (v := .tuple #[.float .f64 (r2),.bool true]) (by simp [results,Tryz.results200,go_sem]) rfl ?_;exact ⟨⟨_,_,rfl,Hx.out⟩,rfl⟩
theorem exact_nup (fb fo fc : Nat) (fv : Nat → Nat) (m x : Nat) (e : Int) (w : World) (hF : FP fv fb fo fc w) (hm : m < 18446744073709551616) (nf : NN x) (hs : Sgn m x true) (hb : m / 4503599627370496 = 0) (h4 : 37 < e) : Calls Tryz.prog 200 #[.int .u64 m,.int .i64 e,.bool true] w (ExPost fv m e x w) := by
 obtain ⟨c17,c21,hcv,hpn⟩ := hF;obtain ⟨z,hz,hz1,hz2⟩ := hs;have hn := hz1 rfl;clear hz1 hz2;have tb : (((m : Int) / 4503599627370496) != 0) = false := by rw [bne_eq_false_iff_eq];omega
 have Hx := Lib.hid (show exG fv m e x = none by unfold exG;rw [if_neg (by omega),if_neg (by omega),if_neg (by omega),if_neg (by omega)]);have t0 : (e == 0) = false := by rw [beq_eq_false_iff_ne];omega
 have t1 : decide (0 < e) = true := by rw [decide_eq_true_eq];omega
 have t2 : decide (e ≤ 37) = false := by rw [decide_eq_false_iff_not];omega
 have t4 : decide (e < 0) = false := by rw [decide_eq_false_iff_not];omega
 clear hcv hpn hb nf h4;go_enter Tryz.func200,Tryz.ntmps200;go_wp2_with fail;refine bodyPost_ret (v := .tuple #[.float .f64 (x),.bool false]) (by simp [results,Tryz.results200,go_sem]) rfl ?_;exact ⟨⟨_,_,rfl,Hx.out⟩,rfl⟩
theorem exact_ndown (fb fo fc : Nat) (fv : Nat → Nat) (m x : Nat) (e : Int) (w : World) (hF : FP fv fb fo fc w) (hm : m < 18446744073709551616) (nf : NN x) (hs : Sgn m x true) (hb : m / 4503599627370496 = 0) (h4 : e < -22) : Calls Tryz.prog 200 #[.int .u64 m,.int .i64 e,.bool true] w (ExPost fv m e x w) := by
 obtain ⟨c17,c21,hcv,hpn⟩ := hF;obtain ⟨z,hz,hz1,hz2⟩ := hs;have hn := hz1 rfl;clear hz1 hz2;have tb : (((m : Int) / 4503599627370496) != 0) = false := by rw [bne_eq_false_iff_eq];omega
 have Hx := Lib.hid (show exG fv m e x = none by unfold exG;rw [if_neg (by omega),if_neg (by omega),if_neg (by omega),if_neg (by omega)]);have t0 : (e == 0) = false := by rw [beq_eq_false_iff_ne];omega
 have t1 : decide (0 < e) = false := by rw [decide_eq_false_iff_not];omega
 have t4 : decide (e < 0) = true := by rw [decide_eq_true_eq];omega
 have t5 : decide (-22 ≤ e) = false := by rw [decide_eq_false_iff_not];omega
 clear hcv hpn hb nf h4;go_enter Tryz.func200,Tryz.ntmps200;go_wp2_with fail;refine bodyPost_ret (v := .tuple #[.float .f64 (x),.bool false]) (by simp [results,Tryz.results200,go_sem]) rfl ?_;exact ⟨⟨_,_,rfl,Hx.out⟩,rfl⟩
end Go.Proofs.YtcpijmbdibgdmaaGreatDoor
namespace Go.Proofs.YtcpijmbdibgdmaaGreatDoor
open Go.RowKit
theorem sgn_f0 (m : Nat) (neg : Bool) : Sgn m (f0F m neg) neg := by
 refine ⟨floatOfInt .f64 (m : Int),fun w => run_convert_int_float w 158 24 .u64 .f64 (m : Int) (by kernel_rfl) (by kernel_rfl),fun h w => ?_,fun h => ?_⟩
 · subst h;have : f0F m true = Op.negFloat .f64 (floatOfInt .f64 (m : Int)) := by simp [f0F]
   rw [this];simp [Op.unary]
 subst h;simp [f0F]
theorem exact_any (fb fo fc : Nat) (fv : Nat → Nat) (m : Nat) (e : Int) (neg : Bool) (w : World) (hF : FP fv fb fo fc w) (hm : m < 18446744073709551616) (he : -100 ≤ e ∧ e ≤ 100) :
 Calls Tryz.prog 200 #[.int .u64 m,.int .i64 e,.bool neg] w (ExPost fv m e (f0F m neg) w) := by
 have nf := nn_f0 m neg;have hs := sgn_f0 m neg;obtain ⟨x,hx⟩ : ∃ x,x = f0F m neg := ⟨_,rfl⟩;rw [← hx] at nf hs ⊢;clear hx;by_cases hb : m / 4503599627370496 = 0
 · by_cases h0 : e = 0
   · cases neg
     · exact exact_pzero fb fo fc fv m x e w hF hm nf hs hb h0
     exact exact_nzero fb fo fc fv m x e w hF hm nf hs hb h0
   by_cases h1 : 37 < e
   · cases neg
     · exact exact_pup fb fo fc fv m x e w hF hm nf hs hb h1
     exact exact_nup fb fo fc fv m x e w hF hm nf hs hb h1
   by_cases h2 : e < -22
   · cases neg
     · exact exact_pdown fb fo fc fv m x e w hF hm nf hs hb h2
     exact exact_ndown fb fo fc fv m x e w hF hm nf hs hb h2
   by_cases h3 : e < 0
   · have hj : e = -((-e).toNat : Int) := by omega
     cases neg
     · exact exact_pneg fb fo fc fv m x e w hF hm nf hs hb (-e).toNat hj (by omega)
     exact exact_nneg fb fo fc fv m x e w hF hm nf hs hb (-e).toNat hj (by omega)
   by_cases h4 : 22 < e
   · have hj : e = ((e - 22).toNat : Int) + 22 := by omega
     obtain ⟨r1,hr1,_⟩ := nn_mul nf (hF.pn (e - 22).toNat (by omega))
     cases hg : (FloatKind.f64.format.order r1 4831355200913801216 == some .gt) with
     | true =>
       cases neg
       · exact exact_pggt fb fo fc fv m x e w hF hm nf hs hb (e - 22).toNat hj (by omega) r1 hr1 hg
       exact exact_nggt fb fo fc fv m x e w hF hm nf hs hb (e - 22).toNat hj (by omega) r1 hr1 hg
     | false =>
       cases hl : (FloatKind.f64.format.order r1 14054727237768577024 == some .lt) with
       | true =>
         cases neg
         · exact exact_pglt fb fo fc fv m x e w hF hm nf hs hb (e - 22).toNat hj (by omega) r1 hr1 hg hl
         exact exact_nglt fb fo fc fv m x e w hF hm nf hs hb (e - 22).toNat hj (by omega) r1 hr1 hg hl
       | false =>
         cases neg
         · exact exact_pgok fb fo fc fv m x e w hF hm nf hs hb (e - 22).toNat hj (by omega) r1 hr1 hg hl
         exact exact_ngok fb fo fc fv m x e w hF hm nf hs hb (e - 22).toNat hj (by omega) r1 hr1 hg hl
   have hj : e = (e.toNat : Int) := by omega
   cases hg : (FloatKind.f64.format.order x 4831355200913801216 == some .gt) with
   | true =>
     cases neg
     · exact exact_pmgt fb fo fc fv m x e w hF hm nf hs hb e.toNat hj (by omega) hg
     exact exact_nmgt fb fo fc fv m x e w hF hm nf hs hb e.toNat hj (by omega) hg
   | false =>
     cases hl : (FloatKind.f64.format.order x 14054727237768577024 == some .lt) with
     | true =>
       cases neg
       · exact exact_pmlt fb fo fc fv m x e w hF hm nf hs hb e.toNat hj (by omega) hg hl
       exact exact_nmlt fb fo fc fv m x e w hF hm nf hs hb e.toNat hj (by omega) hg hl
     | false =>
       cases neg
       · exact exact_pmok fb fo fc fv m x e w hF hm nf hs hb e.toNat hj (by omega) hg hl
       exact exact_nmok fb fo fc fv m x e w hF hm nf hs hb e.toNat hj (by omega) hg hl
 · cases neg
   · exact exact_pbig fb fo fc fv m x e w hF hm nf hs hb
   exact exact_nbig fb fo fc fv m x e w hF hm nf hs hb
end Go.Proofs.YtcpijmbdibgdmaaGreatDoor
namespace Go.Proofs.YtcpijmbdibgdmaaGreatDoor
open Go.RowKit
attribute [local go_sem] ba_get store_flt
theorem pfx_any (t : List UInt8) (w : World) (hs : t.length ≤ 1048576) (hc : ∀ h : 0 < t.length,t[0].toNat < 65) :
 Calls Tryz.prog 235 #[S t,.string ⟨#[105,110,102,105,110,105,116,121]⟩] w fun e w' => e = .returned (.int .i64 0) ∧ w = w' := by
 by_cases h0 : 0 < t.length
 · have hc0 := hc h0;have t1 : decide ((0 : Int) < min 8 (t.length : Int)) = true := by rw [decide_eq_true_eq];omega
   have t1' : decide ((0 : Int) < (t.length : Int)) = true := by rw [decide_eq_true_eq];omega
   have t2 : decide ((65 : Int) ≤ (((t[0]'h0).toNat : Nat) : Int)) = false := by rw [decide_eq_false_iff_not];omega
   have t3 : ((((t[0]'h0).toNat : Nat) : Int) != 105) = true := by rw [bne_iff_ne];omega
   clear hc hc0;go_enter Tryz.func235,Tryz.ntmps235;go_wp2_with fail;refine wp_loop_rounds 1 ?_;rw [rounds_succ];go_wp2_with fail;go_ret;exact ⟨rfl,rfl⟩
 · have t1 : decide ((0 : Int) < min 8 (t.length : Int)) = false := by rw [decide_eq_false_iff_not];omega
   have t1' : decide ((0 : Int) < (t.length : Int)) = false := by rw [decide_eq_false_iff_not];omega
   have tm : min 8 (t.length : Int) = 0 := by omega
   go_enter Tryz.func235,Tryz.ntmps235;go_wp2_with fail;refine wp_loop_rounds 1 ?_;rw [rounds_succ];go_wp2_with fail;go_ret;exact ⟨rfl,rfl⟩
theorem special_any (t : List UInt8) (w : World) (hs : t.length ≤ 1048576) (h0 : 0 < t.length)
 (hc : (t[0].toNat < 60 ∧ t[0].toNat ≠ 43 ∧ t[0].toNat ≠ 45) ∨ ((t[0].toNat = 43 ∨ t[0].toNat = 45) ∧ ∀ h : 1 < t.length,t[1].toNat < 65)) :
 Calls Tryz.prog 189 #[S t] w fun e w' => e = .returned (.tuple #[.float .f64 0,.int .i64 0,.bool false]) ∧ w = w' := by
 have tl : ((t.length : Int) == 0) = false := by rw [beq_eq_false_iff_ne];omega
 rcases hc with ⟨h1,h2,h3⟩ | ⟨h1,h2⟩
 · have t1 : ((((t[0]'h0).toNat : Nat) : Int) == 43) = false := by rw [beq_eq_false_iff_ne];omega
   have t2 : ((((t[0]'h0).toNat : Nat) : Int) == 45) = false := by rw [beq_eq_false_iff_ne];omega
   have t3 : ((((t[0]'h0).toNat : Nat) : Int) == 105) = false := by rw [beq_eq_false_iff_ne];omega
   have t4 : ((((t[0]'h0).toNat : Nat) : Int) == 73) = false := by rw [beq_eq_false_iff_ne];omega
   have t5 : ((((t[0]'h0).toNat : Nat) : Int) == 110) = false := by rw [beq_eq_false_iff_ne];omega
   have t6 : ((((t[0]'h0).toNat : Nat) : Int) == 78) = false := by rw [beq_eq_false_iff_ne];omega
   clear h1 h2 h3;go_enter Tryz.func189,Tryz.ntmps189;go_wp2_with fail;refine bodyPost_ret (v := .tuple #[.float .f64 0,.int .i64 0,.bool false]) (by simp [results,Tryz.results189,go_sem]) rfl ?_;exact ⟨rfl,rfl⟩
 · have hp := fun w => pfx_any (t.drop 1) w (by simp;omega) (fun h => by rw [List.getElem_drop];exact h2 (by rw [List.length_drop] at h;omega))
   have hex : (ByteArray.mk t.toArray).extract 1 t.length = ⟨(t.drop 1).toArray⟩ := by
    rw [ByteArray.extract_mk,List.take_of_length_le (by rw [List.length_drop];omega)]
   obtain ⟨u,hu⟩ : ∃ u,u = t.drop 1 := ⟨_,rfl⟩;have hul : u.length = t.length - 1 := by rw [hu,List.length_drop]
   rw [← hu] at hp hex;clear hu hul;rcases h1 with h1 | h1
   · have t1 : ((((t[0]'h0).toNat : Nat) : Int) == 43) = true := by rw [beq_iff_eq];omega
     have t2 : ((((t[0]'h0).toNat : Nat) : Int) == 45) = false := by rw [beq_eq_false_iff_ne];omega
     clear h1 h2;go_enter Tryz.func189,Tryz.ntmps189;go_wp2_with fail;refine (hp _).mono ?_;rintro e w1 ⟨rfl,rfl⟩;go_wp2_with fail;refine bodyPost_ret (v := .tuple #[.float .f64 0,.int .i64 0,.bool false]) (by simp [results,Tryz.results189,go_sem]) rfl ?_;exact ⟨rfl,rfl⟩
   have t1 : ((((t[0]'h0).toNat : Nat) : Int) == 43) = false := by rw [beq_eq_false_iff_ne];omega
   have t2 : ((((t[0]'h0).toNat : Nat) : Int) == 45) = true := by rw [beq_iff_eq];omega
   clear h1 h2;go_enter Tryz.func189,Tryz.ntmps189;go_wp2_with fail;refine (hp _).mono ?_;rintro e w1 ⟨rfl,rfl⟩;go_wp2_with fail;refine bodyPost_ret (v := .tuple #[.float .f64 0,.int .i64 0,.bool false]) (by simp [results,Tryz.results189,go_sem]) rfl ?_;exact ⟨rfl,rfl⟩
end Go.Proofs.YtcpijmbdibgdmaaGreatDoor
