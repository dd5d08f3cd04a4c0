/-
  The shape of what FormatFloat writes: plain law.
  strconv.FormatFloat at %f and twelve digits; spec.Twelve.
-/
import Derived.Test.YtcpijmbdibgdmaaGreatDoorMs15
set_option linter.all false
set_option maxHeartbeats 16000000
set_option maxRecDepth 100000
namespace Go.Proofs.YtcpijmbdibgdmaaGreatDoor
open Go.RowKit
theorem fxP_ge (hi lo : Nat → Nat) (x i n : Nat) (e : Int) : 11 ≤ fxP hi lo x i n e := by unfold fxP;split <;> (try split) <;> omega
theorem cntM_digits : ∀ (h t : List UInt8) (d p a : Nat),(∀ b ∈ h,digitB b = true) → cntM (h ++ t) d p a = cntM t (d + h.length) p (if p = 0 then a + h.length else a)
 | [],t,d,p,a,_ => by simp
 | b :: h,t,d,p,a,hb => by
   rw [List.cons_append,cntM,if_pos (hb b (by simp)),cntM_digits h t _ _ _ (fun x hx => hb x (by simp [hx]))];by_cases hp : p = 0
   · simp only [hp,if_true,List.length_cons];rw [show d + 1 + h.length = d + (h.length + 1) by omega,show a + 1 + h.length = a + (h.length + 1) by omega]
   simp only [hp,if_false,List.length_cons];rw [show d + 1 + h.length = d + (h.length + 1) by omega]
theorem digits48 (n : Nat) : ∀ b ∈ List.replicate n (48 : UInt8),digitB b = true := by
 intro b hb;rw [(List.mem_replicate.1 hb).2];decide
theorem headB_digits {d : List UInt8} (hd : ∀ b ∈ d,digitB b = true) (dp : Int) : (∀ b ∈ headB d dp,digitB b = true) ∧ headB d dp ≠ [] := by
 have hl := headB_len d dp;constructor
 · intro b hb;unfold headB at hb;split at hb
   · rcases List.mem_append.1 hb with h | h
     · exact hd b (List.mem_of_mem_take h)
     exact digits48 _ b h
   simp at hb;subst hb;decide
 intro e;rw [e] at hl;simp only [List.length_nil] at hl;omega
theorem tailB_digits {d : List UInt8} (hd : ∀ b ∈ d,digitB b = true) (dp : Int) : (∀ b ∈ tailB d dp,digitB b = true) ∧ (tailB d dp).length = 12 := by
 have hz : zpF dp ≤ 12 := by unfold zpF;omega
 constructor
 · intro b hb;unfold tailB at hb;rcases List.mem_append.1 hb with h | h
   · rcases List.mem_append.1 h with h | h
     · exact digits48 _ b h
     exact hd b (List.mem_of_mem_drop (List.mem_of_mem_take h))
   exact digits48 _ b h
 unfold tailB;rw [List.length_append,List.length_append,List.length_replicate,List.length_replicate,List.length_take,List.length_drop];omega
theorem fmt_real {d : List UInt8} (hd : ∀ b ∈ d,digitB b = true) {dp : Int} (h : dp ≤ 14) (neg : Bool) : numM (fmtN neg d dp) = .real := by
 obtain ⟨h1,h2⟩ := headB_digits hd dp;obtain ⟨t1,t2⟩ := tailB_digits hd dp;have hl := headB_len d dp
 have e : unsign (fmtN neg d dp) = headB d dp ++ 46 :: tailB d dp := by
  unfold fmtN sgnB
  cases neg with
  | true => simp [unsign]
  | false =>
    simp only [Bool.false_eq_true,if_false,List.nil_append,List.append_assoc,List.cons_append]
    cases hh : headB d dp with
    | nil => exact absurd hh h2
    | cons b r =>
      have := h1 b (by rw [hh];simp);unfold digitB at this;rw [decide_eq_true_eq] at this;rw [List.cons_append,unsign,if_neg (by omega)]
 have hc : cntM (headB d dp ++ 46 :: tailB d dp) 0 0 0 = some ((headB d dp).length + 12,1,(headB d dp).length) := by
  rw [cntM_digits _ _ _ _ _ h1,cntM,if_neg (by decide),if_pos (by rfl)];have := cntM_digits (tailB d dp) [] (0 + (headB d dp).length) (0 + 1) (if 0 = 0 then 0 + (headB d dp).length else 0) t1;rw [List.append_nil] at this;rw [this,t2,cntM];simp
 unfold numM;rw [e,hc];simp only;rw [if_neg (by omega),if_neg (by omega)];rfl
theorem dg_digitB (n : Nat) : ∀ b ∈ dg n,digitB b = true := fun b hb => decide_eq_true (dg_digits n b hb)
theorem ffD_digits (hi lo : Nat → Nat) (M : Nat) (X : Int) : ∀ b ∈ (ffD hi lo M X).1,digitB b = true := by
 unfold ffD;simp only;split
 · intro b hb;simp at hb
 split
 · split
   · split
     · intro b hb;simp at hb
     exact dg_digitB _
   intro b hb;simp at hb
 exact dg_digitB _
theorem ffD_dp (hi lo : Nat → Nat) {M : Nat} {X : Int} (hM : M < 9007199254740992) (hX : X ≤ 46) (hlt : M < 100000000000000 * 2 ^ (52 - X).toNat) : (ffD hi lo M X).2 ≤ 14 := by
 unfold ffD;simp only;by_cases h0 : M = 0
 · rw [if_pos h0];decide
 rw [if_neg h0];split
 · split
   · split
     · show (0 : Int) ≤ 14;omega
     show ((nd (fvF hi lo M X) : Int) - fpF hi lo M X) ≤ 14;have h1 : nd (fvF hi lo M X) ≤ 19 := nd_le (Nat.lt_of_lt_of_le (rndN_lt _) (by decide));have h2 : 11 ≤ fpF hi lo M X := fxP_ge _ _ _ _ _ _;omega
   show (0 : Int) ≤ 14;omega
 obtain ⟨k,hk⟩ : ∃ k,k = (52 - X).toNat := ⟨_,rfl⟩;rw [← hk] at hlt ⊢;obtain ⟨z,hz,hzn⟩ := strip_nd h0;have h5 : strip M * 5 ^ k ≠ 0 := mul5_ne (strip_ne h0) k
 have e1 : nd (M * 5 ^ k) = nd (strip M * 5 ^ k) + z := by
  have : M * 5 ^ k = strip M * 5 ^ k * 10 ^ z := by
   have : M * 5 ^ k = (strip M * 10 ^ z) * 5 ^ k := by rw [← hz]
   rw [this,Nat.mul_assoc,Nat.mul_comm (10 ^ z),← Nat.mul_assoc]
  rw [this,nd_pow h5]
 have hdp : dpR (strip M) (nd M) k = (nd (M * 5 ^ k) : Int) - k := by unfold dpR;omega
 have hnd : nd (M * 5 ^ k) ≤ 14 + k := by
  refine nd_le ?_
  have e : (10 : Nat) ^ (14 + k) = 100000000000000 * 2 ^ k * 5 ^ k := by
   rw [Nat.pow_add,show (10 : Nat) = 2 * 5 by rfl,Nat.mul_pow 2 5 k,← Nat.mul_assoc]
  rw [e];exact Nat.mul_lt_mul_of_pos_right hlt (Nat.pow_pos (by decide))
 rw [hdp];obtain ⟨D,hD⟩ : ∃ D,D = (nd (M * 5 ^ k) : Int) - k := ⟨_,rfl⟩;rw [← hD]
 have hsn : nd (shR (strip M) k) ≤ nd (M * 5 ^ k) := by
  have := strip_nd_le h5;unfold shR;omega
 have hD14 : D ≤ 14 := by omega
 unfold rnP;split
 · exact hD14
 rename_i hr
 have hup : nd (rnM (shR (strip M) k) (D + 12).toNat) ≤ (D + 12).toNat + 1 := by
  unfold rnM;have hle : (D + 12).toNat ≤ nd (shR (strip M) k) := by omega
  have hb : shR (strip M) k / 10 ^ (nd (shR (strip M) k) - (D + 12).toNat) < 10 ^ (D + 12).toNat := by
   rw [Nat.div_lt_iff_lt_mul (Nat.pow_pos (by decide)),← Nat.pow_add];have := nd_lt (shR (strip M) k);rw [show (D + 12).toNat + (nd (shR (strip M) k) - (D + 12).toNat) = nd (shR (strip M) k) by omega];exact this
  refine nd_le ?_;have : (10 : Nat) ^ ((D + 12).toNat + 1) = 10 * 10 ^ (D + 12).toNat := by rw [Nat.pow_succ,Nat.mul_comm]
  have hp : 0 < 10 ^ (D + 12).toNat := Nat.pow_pos (by decide);rw [this];split <;> omega
 rcases (by omega : D < 14 ∨ 14 ≤ D) with hlt14 | hge14
 · omega
 exfalso;have hD' : D = 14 := by omega
 have hn2 : nd (M * 5 ^ k) = 14 + k := by omega
 have hk9 : k ≤ 9 := by
  refine Nat.le_of_not_lt fun hk10 => ?_
  have hge := nd_ge (M * 5 ^ k) (mul5_ne h0 k);rw [hn2] at hge
  have e : (10 : Nat) ^ (14 + k) = 10 * (10000000000000 * 2 ^ k * 5 ^ k) := by
   rw [Nat.pow_add,show (10 : Nat) ^ k = 2 ^ k * 5 ^ k by rw [← Nat.mul_pow]];rw [show (10 : Nat) ^ 14 = 10 * 10000000000000 by rfl,Nat.mul_assoc,← Nat.mul_assoc 10000000000000]
  rw [e] at hge;have h1 : 10000000000000 * 2 ^ k * 5 ^ k ≤ M * 5 ^ k := by omega
  have h2 : 10000000000000 * 2 ^ k ≤ M := Nat.le_of_mul_le_mul_right h1 (Nat.pow_pos (by decide));have h3 : 2 ^ 10 ≤ 2 ^ k := Nat.pow_le_pow_right (by decide) (by omega);omega
 rw [hD'] at hr;omega
theorem ffB_real (hi lo : Nat → Nat) (b : Nat) (hM : feM b < 9007199254740992) (hX : feX b ≤ 46) (hlt : feM b < 100000000000000 * 2 ^ (52 - feX b).toNat) : numM (ffB hi lo b) = .real :=
 fmt_real (ffD_digits _ _ _ _) (ffD_dp hi lo hM hX hlt) _
theorem read_fin {b : Nat} (h : b < 18446744073709551616) (hE : feE b ≠ 2047) : FloatKind.f64.format.read b = .number (decide (b / 9223372036854775808 ≠ 0)) (feM b) (feX b - 52) := by
 have e1 : FloatKind.f64.format.signWeight = 9223372036854775808 := by rfl
 have e2 : FloatKind.f64.format.binade = 4503599627370496 := by rfl
 have e3 : FloatKind.f64.format.infRung = 9218868437227405312 := by rfl
 have e4 : FloatKind.f64.format.leastPlace = -1074 := by rfl
 unfold Ieee.Format.read;simp only [e1,e2,e3,e4];unfold feM feX;unfold feE at hE ⊢
 have hs : (b / 9223372036854775808 % 2 == 1) = decide (b / 9223372036854775808 ≠ 0) := by
  by_cases h0 : b / 9223372036854775808 = 0
  · rw [h0];rfl
  rw [decide_eq_true h0,beq_iff_eq];omega
 rw [hs];by_cases h0 : b % 9223372036854775808 < 4503599627370496
 · rw [if_pos h0,if_pos (by omega),if_pos (by omega)];rw [show b % 9223372036854775808 = b % 4503599627370496 by omega];rfl
 rw [if_neg h0,if_pos (by omega),if_neg (by omega),if_neg (by omega)];rw [show 4503599627370496 + b % 9223372036854775808 % 4503599627370496 = b % 4503599627370496 + 4503599627370496 by omega];congr 1;omega
theorem read_end {b : Nat} (h : b < 18446744073709551616) (hE : feE b = 2047) : (∃ s,FloatKind.f64.format.read b = .infinity s) ∨ ∃ s f,FloatKind.f64.format.read b = .nan s f := by
 have e1 : FloatKind.f64.format.signWeight = 9223372036854775808 := by rfl
 have e2 : FloatKind.f64.format.binade = 4503599627370496 := by rfl
 have e3 : FloatKind.f64.format.infRung = 9218868437227405312 := by rfl
 unfold Ieee.Format.read;simp only [e1,e2,e3];unfold feE at hE;rw [if_neg (by omega),if_neg (by omega)];split
 · exact .inl ⟨_,rfl⟩
 exact .inr ⟨_,_,rfl⟩
theorem sub_fin {b : Nat} (h : b < 18446744073709551616) (hE : feE b ≠ 2047) : FloatKind.f64.format.sub b b = some 0 := by
 unfold Ieee.Format.sub;rw [read_fin h hE];generalize decide (b / 9223372036854775808 ≠ 0) = s;generalize feM b = m;generalize feX b - 52 = i;show Option.map _ (some (Ieee.Datum.number (if Ieee.signed s m (i - min i i).toNat + Ieee.signed (!s) m (i - min i i).toNat = 0 then s && !s else _) (Ieee.signed s m (i - min i i).toNat + Ieee.signed (!s) m (i - min i i).toNat).natAbs (min i i))) = _
 have e : Ieee.signed s m (i - min i i).toNat + Ieee.signed (!s) m (i - min i i).toNat = 0 := by
  cases s <;> simp [Ieee.signed] <;> omega
 rw [if_pos e,e];cases s <;> rfl
theorem sub_end {b : Nat} (h : b < 18446744073709551616) (hE : feE b = 2047) : FloatKind.f64.format.sub b b = none := by
 unfold Ieee.Format.sub;rcases read_end h hE with ⟨s,e⟩ | ⟨s,f,e⟩
 · rw [e];cases s <;> rfl
 rw [e];rfl
def in14 (b : Nat) : Bool := decide (feE b ≠ 2047) && !(FloatKind.f64.format.order b 4816244402031689728 == some .gt || FloatKind.f64.format.order b 4816244402031689728 == some .eq) && !(FloatKind.f64.format.order b 14039616438886465536 == some .lt || FloatKind.f64.format.order b 14039616438886465536 == some .eq)
theorem in14_bound {b : Nat} (hb : b < 18446744073709551616) (h : in14 b = true) : feE b ≤ 1069 ∧ feM b < 100000000000000 * 2 ^ (52 - feX b).toNat := by
 unfold in14 at h;rw [Bool.and_eq_true,Bool.and_eq_true,decide_eq_true_eq,Bool.not_eq_true',Bool.not_eq_true',Bool.or_eq_false_iff,Bool.or_eq_false_iff] at h;obtain ⟨⟨hE,h1,h2⟩,h3,h4⟩ := h;have r1 : FloatKind.f64.format.read 4816244402031689728 = .number false 6400000000000000 (-6) := by decide +kernel
 have r2 : FloatKind.f64.format.read 14039616438886465536 = .number true 6400000000000000 (-6) := by decide +kernel
 unfold Ieee.Format.order at h1 h2 h3 h4;rw [read_fin hb hE,r1] at h1 h2;rw [read_fin hb hE,r2] at h3 h4;have hs := decide (b / 9223372036854775808 ≠ 0);simp only [Ieee.Datum.order] at h1 h2 h3 h4;have hX : feX b = (if feE b = 0 then 1 else (feE b : Int)) - 1023 := rfl;have hM : feM b = if feE b = 0 then b % 4503599627370496 else b % 4503599627370496 + 4503599627370496 := rfl
 have hE2 : feE b < 2048 := by unfold feE;omega
 generalize decide (b / 9223372036854775808 ≠ 0) = s at h1 h2 h3 h4
 have cmp : ∀ (x y : Int),(some (compare x y) == some Ordering.gt) = false → (some (compare x y) == some Ordering.eq) = false → x < y := by
  intro x y a c;rcases Int.lt_trichotomy x y with h | h | h
  · exact h
  · rw [Int.compare_eq_eq.2 h] at c;cases c
  rw [Int.compare_eq_gt.2 h] at a;cases a
 have cmp2 : ∀ (x y : Int),(some (compare x y) == some Ordering.lt) = false → (some (compare x y) == some Ordering.eq) = false → y < x := by
  intro x y a c;rcases Int.lt_trichotomy x y with h | h | h
  · rw [Int.compare_eq_lt.2 h] at a;cases a
  · rw [Int.compare_eq_eq.2 h] at c;cases c
  exact h
 have a1 := cmp _ _ h1 h2;have a2 := cmp2 _ _ h3 h4;clear h1 h2 h3 h4 cmp cmp2
 have key : feM b * 2 ^ (feX b - 52 - min (feX b - 52) (-6)).toNat < 6400000000000000 * 2 ^ (-6 - min (feX b - 52) (-6)).toNat := by
  unfold Ieee.signed at a1 a2;simp only [Nat.shiftLeft_eq,Bool.false_eq_true,if_false,if_true] at a1 a2;cases s
  · simp only [Bool.false_eq_true,if_false] at a1
    exact_mod_cast a1
  simp only [if_true] at a2;have : ((feM b * 2 ^ (feX b - 52 - min (feX b - 52) (-6)).toNat : Nat) : Int) < ((6400000000000000 * 2 ^ (-6 - min (feX b - 52) (-6)).toNat : Nat) : Int) := by omega
  exact_mod_cast this
 by_cases hle : feX b ≤ 46
 · refine ⟨by split at hX <;> omega,?_⟩;rw [show min (feX b - 52) (-6) = feX b - 52 by omega] at key;rw [show (feX b - 52 - (feX b - 52)).toNat = 0 by omega,show (-6 - (feX b - 52)).toNat = (46 - feX b).toNat by omega] at key;rw [show (52 - feX b).toNat = 6 + (46 - feX b).toNat by omega,Nat.pow_add,← Nat.mul_assoc];omega
 exfalso;rw [show min (feX b - 52) (-6) = -6 by omega] at key;rw [show ((-6 : Int) - -6).toNat = 0 by omega] at key;have hne : feE b ≠ 0 := by intro h0;rw [if_pos h0] at hX;omega
 rw [if_neg hne] at hM;obtain ⟨j,hj⟩ : ∃ j,(feX b - 52 - -6).toNat = j + 1 := ⟨(feX b - 52 - -6).toNat - 1,by omega⟩;rw [hj,Nat.pow_succ] at key;have : 0 < 2 ^ j := Nat.two_pow_pos j;have h2 : feM b * 2 ≤ feM b * (2 ^ j * 2) := Nat.mul_le_mul_left _ (by omega);omega
theorem feM_lt (b : Nat) : feM b < 9007199254740992 := by
 unfold feM;have : b % 4503599627370496 < 4503599627370496 := Nat.mod_lt _ (by decide);split <;> omega
theorem ffB_shape (hi lo : Nat → Nat) {b : Nat} (hb : b < 18446744073709551616) (h : in14 b = true) : numM (ffB hi lo b) = .real := by
 obtain ⟨h1,h2⟩ := in14_bound hb h;exact ffB_real hi lo b (feM_lt b) (by unfold feX;split <;> omega) h2
end Go.Proofs.YtcpijmbdibgdmaaGreatDoor
namespace Go.Proofs.YtcpijmbdibgdmaaGreatDoor
open Go.RowKit
attribute [local go_sem] ba_get store_flt
structure FFW (hi lo : Nat → Nat) (W0 : World) : Prop where
 tab : ∀ i,i < 696 → W0.cell? ⟨22,i * 2,none⟩ = some (.int .u64 (hi i)) ∧ W0.cell? ⟨22,i * 2 + 1,none⟩ = some (.int .u64 (lo i))
 lt : ∀ i,i < 696 → hi i < 18446744073709551616 ∧ lo i < 18446744073709551616
 pw : ∀ i,i < 20 → W0.cell? ⟨10,i,none⟩ = some (.int .u64 ((10 ^ i : Nat) : Int))
 ten : ∀ w',Below W0.heap.size W0 w' → Lib.TabIs Tryz.prog w' "internal/strconv.uint64pow10" .u64 Lib.pow10Tab
 opt : W0.cell? ⟨9,0,none⟩ = some (.bool true)
 h22 : 22 < W0.heap.size
theorem ftoa_any {hi lo : Nat → Nat} {W0 : World} (hF : FFW hi lo W0) (b B : Nat) (v0 : Value) (w : World) (hW : Below W0.heap.size W0 w) (hb64 : b < 18446744073709551616) (hE : feE b ≤ 1069) (hO : Own w B v0 []) (hB : B ≤ w.heap.size) (hB0 : W0.heap.size ≤ B) :
 Calls Tryz.prog 123 #[v0,.float .f64 b,.int .u8 102,.int .i64 12] w fun e w' => ∃ v',e = .returned v' ∧ FS w w' B v0 v' (ffB hi lo b) := by
 by_cases h0 : feM b = 0
 · exact ftoa_zero hi lo b B v0 W0 w hF.tab hF.lt hF.pw hF.ten hF.opt hF.h22 hW hb64 hE hO hB hB0 h0
 by_cases hX : 0 ≤ feX b
 · by_cases hn : ndF (feX b) ≤ 18
   · exact ftoa_pos hi lo b B v0 W0 w hF.tab hF.lt hF.pw hF.ten hF.opt hF.h22 hW hb64 hE hO hB hB0 ⟨h0,hX,hn⟩
   exact ftoa_big hi lo b B v0 W0 w hF.tab hF.lt hF.pw hF.ten hF.opt hF.h22 hW hb64 hE hO hB hB0 ⟨h0,hX,by omega⟩
 · by_cases hn : 0 < ndF (feX b)
   · exact ftoa_neg hi lo b B v0 W0 w hF.tab hF.lt hF.pw hF.ten hF.opt hF.h22 hW hb64 hE hO hB hB0 ⟨h0,by omega,hn⟩
   exact ftoa_small hi lo b B v0 W0 w hF.tab hF.lt hF.pw hF.ten hF.opt hF.h22 hW hb64 hE hO hB hB0 ⟨h0,by omega,by omega⟩
theorem own_made (w : World) (cs : Array Value) (hc : cs.size = 24) : Own (w.alloc (.cells cs 5)) w.heap.size (.slice (some ⟨w.heap.size,0,none⟩) 0 24) [] := by
 refine ⟨rfl,.inr ⟨w.heap.size,24,cs,rfl,Nat.le_refl _,heap_alloc_new _ _,by decide,by unfold maxLen;decide,by rw [hc],by simp⟩⟩
theorem fmt64_any {hi lo : Nat → Nat} {W0 : World} (hF : FFW hi lo W0) (b : Nat) (w : World) (hW : Below W0.heap.size W0 w) (hb64 : b < 18446744073709551616) (hE : feE b ≤ 1069) :
 Calls Tryz.prog 102 #[.float .f64 b,.int .u8 102,.int .i64 12,.int .i64 64] w fun e w' => e = .returned (S (ffB hi lo b)) ∧ Below w.heap.size w w' := by
 have hcall := fun (w1 : World) (h1 : Below W0.heap.size W0 w1) (v0 : Value) (B : Nat) (hO : Own w1 B v0 []) (hB : B ≤ w1.heap.size) (hB0 : W0.heap.size ≤ B) => ftoa_any hF b B v0 w1 h1 hb64 hE hO hB hB0
 have HC := Lib.hid hcall;have HW := Lib.hid hW;obtain ⟨t,ht⟩ : ∃ t,t = ffB hi lo b := ⟨_,rfl⟩;rw [← ht] at HC ⊢;have hmk : ∀ w : World,(Instr.makeSlice 40 (.int .i64 0) (.int .i64 (max 16 24))).run Tryz.prog w = .ok (.slice (some ⟨w.heap.size,0,none⟩) 0 24) (w.alloc (.cells (Array.replicate 24 (.int .u8 0)) 5)) := fun w => by kernel_rfl
 clear hcall hW hE ht;go_enter Tryz.func102,Tryz.ntmps102;go_wp2_with fail;have hsz := HW.out.size;refine Calls.mono (HC.out _ ((HW.out.alloc HW.out.size _)) _ w.heap.size (own_made w _ ?c1) ?c2 hsz) ?_
 case c1 => simp
 case c2 => simp
 rintro e w1 ⟨v',rfl,hf⟩;have hcv : (convert 40 9 v').run Tryz.prog w1 = .ok (S t) w1 := run_str_own hf.own
 have hB : Below w.heap.size w w1 := by
  have hg := hf.gr;refine ⟨hg.os,hg.tape,hg.output,by have := hg.size;simp at this;omega,fun k hk => ?_⟩;exact (hg.block k (by simp;omega) (fun e => by injection e with e;simp only at e;omega)).trans (Below.heap_alloc w _ k hk)
 clear hf;go_wp2_with fail;go_ret;exact ⟨rfl,hB⟩
theorem ffmt_any {hi lo : Nat → Nat} {W0 : World} (hF : FFW hi lo W0) (b : Nat) (w : World) (hW : Below W0.heap.size W0 w) (hb64 : b < 18446744073709551616) (hE : feE b ≤ 1069) :
 Calls Tryz.prog 85 #[.float .f64 b,.int .u8 102,.int .i64 12,.int .i64 64] w fun e w' => e = .returned (S (ffB hi lo b)) ∧ Below w.heap.size w w' := by
 have hcall := fmt64_any hF b w hW hb64 hE;have HC := Lib.hid hcall;clear hcall hW hE;go_enter Tryz.func85,Tryz.ntmps85;go_wp2_with fail;refine HC.out.mono ?_;rintro e w1 ⟨rfl,hB⟩;go_wp2_with fail;go_ret;exact ⟨rfl,hB⟩
theorem nan_order (t : Nat) : FloatKind.f64.format.order (Question.cut (.nanBits .f64 0 0) t) 0 = none := by
 obtain ⟨x,hx⟩ : ∃ x,x = Question.cut (.nanBits .f64 0 0) t := ⟨_,rfl⟩;have hv : x = (t % 2) * 2 ^ 63 + 0x7ff0000000000000 + 1 + (t / 2) % (2 ^ 52 - 1) := hx;rw [← hx];have h2 : t % 2 < 2 := Nat.mod_lt _ (by decide);have h3 : t / 2 % (2 ^ 52 - 1) < 2 ^ 52 - 1 := Nat.mod_lt _ (by decide);generalize t % 2 = s at *;generalize t / 2 % (2 ^ 52 - 1) = m at *;have e1 : FloatKind.f64.format.signWeight = 9223372036854775808 := by rfl
 have e2 : FloatKind.f64.format.binade = 4503599627370496 := by rfl
 have e3 : FloatKind.f64.format.infRung = 9218868437227405312 := by rfl
 have hr : ∃ a b,FloatKind.f64.format.read x = .nan a b := by
  unfold Ieee.Format.read;simp only [e1,e2,e3];rw [if_neg (by omega),if_neg (by omega),if_neg (by omega)];exact ⟨_,_,rfl⟩
 obtain ⟨a,b,hr⟩ := hr;unfold Ieee.Format.order;rw [hr];rfl
theorem run_sub_nan (b : Nat) (hb : b < 18446744073709551616) (hE : feE b = 2047) (w : World) : ∃ x,FloatKind.f64.format.order x 0 = none ∧ (binOp .sub 24 (.float .f64 b) (.float .f64 b)).run Tryz.prog w = .ok (.float .f64 x) w.drew := by
 have hs := sub_end hb hE;refine ⟨Question.cut (.nanBits .f64 0 0) (w.tape w.drawn (.nanBits .f64 b b)),nan_order _,?_⟩;simp [binOp,Op.floatArith,hs,choose,Sem.run,Question.forced];rfl
def twB (hi lo : Nat → Nat) (pf : List UInt8 → Nat) (b : Nat) : Bool := in14 b && (FloatKind.f64.format.order (pf (ffB hi lo b)) b == some .eq)
def PFAll (pf : List UInt8 → Nat) (W0 : World) : Prop := ∀ (t : List UInt8) (w : World),numM t = .real → Below W0.heap.size W0 w →
 Calls Tryz.prog 84 #[S t,.int .i64 64] w fun e w' => e = .returned (.tuple #[.float .f64 (pf t),.nilIface]) ∧ Below w.heap.size w w'
theorem twelve_end (b : Nat) (w : World) (hb : b < 18446744073709551616) (hE : feE b = 2047) :
 Calls Tryz.prog 54 #[.float .f64 b] w fun e w' => e = .returned (.bool false) ∧ Below w.heap.size w w' := by
 obtain ⟨x,hx,hrun⟩ := run_sub_nan b hb hE w;have hx2 : (FloatKind.f64.format.order x 0 != some .eq) = true := by rw [hx];rfl
 clear hE;go_enter Tryz.func54,Tryz.ntmps54;go_wp2_with fail;go_ret;exact ⟨rfl,below_drewN (Below.refl _ w) 1⟩
theorem twelve_out (b : Nat) (w : World) (hb : b < 18446744073709551616) (hE : feE b ≠ 2047) (h : in14 b = false) :
 Calls Tryz.prog 54 #[.float .f64 b] w fun e w' => e = .returned (.bool false) ∧ Below w.heap.size w w' := by
 have hs : floatBits .sub .f64 b b = some 0 := by unfold floatBits;exact sub_fin hb hE
 have hrun := fun w : World => run_float_arith (P := Tryz.prog) w .sub 24 .f64 b b 0 hs
 have h00 : FloatKind.f64.format.order 0 0 = some .eq := by decide +kernel
 unfold in14 at h;rw [decide_eq_true hE,Bool.true_and] at h;clear hs hE
 cases h1 : FloatKind.f64.format.order b 4816244402031689728 with
 | none =>
   cases h2 : FloatKind.f64.format.order b 14039616438886465536 with
   | none => rw [h1,h2] at h;cases h
   | some c =>
     cases c <;> (rw [h1,h2] at h;first | (cases h;done) | (clear h;go_enter Tryz.func54,Tryz.ntmps54;go_wp2_with fail;go_ret;exact ⟨rfl,Below.refl _ w⟩))
 | some d =>
   cases d with
   | lt =>
     cases h2 : FloatKind.f64.format.order b 14039616438886465536 with
     | none => rw [h1,h2] at h;cases h
     | some c =>
       cases c <;> (rw [h1,h2] at h;first | (cases h;done) | (clear h;go_enter Tryz.func54,Tryz.ntmps54;go_wp2_with fail;go_ret;exact ⟨rfl,Below.refl _ w⟩))
   | eq =>
     clear h;go_enter Tryz.func54,Tryz.ntmps54;go_wp2_with fail;go_ret;exact ⟨rfl,Below.refl _ w⟩
   | gt =>
     clear h;go_enter Tryz.func54,Tryz.ntmps54;go_wp2_with fail;go_ret;exact ⟨rfl,Below.refl _ w⟩
theorem twelve_in {hi lo : Nat → Nat} {pf : List UInt8 → Nat} {W0 : World} (hF : FFW hi lo W0) (hP : PFAll pf W0) (b : Nat) (w : World) (hW : Below W0.heap.size W0 w) (hb : b < 18446744073709551616) (h : in14 b = true) :
 Calls Tryz.prog 54 #[.float .f64 b] w fun e w' => e = .returned (.bool (FloatKind.f64.format.order (pf (ffB hi lo b)) b == some .eq)) ∧ Below w.heap.size w w' := by
 obtain ⟨hE,_⟩ := in14_bound hb h;have hfm := fun w' (h : Below W0.heap.size W0 w') => ffmt_any hF b w' h hb hE
 have hpc := fun w' (h1 : Below W0.heap.size W0 w') => hP (ffB hi lo b) w' (ffB_shape hi lo hb h) h1
 obtain ⟨t,ht⟩ : ∃ t,t = ffB hi lo b := ⟨_,rfl⟩;rw [← ht] at hfm hpc ⊢;clear ht;obtain ⟨g,hg⟩ : ∃ g,g = pf t := ⟨_,rfl⟩;rw [← hg] at hpc ⊢;clear hg;have hE' : feE b ≠ 2047 := by omega
 have hs : floatBits .sub .f64 b b = some 0 := by unfold floatBits;exact sub_fin hb hE'
 have hrun := fun w : World => run_float_arith (P := Tryz.prog) w .sub 24 .f64 b b 0 hs
 have h00 : FloatKind.f64.format.order 0 0 = some .eq := by decide +kernel
 unfold in14 at h;rw [decide_eq_true hE',Bool.true_and,Bool.and_eq_true,Bool.not_eq_true',Bool.not_eq_true',Bool.or_eq_false_iff,Bool.or_eq_false_iff] at h;obtain ⟨⟨h1,h2⟩,h3,h4⟩ := h;have HF := Lib.hid hfm;have HPc := Lib.hid hpc;have HW := Lib.hid hW;clear hs hE hE' hfm hpc hW;go_enter Tryz.func54,Tryz.ntmps54;go_wp2_with fail;refine (HF.out w HW.out).mono ?_;rintro e w1 ⟨rfl,hB1⟩;have hW1 : Below W0.heap.size W0 w1 := HW.out.trans (hB1.mono HW.out.size);go_wp2_with fail;refine (HPc.out w1 hW1).mono ?_;rintro e w2 ⟨rfl,hB2⟩;have hB3 := hB1.trans (hB2.mono hB1.size);clear hB1 hB2 hW1;clear hrun;go_wp2_with fail
 all_goals
  go_ret;exact ⟨rfl,hB3⟩
theorem twelve_any {hi lo : Nat → Nat} {pf : List UInt8 → Nat} {W0 : World} (hF : FFW hi lo W0) (hP : PFAll pf W0) (b : Nat) (w : World) (hW : Below W0.heap.size W0 w) (hb : b < 18446744073709551616) :
 Calls Tryz.prog 54 #[.float .f64 b] w fun e w' => e = .returned (.bool (twB hi lo pf b)) ∧ Below w.heap.size w w' := by
 unfold twB
 cases h : in14 b with
 | true => rw [Bool.true_and];exact twelve_in hF hP b w hW hb h
 | false =>
   rw [Bool.false_and];by_cases hE : feE b = 2047
   · exact twelve_end b w hb hE
   exact twelve_out b w hb hE h
end Go.Proofs.YtcpijmbdibgdmaaGreatDoor
