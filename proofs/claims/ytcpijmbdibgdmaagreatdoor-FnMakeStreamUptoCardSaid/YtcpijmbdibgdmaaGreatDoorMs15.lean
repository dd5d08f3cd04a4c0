/-
  internal/strconv: atof64 of a decimal number with a point.
  spec: nameable, Signed.
  spec.LiteralBytes, spec.HexBytes.
  internal/strconv: ftoa64 at %f and twelve digits: many digits.
-/
import Derived.Test.YtcpijmbdibgdmaaGreatDoorMs13
import Derived.Test.YtcpijmbdibgdmaaGreatDoorMs14
set_option linter.all false
set_option maxHeartbeats 16000000
set_option maxRecDepth 100000
namespace Go.Proofs.YtcpijmbdibgdmaaGreatDoor
open Go.RowKit
attribute [local go_sem] ba_get store_flt
structure PW (fv hi lo : Nat → Nat) (lb lo' lc pb po pc fb fo fc : Nat) (w : World) : Prop where
 fi : FI lb lo' lc pb po pc w
 fp : FP fv fb fo fc w
 tab : ∀ i,i < 696 → w.cell? ⟨22,i * 2,none⟩ = some (.int .u64 (hi i)) ∧ w.cell? ⟨22,i * 2 + 1,none⟩ = some (.int .u64 (lo i))
 num : ∀ i,i < 696 → hi i < 18446744073709551616 ∧ lo i < 18446744073709551616
 opt : w.cell? ⟨9,0,none⟩ = some (.bool true)
 h24 : 24 < w.heap.size
 hlb : lb < w.heap.size
 hpb : pb < w.heap.size
 hfb : fb < w.heap.size
def negB (t : List UInt8) : Bool := match t with | [] => false | b :: _ => decide (b.toNat = 45)
def sgnI (neg : Bool) : Int := if neg then 9223372036854775808 else 0
def fEq (a b : Nat) : Bool := FloatKind.f64.format.order a b == some .eq
def cvF (fv hi lo : Nat → Nat) (s : RFS) (N : Nat) (neg : Bool) : Nat :=
 if s.m = 0 then (sgnI neg).toNat
 else if s.tr = false then match exG fv s.m (expF s) (f0F s.m neg) with | some f => f | none => pf64F hi lo s.m (expF s + 348).toNat (sgnI neg)
 else if fEq (pf64F hi lo s.m (expF s + 348).toNat (sgnI neg)) (pf64F hi lo (s.m + 1) (expF s + 348).toNat (sgnI neg)) = true then pf64F hi lo s.m (expF s + 348).toNat (sgnI neg)
 else (fbF N s.dp neg).toNat
def atF (fv hi lo : Nat → Nat) (t : List UInt8) : Nat := cvF fv hi lo (rfL RFS.zero (unsign t)) (nL 0 (unsign t)) (negB t)
theorem FP.below {fv : Nat → Nat} {fb fo fc : Nat} {w w' : World} (h : FP fv fb fo fc w) {B : Nat} (hB : Below B w w') (h1 : fb < B) (h2 : 22 < B) : FP fv fb fo fc w' where
 c17 := (hB.cell (p := ⟨17,0,none⟩) (by show 17 < B;omega)).trans h.c17
 c21 := (hB.cell (p := ⟨21,0,none⟩) (by show 21 < B;omega)).trans h.c21
 cv := fun j a => (hB.cell (p := ⟨fb,fo + j,none⟩) h1).trans (h.cv j a)
 pn := h.pn
theorem sign_of (t : List UInt8) : ∃ i0,unsign t = t.drop i0 ∧ ((i0 = 0 ∧ negB t = false ∧ ∀ h : 0 < t.length,t[0].toNat ≠ 43 ∧ t[0].toNat ≠ 45) ∨ (i0 = 1 ∧ ∃ h : 0 < t.length,(negB t = true ∧ t[0].toNat = 45 ∨ negB t = false ∧ t[0].toNat = 43))) := by
 cases t with
 | nil => exact ⟨0,rfl,.inl ⟨rfl,rfl,fun h => by simp at h⟩⟩
 | cons b l =>
   by_cases h45 : b.toNat = 45
   · exact ⟨1,by rw [unsign,if_pos (.inr h45)];rfl,.inr ⟨rfl,by simp,.inl ⟨by simp [negB,h45],h45⟩⟩⟩
   by_cases h43 : b.toNat = 43
   · exact ⟨1,by rw [unsign,if_pos (.inl h43)];rfl,.inr ⟨rfl,by simp,.inr ⟨by simp [negB,h45],h43⟩⟩⟩
   exact ⟨0,by rw [unsign,if_neg (by omega)];rfl,.inl ⟨rfl,by simp [negB,h45],fun _ => ⟨h43,h45⟩⟩⟩
theorem cnt_len : ∀ (l : List UInt8) (d p a d' p' a' : Nat),cntM l d p a = some (d',p',a') → l.length + d + p = d' + p'
 | [],d,p,a,d',p',a',h => by
   simp only [cntM,Option.some.injEq,Prod.mk.injEq] at h;obtain ⟨rfl,rfl,rfl⟩ := h;simp
 | b :: l,d,p,a,d',p',a',h => by
   rw [cntM] at h;split at h
   · have := cnt_len l _ _ _ _ _ _ h;simp;omega
   split at h
   · have := cnt_len l _ _ _ _ _ _ h;simp;omega
   cases h
theorem real_len {t : List UInt8} (h : numM t = .real) : t.length ≤ 62 ∧ 0 < (unsign t).length := by
 have hu : t.length ≤ (unsign t).length + 1 := by
  cases t with
  | nil => simp
  | cons b l => rw [unsign];split <;> simp
 unfold numM at h;split at h
 · cases h
 rename_i d p a hc;have := cnt_len _ _ _ _ _ _ _ hc;split at h
 · cases h
 split at h
 · cases h
 omega
def Z242 : Array Value := DBc (List.replicate 800 0) 0 0 false false
theorem alloc242 (w : World) : (Instr.alloc 242 true (.tuple #[])).run Tryz.prog w = .ok (.pointer (some ⟨w.heap.size,0,none⟩)) (w.alloc (.cells Z242 242)) := by kernel_rfl
theorem db_new (w : World) : DB (w.alloc (.cells Z242 242)) w.heap.size (List.replicate 800 0) 0 0 false false := ⟨List.length_replicate,Blk.newAt w 242 _ _ rfl⟩
theorem at_core (fv hi lo : Nat → Nat) (lb lo' lc pb po pc fb fo fc : Nat) (t : List UInt8) (s : RFS) (N : Nat) (neg : Bool) (W0 w : World) (hP : PW fv hi lo lb lo' lc pb po pc fb fo fc W0) (hW : Below W0.heap.size W0 w) (hs : t.length ≤ 62)
 (hsp : ∀ w,Calls Tryz.prog 189 #[S t] w fun e w' => e = .returned (.tuple #[.float .f64 0,.int .i64 0,.bool false]) ∧ w = w')
 (hrf : ∀ w,Calls Tryz.prog 190 #[S t] w fun e w' => e = .returned (RFv s neg t.length) ∧ w = w')
 (hset : ∀ w p,DB w p (List.replicate 800 0) 0 0 false false → Calls Tryz.prog 196 #[.pointer (some ⟨p,0,none⟩),S t] w fun e w' => e = .returned (.bool true) ∧ (∃ arr',DB w' p arr' (nd N) s.dp neg false ∧ arr'.take (nd N) = dg N) ∧ Only w w' p)
 (hm : s.m < 10000000000000000000) (he : -79 ≤ expF s ∧ expF s ≤ 14) (hd : -60 ≤ s.dp ∧ s.dp ≤ 14) (hN : nd N ≤ 60) (hN0 : s.m ≠ 0 → N ≠ 0) :
 Calls Tryz.prog 151 #[S t] w fun e w' => e = .returned (.tuple #[.float .f64 (cvF fv hi lo s N neg),.int .i64 t.length,.nilIface]) ∧ Below w.heap.size w w' := by
 obtain ⟨m,hm'⟩ : ∃ m,m = s.m := ⟨_,rfl⟩;obtain ⟨e0,he'⟩ : ∃ e0,e0 = expF s := ⟨_,rfl⟩;obtain ⟨tr,htr⟩ : ∃ tr,tr = s.tr := ⟨_,rfl⟩;obtain ⟨d0,hd0⟩ : ∃ d0,d0 = s.dp := ⟨_,rfl⟩;have hR : RFv s neg t.length = .tuple #[.int .u64 m,.int .i64 e0,.bool neg,.bool tr,.bool false,.int .i64 t.length,.bool true] := by rw [hm',he',htr];rfl
 obtain ⟨i,hi'⟩ : ∃ i : Nat,i = (e0 + 348).toNat := ⟨_,rfl⟩
 have hC : cvF fv hi lo s N neg = if m = 0 then (sgnI neg).toNat else if tr = false then match exG fv m e0 (f0F m neg) with | some f => f | none => pf64F hi lo m i (sgnI neg)
  else if fEq (pf64F hi lo m i (sgnI neg)) (pf64F hi lo (m + 1) i (sgnI neg)) = true then pf64F hi lo m i (sgnI neg) else (fbF N d0 neg).toNat := by rw [hi',hm',he',htr,hd0];rfl
 rw [hC];rw [hR] at hrf;rw [← hm'] at hm hN0;rw [← he'] at he;rw [← hd0] at hd hset;have hei : e0 = (i : Int) - 348 := by omega
 have hp1 := fun w' (hB : Below w.heap.size w w') => pf64_any hi lo m i (sgnI neg) W0 w' hP.tab hP.num (by have := hP.h24;omega) (hW.trans (hB.mono hW.size)) (by omega) (by omega)
 have hp2 := fun w' (hB : Below w.heap.size w w') => pf64_any hi lo (m + 1) i (sgnI neg) W0 w' hP.tab hP.num (by have := hP.h24;omega) (hW.trans (hB.mono hW.size)) (by omega) (by omega)
 rw [← hei] at hp1 hp2;obtain ⟨a1,ha1⟩ : ∃ a1,a1 = pf64F hi lo m i (sgnI neg) := ⟨_,rfl⟩;obtain ⟨a2,ha2⟩ : ∃ a2,a2 = pf64F hi lo (m + 1) i (sgnI neg) := ⟨_,rfl⟩;rw [← ha1] at hp1 ⊢;rw [← ha2] at hp2 ⊢;have hfp : FP fv fb fo fc w := hP.fp.below hW hP.hfb (by have := hP.h24;omega);have hex := exact_any fb fo fc fv m e0 neg w hfp (by omega) (by omega);have c9 : w.cell? ⟨9,0,none⟩ = some (.bool true) := (hW.cell (p := ⟨9,0,none⟩) (by show 9 < _;have := hP.h24;omega)).trans hP.opt;have hfi := fun w' (hB : Below w.heap.size w w') => hP.fi.below (hW.trans (hB.mono hW.size)) hP.hlb hP.hpb (by have := hP.h24;omega)
 have hfloat := fun w' p arr' (hB : Below w.heap.size w w') (hp : w.heap.size ≤ p) (hD : DB w' p arr' (nd N) d0 neg false) (hta : arr'.take (nd N) = dg N) (h0 : N ≠ 0) => fb_any p N lb lo' lc pb po pc W0.heap.size arr' d0 neg w' (hfi w' hB) hP.hlb hP.hpb (by have := hP.h24;omega) (Nat.le_trans hW.size hp) (Nat.le_trans hW.size hB.size) hD h0 hN hta hd.1 hd.2
 obtain ⟨u,hu⟩ : ∃ u,u = fbF N d0 neg := ⟨_,rfl⟩;rw [← hu] at hfloat ⊢;have hal := alloc242;have hfb := frombits_run;have Hsp := Lib.hid hsp;have Hrf := Lib.hid hrf;have Hset := Lib.hid hset;have Hp1 := Lib.hid hp1;have Hp2 := Lib.hid hp2;have Hex := Lib.hid hex;have Hfl := Lib.hid hfloat;have HN0 := Lib.hid hN0;have hsl : (ByteArray.mk t.toArray).extract 0 t.length = ⟨t.toArray⟩ := by rw [ByteArray.extract_mk];simp
 clear hsp hrf hset hp1 hp2 hex hfloat hfi hfp hm' he' htr hd0 hR hi' hC hei ha1 ha2 hu hN0 hP;have hB0 := Below.refl w.heap.size w
 cases neg with
 | true =>
   have hb2 : b2F true = 1 := rfl;have hsg : (sgnI true) = 9223372036854775808 := rfl;rw [hsg] at Hp1 Hp2 ⊢;have ho : bits BinOp.or IntKind.u64 9223372036854775808 0 = 9223372036854775808 := by rfl
   clear hsg;by_cases hm0 : m = 0
   · subst hm0;clear hm he;go_enter Tryz.func151,Tryz.ntmps151;go_wp2_with fail;refine (Hsp.out _).mono ?_;rintro e w1 ⟨rfl,rfl⟩;go_wp2_with fail;refine (Hrf.out _).mono ?_;rintro e w1 ⟨rfl,rfl⟩;go_wp2_with fail;refine (b2u_any _ _).mono ?_;rintro e w1 ⟨rfl,rfl⟩;go_wp2_with fail;refine bodyPost_ret (v := .tuple #[.float .f64 9223372036854775808,.int .i64 t.length,.nilIface]) (by simp [results,Tryz.results151,go_sem]) rfl ?_;exact ⟨rfl,hB0⟩
   have tm : ((m : Int) == 0) = false := by rw [beq_eq_false_iff_ne];omega
   have te1 : decide (310 < e0) = false := by rw [decide_eq_false_iff_not];omega
   have te2 : decide (e0 < -345) = false := by rw [decide_eq_false_iff_not];omega
   rw [if_neg hm0];have HN := Lib.hid (HN0.out hm0);clear hm0 HN0
   cases tr with
   | false =>
     rw [if_pos rfl];clear Hp2 hal Hset;obtain ⟨xo,hxo⟩ : ∃ xo,xo = exG fv m e0 (f0F m true) := ⟨_,rfl⟩;rw [← hxo];have Hxo := Lib.hid hxo;clear hxo;obtain ⟨res,hres⟩ : ∃ res,res = (match xo with | some f => f | none => a1) := ⟨_,rfl⟩;rw [← hres];have Hres := Lib.hid hres;clear hres;go_enter Tryz.func151,Tryz.ntmps151;go_wp2_with fail;refine (Hsp.out _).mono ?_;rintro e w1 ⟨rfl,rfl⟩;go_wp2_with fail;refine (Hrf.out _).mono ?_;rintro e w1 ⟨rfl,rfl⟩;go_wp2_with fail;refine (b2u_any _ _).mono ?_;rintro e w1 ⟨rfl,rfl⟩;go_wp2_with fail;refine Hex.out.mono ?_;rintro e w1 ⟨⟨f,b,rfl,hx⟩,rfl⟩
     cases b with
     | true =>
       have er : res = f := by rw [Hres.out,Hxo.out,show exG fv m e0 (f0F m true) = some f from hx]
       subst er;clear hx;go_wp2_with fail;refine bodyPost_ret (v := .tuple #[.float .f64 res,.int .i64 t.length,.nilIface]) (by simp [results,Tryz.results151,go_sem]) rfl ?_;exact ⟨rfl,hB0⟩
     | false =>
       have er : res = a1 := by rw [Hres.out,Hxo.out,show exG fv m e0 (f0F m true) = none from hx]
       subst er;clear hx;go_wp2_with fail;refine (Hp1.out _ hB0).mono ?_;rintro e w2 ⟨rfl,hB2⟩;go_wp2_with fail;refine bodyPost_ret (v := .tuple #[.float .f64 res,.int .i64 t.length,.nilIface]) (by simp [results,Tryz.results151,go_sem]) rfl ?_;exact ⟨rfl,hB2⟩
   | true =>
     rw [if_neg (by decide)];clear Hex;obtain ⟨res,hres⟩ : ∃ res,res = (if fEq a1 a2 = true then a1 else u.toNat) := ⟨_,rfl⟩;rw [← hres];have Hres := Lib.hid hres;clear hres;go_enter Tryz.func151,Tryz.ntmps151;go_wp2_with fail;refine (Hsp.out _).mono ?_;rintro e w1 ⟨rfl,rfl⟩;go_wp2_with fail;refine (Hrf.out _).mono ?_;rintro e w1 ⟨rfl,rfl⟩;go_wp2_with fail;refine (b2u_any _ _).mono ?_;rintro e w1 ⟨rfl,rfl⟩;go_wp2_with fail;refine (Hp1.out _ hB0).mono ?_;rintro e w2 ⟨rfl,hB2⟩;go_wp2_with fail;refine (Hp2.out _ hB2).mono ?_;rintro e w3 ⟨rfl,hB3⟩;have hB3' := hB2.trans (hB3.mono hB2.size)
     cases hq : fEq a1 a2 with
     | true =>
       have tq : (FloatKind.f64.format.order a1 a2 == some .eq) = true := hq;have er : res = a1 := by rw [Hres.out,if_pos hq]
       subst er;clear hq;go_wp2_with fail;refine bodyPost_ret (v := .tuple #[.float .f64 res,.int .i64 t.length,.nilIface]) (by simp [results,Tryz.results151,go_sem]) rfl ?_;exact ⟨rfl,hB3'⟩
     | false =>
       have tq : (FloatKind.f64.format.order a1 a2 == some .eq) = false := hq;have er : res = u.toNat := by rw [Hres.out,if_neg (by rw [hq];decide)]
       subst er;clear hq;go_wp2_with fail;refine (Hset.out _ _ (db_new w3)).mono ?_;rintro e w5 ⟨rfl,⟨arr5,hD5,hta5⟩,hO5⟩;have hB4 : Below w.heap.size w (w3.alloc (.cells Z242 242)) := hB3'.alloc hB3'.size _;have hB5 : Below w.heap.size w w5 := below_only hB4 hO5 hB3'.size (Nat.le_refl _);go_wp2_with fail;refine (Hfl.out _ _ arr5 hB5 hB3'.size hD5 hta5 HN.out).mono ?_;rintro e w6 ⟨rfl,hO6⟩;have hB6 : Below w.heap.size w w6 := below_only hB5 hO6 hB3'.size (Nat.le_refl _);go_wp2_with fail;refine bodyPost_ret (v := .tuple #[.float .f64 u.toNat,.int .i64 t.length,.nilIface]) (by simp [results,Tryz.results151,go_sem]) rfl ?_;exact ⟨rfl,hB6⟩
 | false =>
   have hb2 : b2F false = 0 := rfl;have hsg : (sgnI false) = 0 := rfl;rw [hsg] at Hp1 Hp2 ⊢;have ho : bits BinOp.or IntKind.u64 0 0 = 0 := by rfl
   clear hsg;by_cases hm0 : m = 0
   · subst hm0;clear hm he;go_enter Tryz.func151,Tryz.ntmps151;go_wp2_with fail;refine (Hsp.out _).mono ?_;rintro e w1 ⟨rfl,rfl⟩;go_wp2_with fail;refine (Hrf.out _).mono ?_;rintro e w1 ⟨rfl,rfl⟩;go_wp2_with fail;refine (b2u_any _ _).mono ?_;rintro e w1 ⟨rfl,rfl⟩;go_wp2_with fail;refine bodyPost_ret (v := .tuple #[.float .f64 0,.int .i64 t.length,.nilIface]) (by simp [results,Tryz.results151,go_sem]) rfl ?_;exact ⟨rfl,hB0⟩
   have tm : ((m : Int) == 0) = false := by rw [beq_eq_false_iff_ne];omega
   have te1 : decide (310 < e0) = false := by rw [decide_eq_false_iff_not];omega
   have te2 : decide (e0 < -345) = false := by rw [decide_eq_false_iff_not];omega
   rw [if_neg hm0];have HN := Lib.hid (HN0.out hm0);clear hm0 HN0
   cases tr with
   | false =>
     rw [if_pos rfl];clear Hp2 hal Hset;obtain ⟨xo,hxo⟩ : ∃ xo,xo = exG fv m e0 (f0F m false) := ⟨_,rfl⟩;rw [← hxo];have Hxo := Lib.hid hxo;clear hxo;obtain ⟨res,hres⟩ : ∃ res,res = (match xo with | some f => f | none => a1) := ⟨_,rfl⟩;rw [← hres];have Hres := Lib.hid hres;clear hres;go_enter Tryz.func151,Tryz.ntmps151;go_wp2_with fail;refine (Hsp.out _).mono ?_;rintro e w1 ⟨rfl,rfl⟩;go_wp2_with fail;refine (Hrf.out _).mono ?_;rintro e w1 ⟨rfl,rfl⟩;go_wp2_with fail;refine (b2u_any _ _).mono ?_;rintro e w1 ⟨rfl,rfl⟩;go_wp2_with fail;refine Hex.out.mono ?_;rintro e w1 ⟨⟨f,b,rfl,hx⟩,rfl⟩
     cases b with
     | true =>
       have er : res = f := by rw [Hres.out,Hxo.out,show exG fv m e0 (f0F m false) = some f from hx]
       subst er;clear hx;go_wp2_with fail;refine bodyPost_ret (v := .tuple #[.float .f64 res,.int .i64 t.length,.nilIface]) (by simp [results,Tryz.results151,go_sem]) rfl ?_;exact ⟨rfl,hB0⟩
     | false =>
       have er : res = a1 := by rw [Hres.out,Hxo.out,show exG fv m e0 (f0F m false) = none from hx]
       subst er;clear hx;go_wp2_with fail;refine (Hp1.out _ hB0).mono ?_;rintro e w2 ⟨rfl,hB2⟩;go_wp2_with fail;refine bodyPost_ret (v := .tuple #[.float .f64 res,.int .i64 t.length,.nilIface]) (by simp [results,Tryz.results151,go_sem]) rfl ?_;exact ⟨rfl,hB2⟩
   | true =>
     rw [if_neg (by decide)];clear Hex;obtain ⟨res,hres⟩ : ∃ res,res = (if fEq a1 a2 = true then a1 else u.toNat) := ⟨_,rfl⟩;rw [← hres];have Hres := Lib.hid hres;clear hres;go_enter Tryz.func151,Tryz.ntmps151;go_wp2_with fail;refine (Hsp.out _).mono ?_;rintro e w1 ⟨rfl,rfl⟩;go_wp2_with fail;refine (Hrf.out _).mono ?_;rintro e w1 ⟨rfl,rfl⟩;go_wp2_with fail;refine (b2u_any _ _).mono ?_;rintro e w1 ⟨rfl,rfl⟩;go_wp2_with fail;refine (Hp1.out _ hB0).mono ?_;rintro e w2 ⟨rfl,hB2⟩;go_wp2_with fail;refine (Hp2.out _ hB2).mono ?_;rintro e w3 ⟨rfl,hB3⟩;have hB3' := hB2.trans (hB3.mono hB2.size)
     cases hq : fEq a1 a2 with
     | true =>
       have tq : (FloatKind.f64.format.order a1 a2 == some .eq) = true := hq;have er : res = a1 := by rw [Hres.out,if_pos hq]
       subst er;clear hq;go_wp2_with fail;refine bodyPost_ret (v := .tuple #[.float .f64 res,.int .i64 t.length,.nilIface]) (by simp [results,Tryz.results151,go_sem]) rfl ?_;exact ⟨rfl,hB3'⟩
     | false =>
       have tq : (FloatKind.f64.format.order a1 a2 == some .eq) = false := hq;have er : res = u.toNat := by rw [Hres.out,if_neg (by rw [hq];decide)]
       subst er;clear hq;go_wp2_with fail;refine (Hset.out _ _ (db_new w3)).mono ?_;rintro e w5 ⟨rfl,⟨arr5,hD5,hta5⟩,hO5⟩;have hB4 : Below w.heap.size w (w3.alloc (.cells Z242 242)) := hB3'.alloc hB3'.size _;have hB5 : Below w.heap.size w w5 := below_only hB4 hO5 hB3'.size (Nat.le_refl _);go_wp2_with fail;refine (Hfl.out _ _ arr5 hB5 hB3'.size hD5 hta5 HN.out).mono ?_;rintro e w6 ⟨rfl,hO6⟩;have hB6 : Below w.heap.size w w6 := below_only hB5 hO6 hB3'.size (Nat.le_refl _);go_wp2_with fail;refine bodyPost_ret (v := .tuple #[.float .f64 u.toNat,.int .i64 t.length,.nilIface]) (by simp [results,Tryz.results151,go_sem]) rfl ?_;exact ⟨rfl,hB6⟩
end Go.Proofs.YtcpijmbdibgdmaaGreatDoor
namespace Go.Proofs.YtcpijmbdibgdmaaGreatDoor
open Go.RowKit
attribute [local go_sem] ba_get store_flt
theorem nameable_cons (b : UInt8) (l : List UInt8) : nameOk (b :: l) = (b.toNat != 0 && nameOk l) := rfl
theorem signed_cons (b : UInt8) (l : List UInt8) : signOk (b :: l) = (b.toNat != 35 && signOk l) := rfl
theorem nameable_any (l : List UInt8) (w : World) (hl : l.length ≤ 4611686018427387904) : Calls Tryz.prog 57 #[S l] w fun e w' => e = .returned (.bool (nameOk l)) ∧ w = w' := by
 obtain ⟨fin,hfin⟩ : ∃ fin,fin = nameOk l := ⟨_,rfl⟩;rw [← hfin];have HF : Hid (fin = nameOk (l.drop 0)) := Lib.hid (by rw [hfin];rfl);clear hfin;go_enter Tryz.func57,Tryz.ntmps57;go_wp2_with fail
 go_loopg [6] (l.length) (fun g i wr => ∃ k : Nat,i = .int .i64 k ∧ k + g = l.length ∧ Hid (fin = nameOk (l.drop k)) ∧ w = wr)
 case atStart => exact ⟨0,rfl,by omega,HF,rfl⟩
 case round =>
  clear HF;obtain ⟨k,rfl,hg,HK,rfl⟩ := hrel;by_cases hk : k < l.length
  · have tk : k < l.length := hk;obtain ⟨b,hb⟩ : ∃ b,b = l[k] := ⟨_,rfl⟩;have Hb := Lib.hid hb;have hbn : b.toNat = l[k].toNat := by rw [hb]
    clear hb;have hdk : Hid (l.drop k = b :: l.drop (k + 1)) := Lib.hid (by rw [Hb.out];exact drop_at hk);by_cases hc : b.toNat = 0
    · have t1 : ((l[k].toNat : Int) == 0) = true := by rw [beq_iff_eq];omega
      clear hbn;go_wp2_with fail;go_ret;exact ⟨ret_bool (by rw [HK.out,hdk.out,nameable_cons];simp [hc]),rfl⟩
    have t1 : ((l[k].toNat : Int) == 0) = false := by rw [beq_eq_false_iff_ne];omega
    clear hbn;go_wp2_with fail
    go_roundg (l.length - k - 1)
    case measure => omega
    case rel => exact ⟨k + 1,by go_num,by omega,Lib.hid (by rw [HK.out,hdk.out,nameable_cons];simp [hc]),rfl⟩
  have tk : ¬ k < l.length := hk;have he : Hid (l.drop k = []) := Lib.hid (List.drop_eq_nil_of_le (by omega));go_wp2_with fail;go_ret;exact ⟨ret_bool (by rw [HK.out,he.out];rfl),rfl⟩
theorem signed_any (l : List UInt8) (w : World) (hl : l.length ≤ 4611686018427387904) : Calls Tryz.prog 59 #[S l] w fun e w' => e = .returned (.bool (!signOk l)) ∧ w = w' := by
 obtain ⟨fin,hfin⟩ : ∃ fin,fin = !signOk l := ⟨_,rfl⟩;rw [← hfin];have HF : Hid (fin = !signOk (l.drop 0)) := Lib.hid (by rw [hfin];rfl);clear hfin;go_enter Tryz.func59,Tryz.ntmps59;go_wp2_with fail
 go_loopg [6] (l.length) (fun g i wr => ∃ k : Nat,i = .int .i64 k ∧ k + g = l.length ∧ Hid (fin = !signOk (l.drop k)) ∧ w = wr)
 case atStart => exact ⟨0,rfl,by omega,HF,rfl⟩
 case round =>
  clear HF;obtain ⟨k,rfl,hg,HK,rfl⟩ := hrel;by_cases hk : k < l.length
  · have tk : k < l.length := hk;obtain ⟨b,hb⟩ : ∃ b,b = l[k] := ⟨_,rfl⟩;have Hb := Lib.hid hb;have hbn : b.toNat = l[k].toNat := by rw [hb]
    clear hb;have hdk : Hid (l.drop k = b :: l.drop (k + 1)) := Lib.hid (by rw [Hb.out];exact drop_at hk);by_cases hc : b.toNat = 35
    · have t1 : ((l[k].toNat : Int) == 35) = true := by rw [beq_iff_eq];omega
      clear hbn;go_wp2_with fail;go_ret;exact ⟨ret_bool (by rw [HK.out,hdk.out,signed_cons];simp [hc]),rfl⟩
    have t1 : ((l[k].toNat : Int) == 35) = false := by rw [beq_eq_false_iff_ne];omega
    clear hbn;go_wp2_with fail
    go_roundg (l.length - k - 1)
    case measure => omega
    case rel => exact ⟨k + 1,by go_num,by omega,Lib.hid (by rw [HK.out,hdk.out,signed_cons];simp [hc]),rfl⟩
  have tk : ¬ k < l.length := hk;have he : Hid (l.drop k = []) := Lib.hid (List.drop_eq_nil_of_le (by omega));go_wp2_with fail;go_ret;exact ⟨ret_bool (by rw [HK.out,he.out];rfl),rfl⟩
end Go.Proofs.YtcpijmbdibgdmaaGreatDoor
namespace Go.Proofs.YtcpijmbdibgdmaaGreatDoor
open Go.RowKit
attribute [local go_sem] ba_get store_flt
def TB (ok : Bool) (v : List UInt8) (e : Ending) : Prop := ∃ out,e = .returned (.tuple #[S out,.bool ok]) ∧ (ok = true → out = v)
theorem only_new {a w w' : World} {g : Nat} (h : Only w w' g) (hg : a.heap.size ≤ g) (hB : Below a.heap.size a w) : Below a.heap.size a w' :=
 ⟨h.os.trans hB.os,h.tape.trans hB.tape,h.output.trans hB.output,Nat.le_trans hB.size h.size,fun i hi => (h.block i (Nat.lt_of_lt_of_le hi hB.size) (fun e => by injection e with e;omega)).trans (hB.block i hi)⟩
theorem litb_any (t : List UInt8) (w : World) (ht : t.length ≤ 1048576) :
 Calls Tryz.prog 55 #[S t] w fun e w' => TB (litOk t) (litV t) e ∧ Below w.heap.size w w' := by
 obtain ⟨s,hs⟩ : ∃ s : List UInt8,s = 40 :: (t ++ [41]) := ⟨_,rfl⟩;have hsl : s.length = t.length + 2 := by rw [hs];simp
 have e1 : (⟨#[40]⟩ ++ ⟨t.toArray⟩ ++ ⟨#[41]⟩ : ByteArray) = ⟨s.toArray⟩ := by rw [hs];rfl
 have hfin : litAt s 0 = litS t := by
  unfold litAt litS;rw [hsl,hs];simp
 have hlt : 0 < s.length := by omega
 have h40 : s[0].toNat = 40 := by simp only [hs];rfl
 have HL := Lib.hid hfin;have H40 := Lib.hid h40;have Hs := Lib.hid hs;have Hsl := Lib.hid hsl;have hsb : s.length ≤ 1048578 := by omega
 clear hfin h40 hs hsl;go_enter Tryz.func55,Tryz.ntmps55;go_wp2_with fail;refine (literal_any w.heap.size s 0 0 0 false false _ hlt H40.out (by omega) (Blk.new w 54 _)).mono ?_;rintro e w2 (⟨out,q,hf,rfl,hq,hR,hO⟩ | ⟨hf,rfl,hR,hO⟩)
 · have hB : Below w.heap.size w w2 := only_new hO (Nat.le_refl _) ((Below.refl _ w).alloc (Nat.le_refl _) _);rw [HL.out] at hf;have Hf := Lib.hid hf;obtain ⟨c0,c1,c2,_,_,_⟩ := hR.cs;clear hf hO;obtain ⟨r,hr⟩ : ∃ r,r = w.heap.size := ⟨_,rfl⟩;rw [← hr] at c0 c1 c2 ⊢;have Hr := Lib.hid hr;clear hr hR;by_cases hqs : q = s.length
   · have t1 : ((q : Int) == (s.length : Int)) = true := by rw [beq_iff_eq];omega
     go_wp2_with fail;go_quiet (fail);go_wp2_with fail;go_ret2;refine ⟨⟨out,?_,fun _ => ?_⟩,?_⟩
     · have : litOk t = true := by unfold litOk;rw [Hf.out];have := Hsl.out;simp;omega
       rw [this];rfl
     · unfold litV;rw [Hf.out];rfl
     exact below_drewN hB _
   have t1 : ((q : Int) == (s.length : Int)) = false := by rw [beq_eq_false_iff_ne];omega
   go_wp2_with fail;go_quiet (fail);go_wp2_with fail;go_ret2;have hno : litOk t = false := by unfold litOk;rw [Hf.out];have := Hsl.out;simp;omega
   refine ⟨⟨out,?_,fun h => ?_⟩,?_⟩
   · rw [hno];rfl
   · rw [hno] at h;cases h
   exact below_drewN hB _
 · have hB : Below w.heap.size w w2 := only_new hO (Nat.le_refl _) ((Below.refl _ w).alloc (Nat.le_refl _) _);rw [HL.out] at hf;have Hf := Lib.hid hf;rw [if_pos rfl] at hR;obtain ⟨c0,c1,c2,_,_,_⟩ := hR.cs;clear hf hO;obtain ⟨r,hr⟩ : ∃ r,r = w.heap.size := ⟨_,rfl⟩;rw [← hr] at c0 c1 c2 ⊢;have Hr := Lib.hid hr;clear hr hR;go_wp2_with fail;go_quiet (fail);go_wp2_with fail;go_ret2;have hno : litOk t = false := by unfold litOk;rw [Hf.out]
   refine ⟨⟨[],?_,fun h => ?_⟩,?_⟩
   · rw [hno];rfl
   · rw [hno] at h;cases h
   exact below_drewN hB _
theorem hexOk_cons (b : UInt8) (l : List UInt8) : hexOk (b :: l) = (decide (0 ≤ hexV b) && hexOk l) := rfl
theorem hexb_any (t : List UInt8) (w : World) (ht : t.length ≤ 1048576) :
 Calls Tryz.prog 56 #[S t] w fun e w' => TB (hexOk t) (hexS t) e ∧ Below w.heap.size w w' := by
 obtain ⟨fin,hfin⟩ : ∃ fin,fin = hexOk t := ⟨_,rfl⟩;rw [← hfin];have HF : Hid (fin = hexOk (t.drop 0)) := Lib.hid hfin;have Hfin := Lib.hid hfin;clear hfin;obtain ⟨s,hs⟩ : ∃ s : List UInt8,s = 60 :: (t ++ [62]) := ⟨_,rfl⟩;have hsl : s.length = t.length + 2 := by rw [hs];simp
 have e1 : (⟨#[60]⟩ ++ ⟨t.toArray⟩ ++ ⟨#[62]⟩ : ByteArray) = ⟨s.toArray⟩ := by rw [hs];rfl
 have Hat : Hid ((∀ b ∈ t,0 ≤ hexV b) → (hexAt s 0 false).1 = 0 ∧ (hexAt s 0 false).2.1 = hexS t) := Lib.hid (fun h => by
  obtain ⟨h1,h2,h3⟩ := hexM_app t [] 0 false false h
  unfold hexAt hexS
  rw [hs]
  exact ⟨h1,h3⟩)
 have hlt : 0 < s.length := by omega
 have hsb : s.length ≤ 1048578 := by omega
 have h60 : s[0].toNat = 60 := by simp only [hs];rfl
 have H60 := Lib.hid h60;have Hs := Lib.hid hs;clear hsl h60 hs;go_enter Tryz.func56,Tryz.ntmps56;go_wp2_with fail
 go_loopg [9] (t.length) (fun g i wr => ∃ k : Nat,i = .int .i64 k ∧ k + g = t.length ∧ Hid (fin = hexOk (t.drop k)) ∧ w = wr)
 case atStart => exact ⟨0,rfl,by omega,HF,rfl⟩
 case round =>
  clear HF;obtain ⟨k,rfl,hg,HK,rfl⟩ := hrel;by_cases hk : k < t.length
  · have tk : k < t.length := hk;obtain ⟨b,hb⟩ : ∃ b,b = t[k] := ⟨_,rfl⟩;have hdk : Hid (t.drop k = b :: t.drop (k + 1)) := Lib.hid (by rw [hb];exact drop_at hk);have hcall := fun w => hex_any t[k] w
    rw [← hb] at hcall;have hbk : (b.toNat : Int) = (t[k].toNat : Int) := by rw [hb]
    rw [hbk] at hcall;clear hb hbk;by_cases hv : hexV b < 0
    · have t1 : decide (hexV b < 0) = true := by rw [decide_eq_true_eq];exact hv
      go_wp2_with fail;refine (hcall _).mono ?_;rintro e w2 ⟨rfl,rfl⟩;clear hcall;go_wp2_with fail;go_ret2;have hno : fin = false := by rw [HK.out,hdk.out,hexOk_cons];simp;omega
      refine ⟨⟨[],by rw [hno];rfl,fun h => ?_⟩,Below.refl _ _⟩;rw [hno] at h;cases h
    have t1 : decide (hexV b < 0) = false := by rw [decide_eq_false_iff_not];exact hv
    have HKn : Hid (fin = hexOk (t.drop (k + 1))) := Lib.hid (by rw [HK.out,hdk.out,hexOk_cons,decide_eq_true (by omega)];rfl);clear HK hdk;go_wp2_with fail;refine (hcall _).mono ?_;rintro e w2 ⟨rfl,rfl⟩;clear hcall;go_wp2_with fail
    go_roundg (t.length - k - 1)
    case measure => omega
    case rel => exact ⟨k + 1,by go_num,by omega,HKn,rfl⟩
  have tk : ¬ k < t.length := hk;have he : t.drop k = [] := List.drop_eq_nil_of_le (by omega);have hyes : fin = true := by rw [HK.out,he];rfl
  subst hyes
  have hall : ∀ b ∈ t,0 ≤ hexV b := by
   intro b hb;have := List.all_eq_true.1 (show hexOk t = true from Hfin.out.symm) b hb;exact of_decide_eq_true this
  obtain ⟨a1,a2⟩ := Hat.out hall;have A1 := Lib.hid a1;have A2 := Lib.hid a2;clear he HK a1 a2 hall Hfin;go_wp2_with fail;refine (hex_read w.heap.size s 0 0 0 false false _ hlt (by omega) (Blk.new w 54 _)).mono ?_;rintro e w2 ⟨rfl,hq,hR,hO⟩;have hB : Below w.heap.size w w2 := only_new hO (Nat.le_refl _) ((Below.refl _ w).alloc (Nat.le_refl _) _);rw [if_pos A1.out] at hR ⊢;obtain ⟨c0,c1,c2,_,_,_⟩ := hR.cs;obtain ⟨out,hout⟩ : ∃ out,out = (hexAt s 0 false).2.1 := ⟨_,rfl⟩;rw [← hout];have Hout := Lib.hid hout;clear hout hO hR hq;go_wp2_with fail;go_quiet (fail);go_wp2_with fail;go_ret2;exact ⟨⟨out,rfl,fun _ => by rw [Hout.out,A2.out]⟩,below_drewN hB _⟩
end Go.Proofs.YtcpijmbdibgdmaaGreatDoor
namespace Go.Proofs.YtcpijmbdibgdmaaGreatDoor
open Go.RowKit
attribute [local go_sem] ba_get store_flt
theorem ftoa_big (hi lo : Nat → Nat) (b B : Nat) (v0 : Value) (W0 w : World) (hT : ∀ i,i < 696 → W0.cell? ⟨22,i * 2,none⟩ = some (.int .u64 (hi i)) ∧ W0.cell? ⟨22,i * 2 + 1,none⟩ = some (.int .u64 (lo i))) (hb : ∀ i,i < 696 → hi i < 18446744073709551616 ∧ lo i < 18446744073709551616)
 (hP : ∀ i,i < 20 → W0.cell? ⟨10,i,none⟩ = some (.int .u64 ((10 ^ i : Nat) : Int))) (htab : ∀ w',Below W0.heap.size W0 w' → Lib.TabIs Tryz.prog w' "internal/strconv.uint64pow10" .u64 Lib.pow10Tab)
 (hopt : W0.cell? ⟨9,0,none⟩ = some (.bool true)) (h22 : 22 < W0.heap.size) (hW : Below W0.heap.size W0 w) (hb64 : b < 18446744073709551616) (hE : feE b ≤ 1069) (hO : Own w B v0 []) (hB : B ≤ w.heap.size) (hB0 : W0.heap.size ≤ B) (hcs : feM b ≠ 0 ∧ 0 ≤ feX b ∧ 18 < ndF (feX b)) :
 Calls Tryz.prog 123 #[v0,.float .f64 b,.int .u8 102,.int .i64 12] w fun e w' => ∃ v',e = .returned v' ∧ FS w w' B v0 v' (ffB hi lo b) := by
 have Hcs := Lib.hid hcs;clear hcs;have hbr := bits_run;obtain ⟨neg,hneg⟩ : ∃ neg,neg = decide (b / 9223372036854775808 ≠ 0) := ⟨_,rfl⟩
 have tneg : ((b : Int) / 9223372036854775808 != 0) = neg := by
  rw [hneg];by_cases h : b / 9223372036854775808 = 0
  · rw [decide_eq_false (by omega),bne_eq_false_iff_eq];omega
  rw [decide_eq_true h,bne_iff_ne];omega
 have tE : bits BinOp.and IntKind.i64 ((b : Int) / 4503599627370496) 2047 = (feE b : Int) := by
  show IntKind.i64.wrap ((BitVec.ofInt 64 ((b : Int) / 4503599627370496) &&& BitVec.ofInt 64 2047).toNat : Int) = _;have e1 : (BitVec.ofInt 64 ((b : Int) / 4503599627370496)).toNat = b / 4503599627370496 := by rw [show (b : Int) / 4503599627370496 = ((b / 4503599627370496 : Nat) : Int) by omega];exact ofInt_u64 _ (by omega)
  have e2 : (BitVec.ofInt 64 2047).toNat = 2 ^ 11 - 1 := by decide
  rw [BitVec.toNat_and,e1,e2,Nat.and_two_pow_sub_one_eq_mod];unfold feE;simp [IntKind.wrap,IntKind.bits,IntKind.signed];omega
 have tM : bits BinOp.and IntKind.u64 (b : Int) 4503599627370495 = ((b % 4503599627370496 : Nat) : Int) := by
  rw [show (4503599627370495 : Int) = ((4503599627370496 : Nat) : Int) - 1 by rfl];exact and_mask (k := 52) rfl (by decide) hb64
 have copt := (hW.cell (p := ⟨9,0,none⟩) (by show 9 < _;omega)).trans hopt;have hF : ffB hi lo b = fmtN neg (ffD hi lo (feM b) (feX b)).1 (ffD hi lo (feM b) (feX b)).2 := by rw [hneg];rfl
 rw [hF];obtain ⟨m0,hm0⟩ : ∃ m0,m0 = b % 4503599627370496 := ⟨_,rfl⟩;obtain ⟨E,hEe⟩ : ∃ E,E = feE b := ⟨_,rfl⟩;have HM : Hid (feM b = if E = 0 then m0 else m0 + 4503599627370496) := Lib.hid (by rw [hEe,hm0];rfl);have HXx : Hid (feX b = (if E = 0 then 1 else (E : Int)) - 1023) := Lib.hid (by rw [hEe];rfl);rw [← hm0] at tM;rw [← hEe] at tE hE;have hm0l : m0 < 4503599627370496 := by omega
 have hwE : (b : Int) / 4503599627370496 < 4096 := by omega
 clear hneg hm0 hEe hF;go_enter Tryz.func123,Tryz.ntmps123;go_wp2_with fail;go_quiet (fail)
 go_upto_if 78 with fail
 obtain ⟨M,hM⟩ : ∃ M,M = feM b := ⟨_,rfl⟩;obtain ⟨X,hX⟩ : ∃ X,X = feX b := ⟨_,rfl⟩;simp only [← hM,← hX] at Hcs;rw [← hM] at HM;rw [← hX] at HXx;have HMX : Hid (ffD hi lo (feM b) (feX b) = ffD hi lo M X) := Lib.hid (by rw [hM,hX]);clear hM hX;obtain ⟨X1,hX1⟩ : ∃ X1,X1 = X + 1023 := ⟨_,rfl⟩;have HX1 := Lib.hid hX1;have hX2 : X1 + -1023 = X := by omega
 clear hX1
 go_cut [14,15] from 79 to 84 (fun s14 s15 wc => s14 = .int .i64 X1 ∧ s15 = .int .u64 M ∧ wc = w.drewN nq)
 case first =>
  by_cases h0 : E = 0
  · have t0 : ((E : Int) == 0) = true := by rw [beq_iff_eq];omega
    have e1 : X1 = (E : Int) + 1 := by have h1 := HXx.out;have := HX1.out;rw [if_pos h0] at h1;omega
    have e2 : M = m0 := by have := HM.out;rw [if_pos h0] at this;exact this
    clear h0;go_wp2_with fail
    go_meet
    case rel => exact ⟨congrArg _ e1.symm,by rw [e2],rfl⟩
  have t0 : ((E : Int) == 0) = false := by rw [beq_eq_false_iff_ne];omega
  have e1 : X1 = (E : Int) := by have h1 := HXx.out;have := HX1.out;rw [if_neg h0] at h1;omega
  have e2 : M = m0 + 4503599627370496 := by have := HM.out;rw [if_neg h0] at this;exact this
  have e3 : bits BinOp.or IntKind.u64 (m0 : Int) 4503599627370496 = (m0 : Int) + 4503599627370496 := by
   have := u64_or_nat m0 4503599627370496 (by omega) (by decide)
   have h2 : m0 ||| 4503599627370496 = m0 + 4503599627370496 := by
    rw [Nat.or_comm,nat_join 52 _ _ (by decide) (by omega)];omega
   rw [h2] at this;exact Eq.trans this (by omega)
  have E1 := Lib.hid e1;have E2 := Lib.hid e2;clear h0 e1 e2;go_wp2_with fail
  go_meet
  case rel => exact ⟨congrArg _ E1.out.symm,by rw [E2.out];rfl,rfl⟩
 case rest =>
  obtain ⟨rfl,rfl,rfl⟩ := hcut;have hXr : -1022 ≤ X ∧ X ≤ 46 := by have := HXx.out;split at this <;> omega
  have hMl : M < 9007199254740992 := by have := HM.out;split at this <;> omega
  have hMX : Hid (M ≠ 0 → -1022 < X → 4503599627370496 ≤ M) := Lib.hid (by
   intro _ h2
   have h3 := HXx.out
   have := HM.out
   by_cases h0 : E = 0
   · rw [if_pos h0] at h3;omega
   · rw [if_neg h0] at this;omega)
  clear tE tM hE hm0l hwE tneg;have hM0 : M ≠ 0 := Hcs.out.1;have tm : ((M : Int) == 0) = false := by rw [beq_eq_false_iff_ne];omega
  have hMp : Hid (M ≠ 0) := Lib.hid hM0;clear hM0;have hx : 0 ≤ X := Hcs.out.2.1;obtain ⟨l,hl⟩ : ∃ l,l = log10F (1 + X) := ⟨_,rfl⟩
  have hlr : 0 ≤ l ∧ l ≤ 100 := by
   rw [hl];unfold log10F;have : wrap64 ((1 + X) * 78913) = (1 + X) * 78913 := by unfold wrap64;omega
   rw [this];omega
  have hlc := fun w => log10_any (1 + X) w
  have e1 : ndF X = 1 + l + 12 := by unfold ndF;rw [if_pos hx,hl]
  rw [← hl] at hlc;obtain ⟨n,hn⟩ : ∃ n : Nat,1 + l + 12 = (n : Int) := ⟨(1 + l + 12).toNat,by omega⟩;have E1 : Hid (ndF X = (n : Int)) := Lib.hid (by rw [e1,hn]);clear hl e1;have hn18 : ¬ n ≤ 18 := by have := Hcs.out.2.2;rw [E1.out] at this;omega
  have hX18 : 18 ≤ X := ndF_bigs (by omega) (by omega) (by rw [E1.out];omega);have hM52 := hMX.out hMp.out (by omega);obtain ⟨k,hk⟩ : ∃ k : Nat,k = (52 - X).toNat := ⟨_,rfl⟩;have hkr : 6 ≤ k ∧ k ≤ 34 := by omega
  have hkX : X - 52 = -(k : Int) := by omega
  have hM0 : M ≠ 0 := hMp.out;obtain ⟨N,hN⟩ : ∃ N,N = shR (strip M) k := ⟨_,rfl⟩;obtain ⟨dp,hdp⟩ : ∃ dp,dp = dpR (strip M) (nd M) k := ⟨_,rfl⟩
  have hdpe : dp = (nd (M * 5 ^ k) : Int) - k := by
   obtain ⟨z,hz,hzn⟩ := strip_nd hM0;have h5 : strip M * 5 ^ k ≠ 0 := mul5_ne (strip_ne hM0) k
   have e1 : nd (M * 5 ^ k) = nd (strip M * 5 ^ k) + z := by
    have e2 : M * 5 ^ k = strip M * 5 ^ k * 10 ^ z := by
     have e3 : M * 5 ^ k = (strip M * 10 ^ z) * 5 ^ k := by rw [← hz]
     rw [e3,Nat.mul_assoc,Nat.mul_comm (10 ^ z),← Nat.mul_assoc]
    rw [e2,nd_pow h5]
   rw [hdp];unfold dpR;omega
  have hnd16 : nd M ≤ 16 := nd_le (by omega)
  have hndM5 : k ≤ nd (M * 5 ^ k) ∧ nd (M * 5 ^ k) ≤ nd M + k := by
   refine ⟨Nat.le_of_lt (Nat.lt_of_not_le fun h => ?_),nd_mul_le (by decide)⟩;have h1 := nd_lt (M * 5 ^ k);have h2 : (10 : Nat) ^ nd (M * 5 ^ k) ≤ 10 ^ k := Nat.pow_le_pow_right (by decide) h;have h3 : M * 5 ^ k < 2 ^ k * 5 ^ k := by rw [← Nat.mul_pow];exact Nat.lt_of_lt_of_le h1 h2
   have h4 : M < 2 ^ k := Nat.lt_of_mul_lt_mul_right h3;have h5 : 2 ^ k ≤ 2 ^ 34 := Nat.pow_le_pow_right (by decide) hkr.2;omega
  have hdpr : 0 ≤ dp ∧ dp ≤ 16 := by omega
  obtain ⟨r,hr⟩ : ∃ r : Nat,dp + 12 = (r : Int) := ⟨(dp + 12).toNat,by omega⟩;have hsM0 : strip M ≠ 0 := strip_ne hM0;have hsM : nd (strip M) ≤ nd M := strip_nd_le hM0;have hsM5 : nd (strip M * 5 ^ k) ≤ 800 := by have := nd_mul_le (N := strip M) (k := k) (c := 5) (by decide);omega
  have hNr : nd N ≤ 800 := by have := shR_nd hsM0 k;rw [← hN] at this;omega
  have e0 : Hid (ffD hi lo M X = (dg (rnN N r),rnP N r dp)) := Lib.hid (by
   unfold ffD
   simp only
   rw [if_neg hMp.out,if_neg (by rw [E1.out];omega),← hk,← hN,← hdp,show (dp + 12).toNat = r by omega])
  have hrP : 0 ≤ rnP N r dp ∧ rnP N r dp ≤ 1000 := by
   unfold rnP;split
   · omega
   rename_i hrn
   have hup : nd (rnM N r) ≤ r + 1 := by
    unfold rnM
    have hb2 : N / 10 ^ (nd N - r) < 10 ^ r := by
     rw [Nat.div_lt_iff_lt_mul (Nat.pow_pos (by decide)),← Nat.pow_add];have := nd_lt N;rw [show r + (nd N - r) = nd N by omega];exact this
    refine nd_le ?_;have e4 : (10 : Nat) ^ (r + 1) = 10 * 10 ^ r := by rw [Nat.pow_succ,Nat.mul_comm]
    have hp : 0 < 10 ^ r := Nat.pow_pos (by decide);rw [e4];split <;> omega
   have hlow : r ≤ nd (rnM N r) := by
    obtain ⟨a1,a2⟩ := headN (N := N) (r := r) (by omega);unfold rnM;have := nd_mono (Nat.le_add_right (N / 10 ^ (nd N - r)) (if upF N r = true then 1 else 0));omega
   omega
  have hrN : nd (rnN N r) ≤ 800 := by
   unfold rnN;split
   · exact hNr
   rename_i hrn
   have hne : rnM N r ≠ 0 := by
    have := head_ne (N := N) (r := r) (by omega) (by omega);unfold rnM;exact fun e => this (Nat.eq_zero_of_add_eq_zero_right e)
   have hup : nd (rnM N r) ≤ r + 1 := by
    unfold rnM
    have hb2 : N / 10 ^ (nd N - r) < 10 ^ r := by
     rw [Nat.div_lt_iff_lt_mul (Nat.pow_pos (by decide)),← Nat.pow_add];have := nd_lt N;rw [show r + (nd N - r) = nd N by omega];exact this
    refine nd_le ?_;have e4 : (10 : Nat) ^ (r + 1) = 10 * 10 ^ r := by rw [Nat.pow_succ,Nat.mul_comm]
    have hp : 0 < 10 ^ r := Nat.pow_pos (by decide);rw [e4];split <;> omega
   have := strip_nd_le hne;omega
  have hne : v0.ownBlock ≠ some w.heap.size := fun e => by have := (hO.lt _ e).2;omega
  have Hne := Lib.hid hne;clear hne;have hal := alloc242;have HN := Lib.hid hN;have Hdp := Lib.hid hdp;clear hN hdp hdpe hndM5 hk;clear hX18;go_wp2_with fail;refine (hlc _).mono ?_;rintro e w1 ⟨rfl,rfl⟩;go_wp2_with fail;obtain ⟨g,hg⟩ : ∃ g,g = w.heap.size := ⟨_,rfl⟩;have hD1 : DB ((w.drewN nq).alloc (.cells Z242 242)) g (List.replicate 800 0) 0 0 false false := by rw [hg];exact db_new (w.drewN nq)
  have hB1 : Below w.heap.size w ((w.drewN nq).alloc (.cells Z242 242)) := (below_drewN (Below.refl _ w) nq).alloc (Nat.le_refl _) _;rw [← hg];have Hg := Lib.hid hg;have step : ∀ {a c : World},Below w.heap.size w a → Only a c g → Below w.heap.size w c := fun hb ho => only_new ho (by rw [Hg.out];exact Nat.le_refl _) hb
  clear hg;refine (assign_any g M _ 0 0 false false _ hD1 hM0 (by omega)).mono ?_;rintro e w2 ⟨rfl,⟨arr2,ht2,hD2⟩,hO2⟩;have hB2 := step hB1 hO2;clear hD1 hB1 hO2;go_wp2_with fail;refine (shiftR_any g (strip M) k arr2 (nd M) false false w2 hD2 hsM0 (by omega) ht2 (by omega) hsM5 (by omega)).mono ?_;rintro e w3 ⟨rfl,⟨arr3,hD3,ht3⟩,hO3⟩;have hB3 := step hB2 hO3;rw [← HN.out,← Hdp.out] at hD3;rw [← HN.out] at ht3;clear hD2 hB2 hO3 ht2;have c801 := hD3.cP;go_wp2_with fail;refine (round10_any g N r arr3 dp false w3 hD3 (by omega) hNr ht3 (by omega)).mono ?_;rintro e w4 ⟨rfl,⟨arr4,ht4,hD4⟩,hO4⟩;have hB4 := step hB3 hO4;clear c801 hD3 hB3 hO4 ht3;have hO : Own w4 B v0 [] := hO.below hB4 (Nat.le_refl _);go_wp2_with fail;refine region_tailq 16 (by kernel_rfl) (by kernel_rfl) ?_;intro w5 e5;have hD5 : DB w5 g arr4 (nd (rnN N r)) (rnP N r dp) false false := by rw [e5];exact hD4.drewN 1
  have hB5 : Below w.heap.size w w5 := by rw [e5];exact below_drewN hB4 1
  have hO5 : Own w5 B v0 [] := hO.below (Below.mono (by rw [e5];exact below_drewN (Below.refl _ w4) 1) (Nat.le_refl _)) (Nat.le_refl _);clear e5 hD4 hB4 hO;have c800 := hD5.cN;have c801 := hD5.cP;simp only [List.take_succ_cons,List.take_zero,List.drop_succ_cons,List.drop_zero]
  repeat (go_big_quiet_step (fail))
  refine wpQuiet_nil ?_;have hgl : g < w5.heap.size := Blk.lt hD5.2;have hne : v0.ownBlock ≠ some g := by rw [Hg.out];exact Hne.out
  have hln : (dg (rnN N r)).length = nd (rnN N r) := rfl;have hdd : ∀ i,(h : i < (dg (rnN N r)).length) → w5.cell? ⟨g,i,none⟩ = some (bcell (dg (rnN N r))[i]) := fun i h => hD5.db ht4 h
  have hfm := fmt_any neg (dg (rnN N r)) (rnP N r dp) g 800 800 B v0 false w5 hgl hne hdd ⟨by rw [hln];omega,by decide,by decide⟩ ⟨by omega,by omega⟩ hO5 (Nat.le_trans hB hB5.size);rw [hln] at hfm;have Hfm := Lib.hid hfm;clear hfm hdd hln c800 c801 hD5 ht4 hO5;go_wp2_with fail;refine Hfm.out.mono ?_;rintro e w9 ⟨v',rfl,hf⟩;go_wp2_with fail;go_ret;refine ⟨_,rfl,?_⟩;rw [HMX.out,e0.out];exact hf.after hB5
end Go.Proofs.YtcpijmbdibgdmaaGreatDoor
