/-
  internal/strconv: ftoa64 at %f and twelve digits: few digits, from one on.
  internal/strconv: ftoa64 at %f and twelve digits: few digits, below one.
  A decimal number as it is read, sign by sign: plain law.
-/
import Derived.Test.YtcpijmbdibgdmaaGreatDoorMs11
set_option linter.all false
set_option maxHeartbeats 16000000
set_option maxRecDepth 100000
namespace Go.Proofs.YtcpijmbdibgdmaaGreatDoor
open Go.RowKit
attribute [local go_sem] ba_get store_flt
theorem ftoa_pos (hi lo : Nat → Nat) (b B : Nat) (v0 : Value) (W0 w : World) (hT : ∀ i,i < 696 → W0.cell? ⟨22,i * 2,none⟩ = some (.int .u64 (hi i)) ∧ W0.cell? ⟨22,i * 2 + 1,none⟩ = some (.int .u64 (lo i))) (hb : ∀ i,i < 696 → hi i < 18446744073709551616 ∧ lo i < 18446744073709551616)
 (hP : ∀ i,i < 20 → W0.cell? ⟨10,i,none⟩ = some (.int .u64 ((10 ^ i : Nat) : Int))) (htab : ∀ w',Below W0.heap.size W0 w' → Lib.TabIs Tryz.prog w' "internal/strconv.uint64pow10" .u64 Lib.pow10Tab)
 (hopt : W0.cell? ⟨9,0,none⟩ = some (.bool true)) (h22 : 22 < W0.heap.size) (hW : Below W0.heap.size W0 w) (hb64 : b < 18446744073709551616) (hE : feE b ≤ 1069) (hO : Own w B v0 []) (hB : B ≤ w.heap.size) (hB0 : W0.heap.size ≤ B) (hcs : feM b ≠ 0 ∧ 0 ≤ feX b ∧ ndF (feX b) ≤ 18) :
 Calls Tryz.prog 123 #[v0,.float .f64 b,.int .u8 102,.int .i64 12] w fun e w' => ∃ v',e = .returned v' ∧ FS w w' B v0 v' (ffB hi lo b) := by
 have Hcs := Lib.hid hcs;clear hcs;have hbr := bits_run;obtain ⟨neg,hneg⟩ : ∃ neg,neg = decide (b / 9223372036854775808 ≠ 0) := ⟨_,rfl⟩
 have tneg : ((b : Int) / 9223372036854775808 != 0) = neg := by
  rw [hneg];by_cases h : b / 9223372036854775808 = 0
  · rw [decide_eq_false (by omega),bne_eq_false_iff_eq];omega
  rw [decide_eq_true h,bne_iff_ne];omega
 have tE : bits BinOp.and IntKind.i64 ((b : Int) / 4503599627370496) 2047 = (feE b : Int) := by
  show IntKind.i64.wrap ((BitVec.ofInt 64 ((b : Int) / 4503599627370496) &&& BitVec.ofInt 64 2047).toNat : Int) = _;have e1 : (BitVec.ofInt 64 ((b : Int) / 4503599627370496)).toNat = b / 4503599627370496 := by rw [show (b : Int) / 4503599627370496 = ((b / 4503599627370496 : Nat) : Int) by omega];exact ofInt_u64 _ (by omega)
  have e2 : (BitVec.ofInt 64 2047).toNat = 2 ^ 11 - 1 := by decide
  rw [BitVec.toNat_and,e1,e2,Nat.and_two_pow_sub_one_eq_mod];unfold feE;simp [IntKind.wrap,IntKind.bits,IntKind.signed];omega
 have tM : bits BinOp.and IntKind.u64 (b : Int) 4503599627370495 = ((b % 4503599627370496 : Nat) : Int) := by
  rw [show (4503599627370495 : Int) = ((4503599627370496 : Nat) : Int) - 1 by rfl];exact and_mask (k := 52) rfl (by decide) hb64
 have copt := (hW.cell (p := ⟨9,0,none⟩) (by show 9 < _;omega)).trans hopt;have hF : ffB hi lo b = fmtN neg (ffD hi lo (feM b) (feX b)).1 (ffD hi lo (feM b) (feX b)).2 := by rw [hneg];rfl
 rw [hF];obtain ⟨m0,hm0⟩ : ∃ m0,m0 = b % 4503599627370496 := ⟨_,rfl⟩;obtain ⟨E,hEe⟩ : ∃ E,E = feE b := ⟨_,rfl⟩;have HM : Hid (feM b = if E = 0 then m0 else m0 + 4503599627370496) := Lib.hid (by rw [hEe,hm0];rfl);have HXx : Hid (feX b = (if E = 0 then 1 else (E : Int)) - 1023) := Lib.hid (by rw [hEe];rfl);rw [← hm0] at tM;rw [← hEe] at tE hE;have hm0l : m0 < 4503599627370496 := by omega
 have hwE : (b : Int) / 4503599627370496 < 4096 := by omega
 clear hneg hm0 hEe hF;go_enter Tryz.func123,Tryz.ntmps123;go_wp2_with fail;go_quiet (fail)
 go_upto_if 78 with fail
 obtain ⟨M,hM⟩ : ∃ M,M = feM b := ⟨_,rfl⟩;obtain ⟨X,hX⟩ : ∃ X,X = feX b := ⟨_,rfl⟩;simp only [← hM,← hX] at Hcs;rw [← hM] at HM;rw [← hX] at HXx;have HMX : Hid (ffD hi lo (feM b) (feX b) = ffD hi lo M X) := Lib.hid (by rw [hM,hX]);clear hM hX;obtain ⟨X1,hX1⟩ : ∃ X1,X1 = X + 1023 := ⟨_,rfl⟩;have HX1 := Lib.hid hX1;have hX2 : X1 + -1023 = X := by omega
 clear hX1
 go_cut [14,15] from 79 to 84 (fun s14 s15 wc => s14 = .int .i64 X1 ∧ s15 = .int .u64 M ∧ wc = w.drewN nq)
 case first =>
  by_cases h0 : E = 0
  · have t0 : ((E : Int) == 0) = true := by rw [beq_iff_eq];omega
    have e1 : X1 = (E : Int) + 1 := by have h1 := HXx.out;have := HX1.out;rw [if_pos h0] at h1;omega
    have e2 : M = m0 := by have := HM.out;rw [if_pos h0] at this;exact this
    clear h0;go_wp2_with fail
    go_meet
    case rel => exact ⟨congrArg _ e1.symm,by rw [e2],rfl⟩
  have t0 : ((E : Int) == 0) = false := by rw [beq_eq_false_iff_ne];omega
  have e1 : X1 = (E : Int) := by have h1 := HXx.out;have := HX1.out;rw [if_neg h0] at h1;omega
  have e2 : M = m0 + 4503599627370496 := by have := HM.out;rw [if_neg h0] at this;exact this
  have e3 : bits BinOp.or IntKind.u64 (m0 : Int) 4503599627370496 = (m0 : Int) + 4503599627370496 := by
   have := u64_or_nat m0 4503599627370496 (by omega) (by decide)
   have h2 : m0 ||| 4503599627370496 = m0 + 4503599627370496 := by
    rw [Nat.or_comm,nat_join 52 _ _ (by decide) (by omega)];omega
   rw [h2] at this;exact Eq.trans this (by omega)
  have E1 := Lib.hid e1;have E2 := Lib.hid e2;clear h0 e1 e2;go_wp2_with fail
  go_meet
  case rel => exact ⟨congrArg _ E1.out.symm,by rw [E2.out];rfl,rfl⟩
 case rest =>
  obtain ⟨rfl,rfl,rfl⟩ := hcut;have hXr : -1022 ≤ X ∧ X ≤ 46 := by have := HXx.out;split at this <;> omega
  have hMl : M < 9007199254740992 := by have := HM.out;split at this <;> omega
  have hMX : Hid (M ≠ 0 → -1022 < X → 4503599627370496 ≤ M) := Lib.hid (by
   intro _ h2
   have h3 := HXx.out
   have := HM.out
   by_cases h0 : E = 0
   · rw [if_pos h0] at h3;omega
   · rw [if_neg h0] at this;omega)
  clear tE tM hE hm0l hwE tneg;have hM0 : M ≠ 0 := Hcs.out.1;have tm : ((M : Int) == 0) = false := by rw [beq_eq_false_iff_ne];omega
  have hMp : Hid (M ≠ 0) := Lib.hid hM0;clear hM0;have hx : 0 ≤ X := Hcs.out.2.1;obtain ⟨l,hl⟩ : ∃ l,l = log10F (1 + X) := ⟨_,rfl⟩
  have hlr : 0 ≤ l ∧ l ≤ 100 := by
   rw [hl];unfold log10F;have : wrap64 ((1 + X) * 78913) = (1 + X) * 78913 := by unfold wrap64;omega
   rw [this];omega
  have hlc := fun w => log10_any (1 + X) w
  have e1 : ndF X = 1 + l + 12 := by unfold ndF;rw [if_pos hx,hl]
  rw [← hl] at hlc;obtain ⟨n,hn⟩ : ∃ n : Nat,1 + l + 12 = (n : Int) := ⟨(1 + l + 12).toNat,by omega⟩;have E1 : Hid (ndF X = (n : Int)) := Lib.hid (by rw [e1,hn]);clear hl e1;have hn18 : n ≤ 18 := by have := Hcs.out.2.2;rw [E1.out] at this;omega
  have hn0 : 0 < n := by omega
  have hM52 := hMX.out hMp.out (by omega);have hlen := fun w => Tryz.bits_Len64 (M : Int) w (by omega) (by omega)
  rw [Int.toNat_natCast,bitLen53 hM52 hMl] at hlen;obtain ⟨ee,hee⟩ : ∃ ee,X - 11 - 52 = ee := ⟨_,rfl⟩;have hrows := ndF_rows (X := X) (by omega) (by rw [E1.out];omega) (by rw [E1.out];omega) (by omega);obtain ⟨i,hii⟩ : ∃ i,i = fiF X := ⟨_,rfl⟩;have hi2 : (i : Int) = ndF X - 1 - log10F X + 348 := by rw [hii];unfold fiF;omega
  have hxM : xF M 53 = M * 2048 := by
   unfold xF;rw [wrap_u64];have : (M : Int) * 2 ^ (64 - 53) = (M : Int) * 2048 := rfl;rw [this];omega
  obtain ⟨V,hV⟩ : ∃ V,V = fvF hi lo M X := ⟨_,rfl⟩;obtain ⟨P,hPq⟩ : ∃ P,P = fpF hi lo M X := ⟨_,rfl⟩
  have hVr : rndN (fxQ hi lo (M * 2048) i n ee) = V := by
   rw [hV];unfold fvF;rw [hxM,E1.out,Int.toNat_natCast,← hii,show X - 63 = ee by omega]
  have hPr : fxP hi lo (M * 2048) i n ee = P := by
   rw [hPq];unfold fpF;rw [hxM,E1.out,Int.toNat_natCast,← hii,show X - 63 = ee by omega]
  have hPl : P ≤ 12 := by
   rw [← hPr];unfold fxP;split <;> (try split) <;> omega
  have hVl : V < 4611686018427387904 := by rw [← hVr];exact rndN_lt _
  have hfix := fun w hW => fixed_any hi lo (M * 2048) i n ee W0 w hT hb hP h22 hW (by omega) (by omega) (by omega) (by omega) (by rw [show ee + 63 = X by omega];rw [← E1.out];omega)
  have e2048 : ((M * 2048 : Nat) : Int) = (M : Int) * 2048 := by omega
  simp only [hVr,hPr,e2048] at hfix;clear e2048;have HV := Lib.hid hV;have HPq := Lib.hid hPq;clear hVr hPr hV hPq hii hi2 hxM hrows;clear hM52;go_wp2_with fail;refine (hlc _).mono ?_;rintro e w1 ⟨rfl,rfl⟩;go_wp2_with fail;refine (hlen _).mono ?_;rintro e w1 ⟨rfl,rfl⟩;go_wp2_with fail;obtain ⟨g,hg⟩ : ∃ g,g = w.heap.size := ⟨_,rfl⟩;have hb1 : BB ((w.drewN nq).alloc (.cells ((List.replicate 24 (0 : UInt8)).map bcell).toArray 200)) g 200 (List.replicate 24 0) := by rw [hg];exact Blk.new (w.drewN nq) _ _
  have hB1 : Below w.heap.size w ((w.drewN nq).alloc (.cells ((List.replicate 24 (0 : UInt8)).map bcell).toArray 200)) := (below_drewN (Below.refl _ w) nq).alloc (Nat.le_refl _) _;have hB1s : ((w.drewN nq).alloc (.cells ((List.replicate 24 (0 : UInt8)).map bcell).toArray 200)).heap.size = g + 1 := by rw [hg];simp
  refine (hfix _ ((hW.trans (below_drewN (Below.refl _ w) nq)).alloc hW.size _)).mono ?_;rintro e w2 ⟨rfl,hB2⟩;have hB2a : Below (g + 1) ((w.drewN nq).alloc (.cells ((List.replicate 24 (0 : UInt8)).map bcell).toArray 200)) w2 := by rw [← hB1s];exact hB2
  have hb2 : BB w2 g 200 (List.replicate 24 0) := Blk.below hb1 hB2a (by omega);have hB2' : Below w.heap.size w w2 := hB1.trans (hB2a.mono (by omega));have hO2 : Own w2 B v0 [] := hO.below hB2' (Nat.le_refl _);rw [← hg];have hne : v0.ownBlock ≠ some g := fun e => by have := (hO.lt g e).2;omega
  have hW2 : Below W0.heap.size W0 w2 := hW.trans (hB2'.mono hW.size);have hgl : g < w2.heap.size := Blk.lt hb2;have Hg := Lib.hid hg;clear hg;clear hb1 hB1 hB1s hfix hB2 hB2a;by_cases hV0 : V = 0
  · have tv : ((V : Int) != 0) = false := by rw [bne_eq_false_iff_eq];omega
    have e0 : Hid (ffD hi lo M X = ([],0)) := Lib.hid (by unfold ffD;rw [if_neg hMp.out,if_pos (by rw [E1.out];omega),if_pos (by rw [E1.out];omega),← HV.out,if_pos hV0]);clear hV0;have hfm := fmt_any neg [] 0 g 24 24 B v0 false w2 hgl hne (fun i h => absurd h (Nat.not_lt_zero _)) (by decide) (by decide) hO2 (Nat.le_trans hB hB2'.size);rw [List.length_nil,Int.natCast_zero] at hfm;go_wp2_with fail;refine hfm.mono ?_;rintro e w9 ⟨v',rfl,hf⟩;go_wp2_with fail;go_ret;refine ⟨_,rfl,?_⟩;rw [HMX.out,e0.out];exact hf.after hB2'
  have tv : ((V : Int) != 0) = true := by rw [bne_iff_ne];omega
  have e0 : Hid (ffD hi lo M X = (dg (strip V),(nd V : Int) - P)) := Lib.hid (by unfold ffD;simp only;rw [if_neg hMp.out,if_pos (by rw [E1.out];omega),if_pos (by rw [E1.out];omega),← HV.out,if_neg hV0,← HPq.out]);have hV1 : 1 ≤ V := by omega
  clear hV0;have hnd := fun m => Tryz.internal_strconv_numDigits V (by omega) (by omega) (w2.drewN m) (htab _ (below_drewN hW2 m))
  rw [nd_digits (by omega)] at hnd;go_wp2_with fail
  have hcells : ∀ i,i < 24 → w2.cell? ⟨g,i,none⟩ = some (.int .u8 0) := fun i hi => by
   have := BB.has hb2 (i := i) (by rw [List.length_replicate];exact hi);rw [this,List.getElem_replicate];rfl
  have hfrz : ∀ i,w2.frozen? ⟨g,i,none⟩ = false := fun i => hb2.frozen i
  have hV20 : nd V ≤ 20 := nd_le (by omega);have hsd := fun m => setDigits_any V g 24 (-(P : Int)) (w2.drewN m) hV1 (by omega) ⟨by omega,by decide⟩ (by omega) (fun i hi => hcells i hi) (fun i _ => hfrz i)
  clear hcells hfrz
  go_region_with (first | (go_at_call 130;refine (hnd _).mono ?_;rintro e w4 ⟨rfl,rfl⟩) | (go_at_call 159;refine (hsd _).mono ?_;rintro e w5 ⟨rfl,hDg,hO5⟩))
  clear hnd hsd;have hB5 : Below w.heap.size w w5 := ⟨hO5.os.trans hB2'.os,hO5.tape.trans hB2'.tape,hO5.output.trans hB2'.output,Nat.le_trans hB2'.size hO5.size,fun k hk => (hO5.block k (Nat.lt_of_lt_of_le hk hB2'.size) (fun e => by injection e with e;have := Hg.out;omega)).trans (hB2'.block k hk)⟩;have hO6 : Own w5 B v0 [] := hO.below hB5 (Nat.le_refl _);have hgl5 : g < w5.heap.size := Nat.lt_of_lt_of_le hgl hO5.size;have hln : (dg (strip V)).length = nd (strip V) := rfl;have hsl := strip_nd_le (n := V) (by omega);have hndP : (nd V : Int) + -(P : Int) = (nd V : Int) - P := by omega
  have hfm := fmt_any neg (dg (strip V)) ((nd V : Int) - P) g 24 24 B v0 false w5 hgl5 hne hDg ⟨by rw [hln];omega,by decide,by decide⟩ ⟨by omega,by omega⟩ hO6 (Nat.le_trans hB hB5.size);rw [hln,← hndP] at hfm;have Hfm := Lib.hid hfm;have HndP := Lib.hid hndP;clear hfm hndP hDg hO5 hln hb2 hO2 hB2';go_wp2_with fail;refine Hfm.out.mono ?_;rintro e w9 ⟨v',rfl,hf⟩;go_wp2_with fail;go_ret;refine ⟨_,rfl,?_⟩;rw [HMX.out,e0.out,← HndP.out];exact hf.after hB5
end Go.Proofs.YtcpijmbdibgdmaaGreatDoor
namespace Go.Proofs.YtcpijmbdibgdmaaGreatDoor
open Go.RowKit
attribute [local go_sem] ba_get store_flt
theorem ftoa_neg (hi lo : Nat → Nat) (b B : Nat) (v0 : Value) (W0 w : World) (hT : ∀ i,i < 696 → W0.cell? ⟨22,i * 2,none⟩ = some (.int .u64 (hi i)) ∧ W0.cell? ⟨22,i * 2 + 1,none⟩ = some (.int .u64 (lo i))) (hb : ∀ i,i < 696 → hi i < 18446744073709551616 ∧ lo i < 18446744073709551616)
 (hP : ∀ i,i < 20 → W0.cell? ⟨10,i,none⟩ = some (.int .u64 ((10 ^ i : Nat) : Int))) (htab : ∀ w',Below W0.heap.size W0 w' → Lib.TabIs Tryz.prog w' "internal/strconv.uint64pow10" .u64 Lib.pow10Tab)
 (hopt : W0.cell? ⟨9,0,none⟩ = some (.bool true)) (h22 : 22 < W0.heap.size) (hW : Below W0.heap.size W0 w) (hb64 : b < 18446744073709551616) (hE : feE b ≤ 1069) (hO : Own w B v0 []) (hB : B ≤ w.heap.size) (hB0 : W0.heap.size ≤ B) (hcs : feM b ≠ 0 ∧ feX b < 0 ∧ 0 < ndF (feX b)) :
 Calls Tryz.prog 123 #[v0,.float .f64 b,.int .u8 102,.int .i64 12] w fun e w' => ∃ v',e = .returned v' ∧ FS w w' B v0 v' (ffB hi lo b) := by
 have Hcs := Lib.hid hcs;clear hcs;have hbr := bits_run;obtain ⟨neg,hneg⟩ : ∃ neg,neg = decide (b / 9223372036854775808 ≠ 0) := ⟨_,rfl⟩
 have tneg : ((b : Int) / 9223372036854775808 != 0) = neg := by
  rw [hneg];by_cases h : b / 9223372036854775808 = 0
  · rw [decide_eq_false (by omega),bne_eq_false_iff_eq];omega
  rw [decide_eq_true h,bne_iff_ne];omega
 have tE : bits BinOp.and IntKind.i64 ((b : Int) / 4503599627370496) 2047 = (feE b : Int) := by
  show IntKind.i64.wrap ((BitVec.ofInt 64 ((b : Int) / 4503599627370496) &&& BitVec.ofInt 64 2047).toNat : Int) = _;have e1 : (BitVec.ofInt 64 ((b : Int) / 4503599627370496)).toNat = b / 4503599627370496 := by rw [show (b : Int) / 4503599627370496 = ((b / 4503599627370496 : Nat) : Int) by omega];exact ofInt_u64 _ (by omega)
  have e2 : (BitVec.ofInt 64 2047).toNat = 2 ^ 11 - 1 := by decide
  rw [BitVec.toNat_and,e1,e2,Nat.and_two_pow_sub_one_eq_mod];unfold feE;simp [IntKind.wrap,IntKind.bits,IntKind.signed];omega
 have tM : bits BinOp.and IntKind.u64 (b : Int) 4503599627370495 = ((b % 4503599627370496 : Nat) : Int) := by
  rw [show (4503599627370495 : Int) = ((4503599627370496 : Nat) : Int) - 1 by rfl];exact and_mask (k := 52) rfl (by decide) hb64
 have copt := (hW.cell (p := ⟨9,0,none⟩) (by show 9 < _;omega)).trans hopt;have hF : ffB hi lo b = fmtN neg (ffD hi lo (feM b) (feX b)).1 (ffD hi lo (feM b) (feX b)).2 := by rw [hneg];rfl
 rw [hF];obtain ⟨m0,hm0⟩ : ∃ m0,m0 = b % 4503599627370496 := ⟨_,rfl⟩;obtain ⟨E,hEe⟩ : ∃ E,E = feE b := ⟨_,rfl⟩;have HM : Hid (feM b = if E = 0 then m0 else m0 + 4503599627370496) := Lib.hid (by rw [hEe,hm0];rfl);have HXx : Hid (feX b = (if E = 0 then 1 else (E : Int)) - 1023) := Lib.hid (by rw [hEe];rfl);rw [← hm0] at tM;rw [← hEe] at tE hE;have hm0l : m0 < 4503599627370496 := by omega
 have hwE : (b : Int) / 4503599627370496 < 4096 := by omega
 clear hneg hm0 hEe hF;go_enter Tryz.func123,Tryz.ntmps123;go_wp2_with fail;go_quiet (fail)
 go_upto_if 78 with fail
 obtain ⟨M,hM⟩ : ∃ M,M = feM b := ⟨_,rfl⟩;obtain ⟨X,hX⟩ : ∃ X,X = feX b := ⟨_,rfl⟩;simp only [← hM,← hX] at Hcs;rw [← hM] at HM;rw [← hX] at HXx;have HMX : Hid (ffD hi lo (feM b) (feX b) = ffD hi lo M X) := Lib.hid (by rw [hM,hX]);clear hM hX;obtain ⟨X1,hX1⟩ : ∃ X1,X1 = X + 1023 := ⟨_,rfl⟩;have HX1 := Lib.hid hX1;have hX2 : X1 + -1023 = X := by omega
 clear hX1
 go_cut [14,15] from 79 to 84 (fun s14 s15 wc => s14 = .int .i64 X1 ∧ s15 = .int .u64 M ∧ wc = w.drewN nq)
 case first =>
  by_cases h0 : E = 0
  · have t0 : ((E : Int) == 0) = true := by rw [beq_iff_eq];omega
    have e1 : X1 = (E : Int) + 1 := by have h1 := HXx.out;have := HX1.out;rw [if_pos h0] at h1;omega
    have e2 : M = m0 := by have := HM.out;rw [if_pos h0] at this;exact this
    clear h0;go_wp2_with fail
    go_meet
    case rel => exact ⟨congrArg _ e1.symm,by rw [e2],rfl⟩
  have t0 : ((E : Int) == 0) = false := by rw [beq_eq_false_iff_ne];omega
  have e1 : X1 = (E : Int) := by have h1 := HXx.out;have := HX1.out;rw [if_neg h0] at h1;omega
  have e2 : M = m0 + 4503599627370496 := by have := HM.out;rw [if_neg h0] at this;exact this
  have e3 : bits BinOp.or IntKind.u64 (m0 : Int) 4503599627370496 = (m0 : Int) + 4503599627370496 := by
   have := u64_or_nat m0 4503599627370496 (by omega) (by decide)
   have h2 : m0 ||| 4503599627370496 = m0 + 4503599627370496 := by
    rw [Nat.or_comm,nat_join 52 _ _ (by decide) (by omega)];omega
   rw [h2] at this;exact Eq.trans this (by omega)
  have E1 := Lib.hid e1;have E2 := Lib.hid e2;clear h0 e1 e2;go_wp2_with fail
  go_meet
  case rel => exact ⟨congrArg _ E1.out.symm,by rw [E2.out];rfl,rfl⟩
 case rest =>
  obtain ⟨rfl,rfl,rfl⟩ := hcut;have hXr : -1022 ≤ X ∧ X ≤ 46 := by have := HXx.out;split at this <;> omega
  have hMl : M < 9007199254740992 := by have := HM.out;split at this <;> omega
  have hMX : Hid (M ≠ 0 → -1022 < X → 4503599627370496 ≤ M) := Lib.hid (by
   intro _ h2
   have h3 := HXx.out
   have := HM.out
   by_cases h0 : E = 0
   · rw [if_pos h0] at h3;omega
   · rw [if_neg h0] at this;omega)
  clear tE tM hE hm0l hwE tneg;have hM0 : M ≠ 0 := Hcs.out.1;have tm : ((M : Int) == 0) = false := by rw [beq_eq_false_iff_ne];omega
  have hMp : Hid (M ≠ 0) := Lib.hid hM0;clear hM0;have hx : ¬ 0 ≤ X := by have := Hcs.out.2.1;omega
  obtain ⟨l,hl⟩ : ∃ l,l = log10F (-X) := ⟨_,rfl⟩
  have hlr : 0 ≤ l ∧ l ≤ 400 := by
   rw [hl];unfold log10F;have : wrap64 ((-X) * 78913) = (-X) * 78913 := by unfold wrap64;omega
   rw [this];omega
  have hlc := fun w => log10_any (-X) w
  have e1 : ndF X = 13 - l := by unfold ndF;rw [if_neg hx,hl]
  rw [← hl] at hlc;have hpos := Hcs.out.2.2;rw [e1] at hpos;obtain ⟨n,hn⟩ : ∃ n : Nat,13 - l = (n : Int) := ⟨(13 - l).toNat,by omega⟩;have E1 : Hid (ndF X = (n : Int)) := Lib.hid (by rw [e1,hn]);clear hl e1;have hn18 : n ≤ 18 := by omega
  have hn0 : 0 < n := by omega
  have hX43 := (ndF_rows (X := X) (by omega) (by rw [E1.out];omega) (by rw [E1.out];omega) (by omega)).1;have hM52 := hMX.out hMp.out (by omega);have hlen := fun w => Tryz.bits_Len64 (M : Int) w (by omega) (by omega)
  rw [Int.toNat_natCast,bitLen53 hM52 hMl] at hlen;obtain ⟨ee,hee⟩ : ∃ ee,X - 11 - 52 = ee := ⟨_,rfl⟩;have hrows := ndF_rows (X := X) (by omega) (by rw [E1.out];omega) (by rw [E1.out];omega) (by omega);obtain ⟨i,hii⟩ : ∃ i,i = fiF X := ⟨_,rfl⟩;have hi2 : (i : Int) = ndF X - 1 - log10F X + 348 := by rw [hii];unfold fiF;omega
  have hxM : xF M 53 = M * 2048 := by
   unfold xF;rw [wrap_u64];have : (M : Int) * 2 ^ (64 - 53) = (M : Int) * 2048 := rfl;rw [this];omega
  obtain ⟨V,hV⟩ : ∃ V,V = fvF hi lo M X := ⟨_,rfl⟩;obtain ⟨P,hPq⟩ : ∃ P,P = fpF hi lo M X := ⟨_,rfl⟩
  have hVr : rndN (fxQ hi lo (M * 2048) i n ee) = V := by
   rw [hV];unfold fvF;rw [hxM,E1.out,Int.toNat_natCast,← hii,show X - 63 = ee by omega]
  have hPr : fxP hi lo (M * 2048) i n ee = P := by
   rw [hPq];unfold fpF;rw [hxM,E1.out,Int.toNat_natCast,← hii,show X - 63 = ee by omega]
  have hPl : P ≤ 12 := by
   rw [← hPr];unfold fxP;split <;> (try split) <;> omega
  have hVl : V < 4611686018427387904 := by rw [← hVr];exact rndN_lt _
  have hfix := fun w hW => fixed_any hi lo (M * 2048) i n ee W0 w hT hb hP h22 hW (by omega) (by omega) (by omega) (by omega) (by rw [show ee + 63 = X by omega];rw [← E1.out];omega)
  have e2048 : ((M * 2048 : Nat) : Int) = (M : Int) * 2048 := by omega
  simp only [hVr,hPr,e2048] at hfix;clear e2048;have HV := Lib.hid hV;have HPq := Lib.hid hPq;clear hVr hPr hV hPq hii hi2 hxM hrows;clear hM52;go_wp2_with fail;refine (hlc _).mono ?_;rintro e w1 ⟨rfl,rfl⟩;go_wp2_with fail;refine (hlen _).mono ?_;rintro e w1 ⟨rfl,rfl⟩;go_wp2_with fail;obtain ⟨g,hg⟩ : ∃ g,g = w.heap.size := ⟨_,rfl⟩;have hb1 : BB ((w.drewN nq).alloc (.cells ((List.replicate 24 (0 : UInt8)).map bcell).toArray 200)) g 200 (List.replicate 24 0) := by rw [hg];exact Blk.new (w.drewN nq) _ _
  have hB1 : Below w.heap.size w ((w.drewN nq).alloc (.cells ((List.replicate 24 (0 : UInt8)).map bcell).toArray 200)) := (below_drewN (Below.refl _ w) nq).alloc (Nat.le_refl _) _;have hB1s : ((w.drewN nq).alloc (.cells ((List.replicate 24 (0 : UInt8)).map bcell).toArray 200)).heap.size = g + 1 := by rw [hg];simp
  refine (hfix _ ((hW.trans (below_drewN (Below.refl _ w) nq)).alloc hW.size _)).mono ?_;rintro e w2 ⟨rfl,hB2⟩;have hB2a : Below (g + 1) ((w.drewN nq).alloc (.cells ((List.replicate 24 (0 : UInt8)).map bcell).toArray 200)) w2 := by rw [← hB1s];exact hB2
  have hb2 : BB w2 g 200 (List.replicate 24 0) := Blk.below hb1 hB2a (by omega);have hB2' : Below w.heap.size w w2 := hB1.trans (hB2a.mono (by omega));have hO2 : Own w2 B v0 [] := hO.below hB2' (Nat.le_refl _);rw [← hg];have hne : v0.ownBlock ≠ some g := fun e => by have := (hO.lt g e).2;omega
  have hW2 : Below W0.heap.size W0 w2 := hW.trans (hB2'.mono hW.size);have hgl : g < w2.heap.size := Blk.lt hb2;have Hg := Lib.hid hg;clear hg;clear hb1 hB1 hB1s hfix hB2 hB2a;by_cases hV0 : V = 0
  · have tv : ((V : Int) != 0) = false := by rw [bne_eq_false_iff_eq];omega
    have e0 : Hid (ffD hi lo M X = ([],0)) := Lib.hid (by unfold ffD;rw [if_neg hMp.out,if_pos (by rw [E1.out];omega),if_pos (by rw [E1.out];omega),← HV.out,if_pos hV0]);clear hV0;have hfm := fmt_any neg [] 0 g 24 24 B v0 false w2 hgl hne (fun i h => absurd h (Nat.not_lt_zero _)) (by decide) (by decide) hO2 (Nat.le_trans hB hB2'.size);rw [List.length_nil,Int.natCast_zero] at hfm;go_wp2_with fail;refine hfm.mono ?_;rintro e w9 ⟨v',rfl,hf⟩;go_wp2_with fail;go_ret;refine ⟨_,rfl,?_⟩;rw [HMX.out,e0.out];exact hf.after hB2'
  have tv : ((V : Int) != 0) = true := by rw [bne_iff_ne];omega
  have e0 : Hid (ffD hi lo M X = (dg (strip V),(nd V : Int) - P)) := Lib.hid (by unfold ffD;simp only;rw [if_neg hMp.out,if_pos (by rw [E1.out];omega),if_pos (by rw [E1.out];omega),← HV.out,if_neg hV0,← HPq.out]);have hV1 : 1 ≤ V := by omega
  clear hV0;have hnd := fun m => Tryz.internal_strconv_numDigits V (by omega) (by omega) (w2.drewN m) (htab _ (below_drewN hW2 m))
  rw [nd_digits (by omega)] at hnd;go_wp2_with fail
  have hcells : ∀ i,i < 24 → w2.cell? ⟨g,i,none⟩ = some (.int .u8 0) := fun i hi => by
   have := BB.has hb2 (i := i) (by rw [List.length_replicate];exact hi);rw [this,List.getElem_replicate];rfl
  have hfrz : ∀ i,w2.frozen? ⟨g,i,none⟩ = false := fun i => hb2.frozen i
  have hV20 : nd V ≤ 20 := nd_le (by omega);have hsd := fun m => setDigits_any V g 24 (-(P : Int)) (w2.drewN m) hV1 (by omega) ⟨by omega,by decide⟩ (by omega) (fun i hi => hcells i hi) (fun i _ => hfrz i)
  clear hcells hfrz
  go_region_with (first | (go_at_call 130;refine (hnd _).mono ?_;rintro e w4 ⟨rfl,rfl⟩) | (go_at_call 159;refine (hsd _).mono ?_;rintro e w5 ⟨rfl,hDg,hO5⟩))
  clear hnd hsd;have hB5 : Below w.heap.size w w5 := ⟨hO5.os.trans hB2'.os,hO5.tape.trans hB2'.tape,hO5.output.trans hB2'.output,Nat.le_trans hB2'.size hO5.size,fun k hk => (hO5.block k (Nat.lt_of_lt_of_le hk hB2'.size) (fun e => by injection e with e;have := Hg.out;omega)).trans (hB2'.block k hk)⟩;have hO6 : Own w5 B v0 [] := hO.below hB5 (Nat.le_refl _);have hgl5 : g < w5.heap.size := Nat.lt_of_lt_of_le hgl hO5.size;have hln : (dg (strip V)).length = nd (strip V) := rfl;have hsl := strip_nd_le (n := V) (by omega);have hndP : (nd V : Int) + -(P : Int) = (nd V : Int) - P := by omega
  have hfm := fmt_any neg (dg (strip V)) ((nd V : Int) - P) g 24 24 B v0 false w5 hgl5 hne hDg ⟨by rw [hln];omega,by decide,by decide⟩ ⟨by omega,by omega⟩ hO6 (Nat.le_trans hB hB5.size);rw [hln,← hndP] at hfm;have Hfm := Lib.hid hfm;have HndP := Lib.hid hndP;clear hfm hndP hDg hO5 hln hb2 hO2 hB2';go_wp2_with fail;refine Hfm.out.mono ?_;rintro e w9 ⟨v',rfl,hf⟩;go_wp2_with fail;go_ret;refine ⟨_,rfl,?_⟩;rw [HMX.out,e0.out,← HndP.out];exact hf.after hB5
theorem ftoa_small (hi lo : Nat → Nat) (b B : Nat) (v0 : Value) (W0 w : World) (hT : ∀ i,i < 696 → W0.cell? ⟨22,i * 2,none⟩ = some (.int .u64 (hi i)) ∧ W0.cell? ⟨22,i * 2 + 1,none⟩ = some (.int .u64 (lo i))) (hb : ∀ i,i < 696 → hi i < 18446744073709551616 ∧ lo i < 18446744073709551616)
 (hP : ∀ i,i < 20 → W0.cell? ⟨10,i,none⟩ = some (.int .u64 ((10 ^ i : Nat) : Int))) (htab : ∀ w',Below W0.heap.size W0 w' → Lib.TabIs Tryz.prog w' "internal/strconv.uint64pow10" .u64 Lib.pow10Tab)
 (hopt : W0.cell? ⟨9,0,none⟩ = some (.bool true)) (h22 : 22 < W0.heap.size) (hW : Below W0.heap.size W0 w) (hb64 : b < 18446744073709551616) (hE : feE b ≤ 1069) (hO : Own w B v0 []) (hB : B ≤ w.heap.size) (hB0 : W0.heap.size ≤ B) (hcs : feM b ≠ 0 ∧ feX b < 0 ∧ ndF (feX b) ≤ 0) :
 Calls Tryz.prog 123 #[v0,.float .f64 b,.int .u8 102,.int .i64 12] w fun e w' => ∃ v',e = .returned v' ∧ FS w w' B v0 v' (ffB hi lo b) := by
 have Hcs := Lib.hid hcs;clear hcs;have hbr := bits_run;obtain ⟨neg,hneg⟩ : ∃ neg,neg = decide (b / 9223372036854775808 ≠ 0) := ⟨_,rfl⟩
 have tneg : ((b : Int) / 9223372036854775808 != 0) = neg := by
  rw [hneg];by_cases h : b / 9223372036854775808 = 0
  · rw [decide_eq_false (by omega),bne_eq_false_iff_eq];omega
  rw [decide_eq_true h,bne_iff_ne];omega
 have tE : bits BinOp.and IntKind.i64 ((b : Int) / 4503599627370496) 2047 = (feE b : Int) := by
  show IntKind.i64.wrap ((BitVec.ofInt 64 ((b : Int) / 4503599627370496) &&& BitVec.ofInt 64 2047).toNat : Int) = _;have e1 : (BitVec.ofInt 64 ((b : Int) / 4503599627370496)).toNat = b / 4503599627370496 := by rw [show (b : Int) / 4503599627370496 = ((b / 4503599627370496 : Nat) : Int) by omega];exact ofInt_u64 _ (by omega)
  have e2 : (BitVec.ofInt 64 2047).toNat = 2 ^ 11 - 1 := by decide
  rw [BitVec.toNat_and,e1,e2,Nat.and_two_pow_sub_one_eq_mod];unfold feE;simp [IntKind.wrap,IntKind.bits,IntKind.signed];omega
 have tM : bits BinOp.and IntKind.u64 (b : Int) 4503599627370495 = ((b % 4503599627370496 : Nat) : Int) := by
  rw [show (4503599627370495 : Int) = ((4503599627370496 : Nat) : Int) - 1 by rfl];exact and_mask (k := 52) rfl (by decide) hb64
 have copt := (hW.cell (p := ⟨9,0,none⟩) (by show 9 < _;omega)).trans hopt;have hF : ffB hi lo b = fmtN neg (ffD hi lo (feM b) (feX b)).1 (ffD hi lo (feM b) (feX b)).2 := by rw [hneg];rfl
 rw [hF];obtain ⟨m0,hm0⟩ : ∃ m0,m0 = b % 4503599627370496 := ⟨_,rfl⟩;obtain ⟨E,hEe⟩ : ∃ E,E = feE b := ⟨_,rfl⟩;have HM : Hid (feM b = if E = 0 then m0 else m0 + 4503599627370496) := Lib.hid (by rw [hEe,hm0];rfl);have HXx : Hid (feX b = (if E = 0 then 1 else (E : Int)) - 1023) := Lib.hid (by rw [hEe];rfl);rw [← hm0] at tM;rw [← hEe] at tE hE;have hm0l : m0 < 4503599627370496 := by omega
 have hwE : (b : Int) / 4503599627370496 < 4096 := by omega
 clear hneg hm0 hEe hF;go_enter Tryz.func123,Tryz.ntmps123;go_wp2_with fail;go_quiet (fail)
 go_upto_if 78 with fail
 obtain ⟨M,hM⟩ : ∃ M,M = feM b := ⟨_,rfl⟩;obtain ⟨X,hX⟩ : ∃ X,X = feX b := ⟨_,rfl⟩;simp only [← hM,← hX] at Hcs;rw [← hM] at HM;rw [← hX] at HXx;have HMX : Hid (ffD hi lo (feM b) (feX b) = ffD hi lo M X) := Lib.hid (by rw [hM,hX]);clear hM hX;obtain ⟨X1,hX1⟩ : ∃ X1,X1 = X + 1023 := ⟨_,rfl⟩;have HX1 := Lib.hid hX1;have hX2 : X1 + -1023 = X := by omega
 clear hX1
 go_cut [14,15] from 79 to 84 (fun s14 s15 wc => s14 = .int .i64 X1 ∧ s15 = .int .u64 M ∧ wc = w.drewN nq)
 case first =>
  by_cases h0 : E = 0
  · have t0 : ((E : Int) == 0) = true := by rw [beq_iff_eq];omega
    have e1 : X1 = (E : Int) + 1 := by have h1 := HXx.out;have := HX1.out;rw [if_pos h0] at h1;omega
    have e2 : M = m0 := by have := HM.out;rw [if_pos h0] at this;exact this
    clear h0;go_wp2_with fail
    go_meet
    case rel => exact ⟨congrArg _ e1.symm,by rw [e2],rfl⟩
  have t0 : ((E : Int) == 0) = false := by rw [beq_eq_false_iff_ne];omega
  have e1 : X1 = (E : Int) := by have h1 := HXx.out;have := HX1.out;rw [if_neg h0] at h1;omega
  have e2 : M = m0 + 4503599627370496 := by have := HM.out;rw [if_neg h0] at this;exact this
  have e3 : bits BinOp.or IntKind.u64 (m0 : Int) 4503599627370496 = (m0 : Int) + 4503599627370496 := by
   have := u64_or_nat m0 4503599627370496 (by omega) (by decide)
   have h2 : m0 ||| 4503599627370496 = m0 + 4503599627370496 := by
    rw [Nat.or_comm,nat_join 52 _ _ (by decide) (by omega)];omega
   rw [h2] at this;exact Eq.trans this (by omega)
  have E1 := Lib.hid e1;have E2 := Lib.hid e2;clear h0 e1 e2;go_wp2_with fail
  go_meet
  case rel => exact ⟨congrArg _ E1.out.symm,by rw [E2.out];rfl,rfl⟩
 case rest =>
  obtain ⟨rfl,rfl,rfl⟩ := hcut;have hXr : -1022 ≤ X ∧ X ≤ 46 := by have := HXx.out;split at this <;> omega
  have hMl : M < 9007199254740992 := by have := HM.out;split at this <;> omega
  have hMX : Hid (M ≠ 0 → -1022 < X → 4503599627370496 ≤ M) := Lib.hid (by
   intro _ h2
   have h3 := HXx.out
   have := HM.out
   by_cases h0 : E = 0
   · rw [if_pos h0] at h3;omega
   · rw [if_neg h0] at this;omega)
  clear tE tM hE hm0l hwE tneg;have hM0 : M ≠ 0 := Hcs.out.1;have tm : ((M : Int) == 0) = false := by rw [beq_eq_false_iff_ne];omega
  have hMp : Hid (M ≠ 0) := Lib.hid hM0;clear hM0;have hx : ¬ 0 ≤ X := by have := Hcs.out.2.1;omega
  obtain ⟨l,hl⟩ : ∃ l,l = log10F (-X) := ⟨_,rfl⟩
  have hlr : 0 ≤ l ∧ l ≤ 400 := by
   rw [hl];unfold log10F;have : wrap64 ((-X) * 78913) = (-X) * 78913 := by unfold wrap64;omega
   rw [this];omega
  have hlc := fun w => log10_any (-X) w
  have e1 : ndF X = 13 - l := by unfold ndF;rw [if_neg hx,hl]
  rw [← hl] at hlc;have hpos := Hcs.out.2.2;rw [e1] at hpos;obtain ⟨n,hn⟩ : ∃ n : Int,13 - l = n := ⟨_,rfl⟩;have E1 : Hid (ndF X = n) := Lib.hid (by rw [e1,hn]);have hn0 : n ≤ 0 ∧ -1000 ≤ n := by omega
  have e0 : Hid (ffD hi lo M X = ([],0)) := Lib.hid (by unfold ffD;rw [if_neg hMp.out,if_pos (by rw [E1.out];omega),if_neg (by rw [E1.out];omega)]);clear hl e1;go_wp2_with fail;refine (hlc _).mono ?_;rintro e w1 ⟨rfl,rfl⟩;go_wp2_with fail;obtain ⟨g,hg⟩ : ∃ g,g = w.heap.size := ⟨_,rfl⟩;have hb1 : BB ((w.drewN nq).alloc (.cells ((List.replicate 24 (0 : UInt8)).map bcell).toArray 200)) g 200 (List.replicate 24 0) := by rw [hg];exact Blk.new (w.drewN nq) _ _
  have hB1 : Below w.heap.size w ((w.drewN nq).alloc (.cells ((List.replicate 24 (0 : UInt8)).map bcell).toArray 200)) := (below_drewN (Below.refl _ w) nq).alloc (Nat.le_refl _) _;have hO2 : Own ((w.drewN nq).alloc (.cells ((List.replicate 24 (0 : UInt8)).map bcell).toArray 200)) B v0 [] := hO.below hB1 (Nat.le_refl _);have hne : v0.ownBlock ≠ some g := fun e => by have := (hO.lt g e).2;omega
  have hgl := Blk.lt hb1;have Hg := Lib.hid hg;rw [← hg];clear hg;have hfm := fmt_any neg [] 0 g 24 24 B v0 false _ hgl hne (fun i h => absurd h (Nat.not_lt_zero _)) (by decide) (by decide) hO2 (Nat.le_trans hB hB1.size);rw [List.length_nil,Int.natCast_zero] at hfm;refine hfm.mono ?_;rintro e w9 ⟨v',rfl,hf⟩;go_wp2_with fail;go_ret;refine ⟨_,rfl,?_⟩;rw [HMX.out,e0.out];exact hf.after hB1
end Go.Proofs.YtcpijmbdibgdmaaGreatDoor
namespace Go.Proofs.YtcpijmbdibgdmaaGreatDoor
def okR : Bool → List UInt8 → Bool
 | _,[] => true
 | d,c :: l => if digitB c = true then okR d l else decide (c.toNat = 46) && !d && okR true l
structure RFS where
 dot : Bool
 dig : Bool
 nd : Nat
 nm : Nat
 dp : Int
 m : Nat
 tr : Bool
def RFS.zero : RFS := ⟨false,false,0,0,0,0,false⟩
def rfS (s : RFS) (c : UInt8) : RFS :=
 if c.toNat = 46 then { s with dot := true,dp := s.nd }
 else if c.toNat = 48 ∧ s.nd = 0 then { s with dig := true,dp := s.dp - 1 }
 else if s.nm < 19 then { s with dig := true,nd := s.nd + 1,nm := s.nm + 1,m := s.m * 10 + (c.toNat - 48) }
 else { s with dig := true,nd := s.nd + 1,tr := s.tr || decide (c.toNat ≠ 48) }
def rfL (s : RFS) (l : List UInt8) : RFS := l.foldl rfS s
def nS (N : Nat) (c : UInt8) : Nat := if c.toNat = 46 then N else N * 10 + (c.toNat - 48)
def nL (N : Nat) (l : List UInt8) : Nat := l.foldl nS N
structure RIn (s : RFS) (N n a : Nat) : Prop where
 h1 : s.nd ≤ n
 h2 : s.nm = min s.nd 19
 h3 : s.m < 10 ^ s.nm
 h4 : s.nd ≠ 0 → s.m ≠ 0
 h5 : nd N = s.nd
 h6 : -(n : Int) ≤ s.dp
 h7 : s.dp ≤ (a : Int)
 h8 : s.dot = false → a = n
 h9 : n ≠ 0 → s.dig = true
 h10 : s.nd = 0 → s.m = 0
theorem RIn.zero : RIn RFS.zero 0 0 0 := ⟨by decide,by decide,by decide,fun h => absurd rfl h,nd_zero,by decide,by decide,fun _ => rfl,fun h => absurd rfl h,fun _ => rfl⟩
theorem RIn.digit {s : RFS} {N n a : Nat} {c : UInt8} (h : RIn s N n a) (hc : 48 ≤ c.toNat ∧ c.toNat ≤ 57) : RIn (rfS s c) (nS N c) (n + 1) (if s.dot = true then a else a + 1) := by
 obtain ⟨h1,h2,h3,h4,h5,h6,h7,h8,h9,h10⟩ := h;have ha : (a : Int) ≤ ((if s.dot = true then a else a + 1 : Nat) : Int) := by split <;> omega
 have ha2 : s.dot = false → (if s.dot = true then a else a + 1) = n + 1 := by intro e;rw [if_neg (by rw [e];decide),h8 e]
 have h46 : (c.toNat = 46) = False := eq_false (by omega);unfold rfS nS;simp only [h46,if_false];by_cases hz : c.toNat = 48 ∧ s.nd = 0
 · rw [if_pos hz];have hN : N = 0 := nd_none (by omega);refine ⟨by show s.nd ≤ _;omega,h2,h3,h4,?_,by show _ ≤ s.dp - 1;omega,by show s.dp - 1 ≤ _;omega,ha2,fun _ => rfl,h10⟩;show nd _ = s.nd;rw [hN,show 0 * 10 + (c.toNat - 48) = 0 by omega,nd_zero];omega
 rw [if_neg hz]
 have hN : nd (N * 10 + (c.toNat - 48)) = s.nd + 1 := by
  rw [show N * 10 + (c.toNat - 48) = 10 * N + (c.toNat - 48) by omega,nd_snoc ?_ (by omega),h5];by_cases h0 : N = 0
  · right;subst h0;rw [nd_zero] at h5;omega
  exact .inl h0
 by_cases hm : s.nm < 19
 · rw [if_pos hm];have e1 : s.nm = s.nd := by omega
   refine ⟨by show s.nd + 1 ≤ _;omega,by show s.nm + 1 = min (s.nd + 1) 19;omega,?_,?_,hN,by show _ ≤ s.dp;omega,by show s.dp ≤ _;omega,ha2,fun _ => rfl,fun h => ?_⟩
   · show s.m * 10 + (c.toNat - 48) < 10 ^ (s.nm + 1);rw [Nat.pow_succ];omega
   · intro _;show s.m * 10 + (c.toNat - 48) ≠ 0;by_cases h0 : s.nd = 0
     · have : c.toNat ≠ 48 := fun e => hz ⟨e,h0⟩
       omega
     have := h4 h0;omega
   exact absurd h (by show s.nd + 1 ≠ 0;omega)
 rw [if_neg hm];refine ⟨by show s.nd + 1 ≤ _;omega,by show s.nm = min (s.nd + 1) 19;omega,h3,fun _ => h4 (by omega),hN,by show _ ≤ s.dp;omega,by show s.dp ≤ _;omega,ha2,fun _ => rfl,fun h => ?_⟩;exact absurd h (by show s.nd + 1 ≠ 0;omega)
theorem RIn.point {s : RFS} {N n a : Nat} {c : UInt8} (h : RIn s N n a) (hc : c.toNat = 46) (hd : s.dot = false) : RIn (rfS s c) (nS N c) n a := by
 obtain ⟨h1,h2,h3,h4,h5,h6,h7,h8,h9,h10⟩ := h;have := h8 hd;unfold rfS nS;rw [if_pos hc,if_pos hc];exact ⟨h1,h2,h3,h4,h5,(by show _ ≤ (s.nd : Int);omega),(by show (s.nd : Int) ≤ _;omega),(fun e => Bool.noConfusion e),h9,h10⟩
theorem rfS_dot {s : RFS} {c : UInt8} (h : c.toNat ≠ 46) : (rfS s c).dot = s.dot := by
 unfold rfS;rw [if_neg h];split
 · rfl
 split <;> rfl
theorem rs_fin : ∀ (l : List UInt8) (s : RFS) (N n a n' a' : Nat),RIn s N n a → cntM l n (if s.dot = true then 1 else 0) a = some (n',1,a') →
 RIn (rfL s l) (nL N l) n' a' ∧ (rfL s l).dot = true ∧ okR s.dot l = true
 | [],s,N,n,a,n',a',h,hc => by
   simp only [cntM,Option.some.injEq,Prod.mk.injEq] at hc;obtain ⟨rfl,hc,rfl⟩ := hc
   have hd : s.dot = true := by
    cases hs : s.dot with
    | true => rfl
    | false => rw [hs] at hc;simp at hc
   exact ⟨h,hd,rfl⟩
 | c :: l,s,N,n,a,n',a',h,hc => by
   rw [cntM] at hc;rw [rfL,nL,List.foldl_cons,List.foldl_cons,okR];by_cases hb : digitB c = true
   · rw [if_pos hb] at hc;rw [if_pos hb];have hb' : 48 ≤ c.toNat ∧ c.toNat ≤ 57 := by simpa [digitB] using hb
     have ed := rfS_dot (s := s) (c := c) (by omega);have e : (if (if s.dot = true then 1 else 0) = 0 then a + 1 else a) = (if s.dot = true then a else a + 1) := by cases s.dot <;> rfl
     rw [e] at hc;have := rs_fin l (rfS s c) (nS N c) (n + 1) _ n' a' (h.digit hb') (by rw [ed];exact hc);rw [ed] at this;exact this
   rw [if_neg hb] at hc;rw [if_neg hb];by_cases h46 : c.toNat = 46
   · rw [if_pos h46] at hc
     cases hd : s.dot with
     | true =>
       exfalso;rw [hd] at hc
       have hm : ∀ (l : List UInt8) (d p a d' a' : Nat),2 ≤ p → cntM l d p a ≠ some (d',1,a') := by
        intro l
        induction l with
        | nil => intro d p a d' a' hp e;simp [cntM] at e;omega
        | cons b l ih =>
          intro d p a d' a' hp e;rw [cntM] at e;split at e
          · exact ih _ _ _ _ _ hp e
          split at e
          · exact ih _ _ _ _ _ (by omega) e
          cases e
       exact hm l _ _ _ _ _ (by simp) hc
     | false =>
       rw [hd] at hc;have hd2 : (rfS s c).dot = true := by unfold rfS;rw [if_pos h46]
       have := rs_fin l (rfS s c) (nS N c) n a n' a' (h.point h46 hd) (by rw [hd2];exact hc);rw [hd2] at this;refine ⟨this.1,this.2.1,?_⟩;simp [h46,this.2.2]
   rw [if_neg h46] at hc;cases hc
theorem real_fin {t : List UInt8} (h : numM t = .real) : ∃ n a,a ≤ 14 ∧ n ≤ 60 ∧ n ≠ 0 ∧ RIn (rfL RFS.zero (unsign t)) (nL 0 (unsign t)) n a ∧ (rfL RFS.zero (unsign t)).dot = true ∧ okR false (unsign t) = true := by
 unfold numM at h;split at h
 · cases h
 rename_i d p a hc;split at h
 · cases h
 split at h
 · cases h
 split at h
 · rename_i hp;subst hp;have := rs_fin (unsign t) RFS.zero 0 0 0 d a RIn.zero hc;exact ⟨d,a,by omega,by omega,by omega,this⟩
 split at h
 · split at h <;> cases h
 cases h
end Go.Proofs.YtcpijmbdibgdmaaGreatDoor
