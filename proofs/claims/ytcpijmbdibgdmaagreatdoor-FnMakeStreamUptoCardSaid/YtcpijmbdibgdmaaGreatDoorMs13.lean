/-
  internal/strconv: readFloat of a decimal number with a point.
  internal/strconv: decimal.set of a decimal number with a point.
  internal/strconv: decimal.floatBits.
-/
import Derived.Test.YtcpijmbdibgdmaaGreatDoorMs12
import Derived.WalkMore
import Derived.ScopeJumps
set_option linter.all false
set_option maxHeartbeats 16000000
set_option maxRecDepth 100000
namespace Go.Proofs.YtcpijmbdibgdmaaGreatDoor
open Go.RowKit
attribute [local go_sem] ba_get store_flt
theorem dlower_any (c : Int) (w : World) : Calls Tryz.prog 133 #[.int .u8 c] w fun e w' => e = .returned (.int .u8 (bits .or .u8 c 32)) ∧ w = w' :=
 (Tryz.internal_strconv_lower c w).mono fun _ _ ⟨a,b⟩ => ⟨a,b.symm⟩
def expF (s : RFS) : Int := if s.m ≠ 0 then s.dp - s.nm else 0
def RFv (s : RFS) (neg : Bool) (n : Nat) : Value := .tuple #[.int .u64 s.m,.int .i64 (expF s),.bool neg,.bool s.tr,.bool false,.int .i64 n,.bool true]
theorem okR_mem : ∀ (l : List UInt8) (d : Bool),okR d l = true → ∀ b ∈ l,46 ≤ b.toNat ∧ b.toNat ≤ 57 ∧ b.toNat ≠ 47
 | [],_,_,_,hb => by cases hb
 | c :: l,d,h,b,hb => by
   rw [okR] at h;by_cases hc : digitB c = true
   · rw [if_pos hc] at h;rcases List.mem_cons.1 hb with rfl | hb
     · have : 48 ≤ b.toNat ∧ b.toNat ≤ 57 := by simpa [digitB] using hc
       omega
     exact okR_mem l d h b hb
   rw [if_neg hc,Bool.and_eq_true,Bool.and_eq_true,decide_eq_true_eq] at h;rcases List.mem_cons.1 hb with rfl | hb
   · omega
   exact okR_mem l true h.2 b hb
theorem low_ne {x : Nat} (h : 46 ≤ x ∧ x ≤ 57) : (bits BinOp.or IntKind.u8 (x : Int) 32 == 120) = false := by
 have : x = 46 ∨ x = 47 ∨ x = 48 ∨ x = 49 ∨ x = 50 ∨ x = 51 ∨ x = 52 ∨ x = 53 ∨ x = 54 ∨ x = 55 ∨ x = 56 ∨ x = 57 := by omega
 rcases this with rfl | rfl | rfl | rfl | rfl | rfl | rfl | rfl | rfl | rfl | rfl | rfl <;> rfl
theorem pow_num {a b m : Nat} (h : a ≤ b) (hm : 10 ^ b = m) : 10 ^ a ≤ m := by rw [← hm];exact Nat.pow_le_pow_right (by decide) h
theorem rf_core (t : List UInt8) (i0 : Nat) (neg : Bool) (w : World) (hs : t.length ≤ 1048576) (fin : RFS) (hfin : fin = rfL RFS.zero (t.drop i0)) (hok : okR false (t.drop i0) = true) (hdot : fin.dot = true) (hdig : fin.dig = true) (hdpb : -1048576 ≤ fin.dp ∧ fin.dp ≤ 1048576) (hnmb : fin.nm ≤ 19)
 (hi0 : i0 < t.length) (hsg : (i0 = 0 ∧ neg = false ∧ ∀ h : 0 < t.length,t[0].toNat ≠ 43 ∧ t[0].toNat ≠ 45) ∨ (i0 = 1 ∧ ∃ h : 0 < t.length,(neg = true ∧ t[0].toNat = 45 ∨ neg = false ∧ t[0].toNat = 43))) :
 Calls Tryz.prog 190 #[S t] w fun e w' => e = .returned (RFv fin neg t.length) ∧ w = w' := by
 obtain ⟨m0,hm0⟩ : ∃ m0,m0 = fin.m := ⟨_,rfl⟩;obtain ⟨e0,he0⟩ : ∃ e0,e0 = expF fin := ⟨_,rfl⟩;obtain ⟨p0,hp0⟩ : ∃ p0,p0 = fin.dp := ⟨_,rfl⟩;obtain ⟨n0,hn0⟩ : ∃ n0,n0 = fin.nm := ⟨_,rfl⟩;have hR : RFv fin neg t.length = .tuple #[.int .u64 m0,.int .i64 e0,.bool neg,.bool fin.tr,.bool false,.int .i64 t.length,.bool true] := by rw [hm0,he0];rfl
 rw [hR];have hE : e0 = if m0 ≠ 0 then p0 - n0 else 0 := by rw [he0,hm0,hp0,hn0];rfl
 have HE := Lib.hid hE;have hb1 : -1048576 ≤ p0 ∧ p0 ≤ 1048576 := by rw [hp0];exact hdpb
 have hb2 : n0 ≤ 19 := by rw [hn0];exact hnmb
 have Hm0 := Lib.hid hm0;have Hp0 := Lib.hid hp0;have Hn0 := Lib.hid hn0;clear hR hm0 he0 hp0 hn0 hE;have tl : ¬ t = [] := by intro e;rw [e] at hi0;simp at hi0
 have Hok := Lib.hid hok;have Hfin := Lib.hid hfin;have Hsg := Lib.hid hsg;have hi1 : i0 ≤ 1 := by omega
 have h0 : 0 < t.length := by omega
 clear hok hfin hsg;go_enter Tryz.func190,Tryz.ntmps190;go_wp2_with fail
 go_step3
 go_upto_block 0 with fail
 go_cut [4,7] from 28 to 35 (fun v4 v7 wc => v4 = .bool neg ∧ v7 = .int .i64 i0 ∧ w = wc)
 case first =>
  rcases Hsg.out with ⟨rfl,rfl,hc⟩ | ⟨rfl,_,⟨rfl,hc⟩ | ⟨rfl,hc⟩⟩
  · have hc0 := hc h0;have t1 : ((((t[0]'h0).toNat : Nat) : Int) == 43) = false := by rw [beq_eq_false_iff_ne];omega
    have t2 : ((((t[0]'h0).toNat : Nat) : Int) == 45) = false := by rw [beq_eq_false_iff_ne];omega
    clear hc hc0;go_wp2_with fail
    go_meet
    case rel => exact ⟨rfl,rfl,rfl⟩
  · have t1 : ((((t[0]'h0).toNat : Nat) : Int) == 43) = false := by rw [beq_eq_false_iff_ne];omega
    have t2 : ((((t[0]'h0).toNat : Nat) : Int) == 45) = true := by rw [beq_iff_eq];omega
    clear hc;go_wp2_with fail
    go_meet
    case rel => exact ⟨rfl,rfl,rfl⟩
  have t1 : ((((t[0]'h0).toNat : Nat) : Int) == 43) = true := by rw [beq_iff_eq];omega
  clear hc;go_wp2_with fail
  go_meet
  case rel => exact ⟨rfl,rfl,rfl⟩
 case rest =>
 obtain ⟨rfl,rfl,rfl⟩ := hcut;have hmem := okR_mem _ _ Hok.out
 go_upto_region 12 with fail
 go_cut [46,54] from 36 to 54 (fun v46 v54 wc => v54 = .bool false ∧ w = wc)
 case first =>
  by_cases h2 : i0 + 2 < t.length
  · have t2 : decide ((i0 : Int) + 2 < (t.length : Int)) = true := by rw [decide_eq_true_eq];omega
    have hb : i0 + 1 < t.length := by omega
    have hx := hmem (t[i0 + 1]) (by
     have : t[i0 + 1] = (t.drop i0)[1]'(by rw [List.length_drop];omega) := by rw [List.getElem_drop]
     rw [this]
     exact List.getElem_mem _)
    have tx := low_ne (x := t[i0 + 1].toNat) ⟨hx.1,hx.2.1⟩;by_cases h48 : t[i0].toNat = 48
    · have t48 : (((t[i0].toNat : Nat) : Int) == 48) = true := by rw [beq_iff_eq];omega
      clear h48 hmem hx;go_wp2_with fail;refine (dlower_any _ _).mono ?_;rintro e w1 ⟨rfl,rfl⟩;go_wp2_with fail
      go_meet
      case rel => exact ⟨rfl,rfl⟩
    have t48 : (((t[i0].toNat : Nat) : Int) == 48) = false := by rw [beq_eq_false_iff_ne];omega
    clear h48 hmem hx;go_wp2_with fail
    go_meet
    case rel => exact ⟨rfl,rfl⟩
  have t2 : decide ((i0 : Int) + 2 < (t.length : Int)) = false := by rw [decide_eq_false_iff_not];omega
  clear hmem;go_wp2_with fail
  go_meet
  case rel => exact ⟨rfl,rfl⟩
 case rest =>
 obtain ⟨rfl,rfl⟩ := hcut;clear hmem;go_wp2_with fail
 go_step3
 go_upto_block 1 with fail
 go_cut [2,5,7,9,13,14,15,16,17] from 57 to 138 (fun v2 v5 v7 v9 v13 v14 v15 v16 v17 wc => v2 = .int .u64 fin.m ∧ v5 = .bool fin.tr ∧ v7 = .int .i64 t.length ∧ v9 = .bool false ∧ v13 = .bool true ∧ v14 = .bool true ∧ v15 = .int .i64 fin.nd ∧ v16 = .int .i64 fin.nm ∧ v17 = .int .i64 fin.dp ∧ w = wc)
 case first =>
  go_wp2_with fail
  go_loopg [2,5,7,9,13,14,15,16,17] (t.length - i0) (fun g v2 v5 v7 v9 v13 v14 v15 v16 v17 wr => ∃ (i : Nat) (s : RFS) (N n a : Nat),v2 = .int .u64 s.m ∧ v5 = .bool s.tr ∧ v7 = .int .i64 i ∧ v9 = .bool false ∧ v13 = .bool s.dot ∧ v14 = .bool s.dig ∧ v15 = .int .i64 s.nd ∧ v16 = .int .i64 s.nm ∧ v17 = .int .i64 s.dp ∧
   g + i = t.length ∧ n ≤ i ∧ a ≤ n ∧ RIn s N n a ∧ rfL s (t.drop i) = fin ∧ okR s.dot (t.drop i) = true ∧ w = wr)
  case atStart => exact ⟨i0,RFS.zero,0,0,0,rfl,rfl,rfl,rfl,rfl,rfl,rfl,rfl,rfl,by omega,by omega,by omega,RIn.zero,Hfin.out.symm,Hok.out,rfl⟩
  case round =>
   obtain ⟨i,⟨dot,dig,d,nm,dp,m,tr⟩,N,n,a,rfl,rfl,rfl,rfl,rfl,rfl,rfl,rfl,rfl,hg,hni,han,hin,hrl,hokr,rfl⟩ := hrel;dsimp only at *;have q1 : d ≤ n := hin.h1;have q2 : nm ≤ 19 := by have := hin.h2;dsimp only at this;omega
   have q3 : m < 10 ^ nm := hin.h3;have q6 : -(n : Int) ≤ dp := hin.h6;have q7 : dp ≤ (a : Int) := hin.h7;have Hin := Lib.hid hin;have Hg := Lib.hid hg;clear hin hg;by_cases hlt : i < t.length
   · rw [drop_at hlt] at hrl hokr;rw [rfL,List.foldl_cons] at hrl;have Hrl : Hid (rfL (rfS ⟨dot,dig,d,nm,dp,m,tr⟩ t[i]) (t.drop (i + 1)) = fin) := Lib.hid hrl;clear hrl;rw [okR] at hokr;by_cases hb : digitB t[i] = true
     · rw [if_pos hb] at hokr;have hb' : 48 ≤ t[i].toNat ∧ t[i].toNat ≤ 57 := by simpa [digitB] using hb
       have Hokr := Lib.hid hokr;clear hokr hb;have t95 : (((t[i].toNat : Nat) : Int) == 95) = false := by rw [beq_eq_false_iff_ne];omega
       have t46 : (((t[i].toNat : Nat) : Int) == 46) = false := by rw [beq_eq_false_iff_ne];omega
       have l1 : decide ((48 : Int) ≤ ((t[i].toNat : Nat) : Int)) = true := by rw [decide_eq_true_eq];omega
       have l2 : decide (((t[i].toNat : Nat) : Int) ≤ 57) = true := by rw [decide_eq_true_eq];omega
       by_cases hz : t[i].toNat = 48 ∧ d = 0
       · obtain ⟨hz1,hz2⟩ := hz;have t48 : (((t[i].toNat : Nat) : Int) == 48) = true := by rw [beq_iff_eq];omega
         have td : ((d : Int) == 0) = true := by rw [beq_iff_eq];omega
         have Hz1 := Lib.hid hz1;have Hz2 := Lib.hid hz2;clear hz1 hz2;go_wp2_with fail
         go_roundg (gk - 1)
         case measure => have := Hg.out;omega
         case rel =>
          have ev : rfS ⟨dot,dig,d,nm,dp,m,tr⟩ t[i] = ⟨dot,true,d,nm,dp - 1,m,tr⟩ := by unfold rfS;rw [if_neg (by omega),if_pos ⟨Hz1.out,Hz2.out⟩]
          have hr := Hrl.out;have hn := Hin.out.digit hb';rw [ev] at hr hn;exact ⟨i + 1,_,_,_,_,rfl,rfl,rfl,rfl,rfl,rfl,rfl,rfl,rfl,by have := Hg.out;omega,by omega,by split <;> omega,hn,hr,Hokr.out,rfl⟩
       by_cases hnm : nm < 19
       · have tn : decide ((nm : Int) < 19) = true := by rw [decide_eq_true_eq];omega
         have q4 : m < 1000000000000000000 := Nat.lt_of_lt_of_le q3 (pow_num (show nm ≤ 18 by omega) (by decide));have Hz := Lib.hid hz;by_cases hx : t[i].toNat = 48
         · have t48 : (((t[i].toNat : Nat) : Int) == 48) = true := by rw [beq_iff_eq];omega
           have td : ((d : Int) == 0) = false := by rw [beq_eq_false_iff_ne];omega
           have Hx := Lib.hid hx;clear hz hx;go_wp2_with fail
           go_roundg (gk - 1)
           case measure => have := Hg.out;omega
           case rel =>
            have ev : rfS ⟨dot,dig,d,nm,dp,m,tr⟩ t[i] = ⟨dot,true,d + 1,nm + 1,dp,m * 10 + (t[i].toNat - 48),tr⟩ := by unfold rfS;rw [if_neg (by omega),if_neg Hz.out,if_pos hnm]
            have hr := Hrl.out;have hn := Hin.out.digit hb';rw [ev] at hr hn;exact ⟨i + 1,_,_,_,_,congrArg _ (by dsimp only;omega),rfl,rfl,rfl,rfl,rfl,rfl,rfl,rfl,by have := Hg.out;omega,by omega,by split <;> omega,hn,hr,Hokr.out,rfl⟩
         have t48 : (((t[i].toNat : Nat) : Int) == 48) = false := by rw [beq_eq_false_iff_ne];omega
         have Hx := Lib.hid hx;clear hz hx;go_wp2_with fail
         go_roundg (gk - 1)
         case measure => have := Hg.out;omega
         case rel =>
          have ev : rfS ⟨dot,dig,d,nm,dp,m,tr⟩ t[i] = ⟨dot,true,d + 1,nm + 1,dp,m * 10 + (t[i].toNat - 48),tr⟩ := by unfold rfS;rw [if_neg (by omega),if_neg Hz.out,if_pos hnm]
          have hr := Hrl.out;have hn := Hin.out.digit hb';rw [ev] at hr hn;exact ⟨i + 1,_,_,_,_,congrArg _ (by dsimp only;omega),rfl,rfl,rfl,rfl,rfl,rfl,rfl,rfl,by have := Hg.out;omega,by omega,by split <;> omega,hn,hr,Hokr.out,rfl⟩
       have tn : decide ((nm : Int) < 19) = false := by rw [decide_eq_false_iff_not];omega
       have Hz := Lib.hid hz;by_cases hx : t[i].toNat = 48
       · have t48 : (((t[i].toNat : Nat) : Int) == 48) = true := by rw [beq_iff_eq];omega
         have t48' : (((t[i].toNat : Nat) : Int) != 48) = false := by rw [bne,t48];rfl
         have td : ((d : Int) == 0) = false := by rw [beq_eq_false_iff_ne];omega
         have Hx := Lib.hid hx;clear hz hx;go_wp2_with fail
         go_roundg (gk - 1)
         case measure => have := Hg.out;omega
         case rel =>
          have ev : rfS ⟨dot,dig,d,nm,dp,m,tr⟩ t[i] = ⟨dot,true,d + 1,nm,dp,m,tr⟩ := by unfold rfS;rw [if_neg (by omega),if_neg Hz.out,if_neg hnm];simp [Hx.out]
          have hr := Hrl.out;have hn := Hin.out.digit hb';rw [ev] at hr hn;exact ⟨i + 1,_,_,_,_,rfl,rfl,rfl,rfl,rfl,rfl,rfl,rfl,rfl,by have := Hg.out;omega,by omega,by split <;> omega,hn,hr,Hokr.out,rfl⟩
       have t48 : (((t[i].toNat : Nat) : Int) == 48) = false := by rw [beq_eq_false_iff_ne];omega
       have t48' : (((t[i].toNat : Nat) : Int) != 48) = true := by rw [bne,t48];rfl
       have Hx := Lib.hid hx;clear hz hx;go_wp2_with fail
       go_roundg (gk - 1)
       case measure => have := Hg.out;omega
       case rel =>
        have ev : rfS ⟨dot,dig,d,nm,dp,m,tr⟩ t[i] = ⟨dot,true,d + 1,nm,dp,m,true⟩ := by unfold rfS;rw [if_neg (by omega),if_neg Hz.out,if_neg hnm];simp [Hx.out]
        have hr := Hrl.out;have hn := Hin.out.digit hb';rw [ev] at hr hn;exact ⟨i + 1,_,_,_,_,rfl,rfl,rfl,rfl,rfl,rfl,rfl,rfl,rfl,by have := Hg.out;omega,by omega,by split <;> omega,hn,hr,Hokr.out,rfl⟩
     rw [if_neg hb,Bool.and_eq_true,Bool.and_eq_true,decide_eq_true_eq] at hokr;obtain ⟨⟨h46,hdt⟩,hokr⟩ := hokr;have hdf : dot = false := by simpa using hdt
     subst hdf;have Hokr := Lib.hid hokr;have H46 := Lib.hid h46;have t95 : (((t[i].toNat : Nat) : Int) == 95) = false := by rw [beq_eq_false_iff_ne];omega
     have t46 : (((t[i].toNat : Nat) : Int) == 46) = true := by rw [beq_iff_eq];omega
     clear hokr hb hdt h46;go_wp2_with fail
     go_roundg (gk - 1)
     case measure => have := Hg.out;omega
     case rel =>
      have ev : rfS ⟨false,dig,d,nm,dp,m,tr⟩ t[i] = ⟨true,dig,d,nm,(d : Int),m,tr⟩ := by unfold rfS;rw [if_pos H46.out]
      have hr := Hrl.out;have hn := Hin.out.point H46.out rfl;rw [ev] at hr hn;exact ⟨i + 1,_,_,_,_,rfl,rfl,rfl,rfl,rfl,rfl,rfl,rfl,rfl,by have := Hg.out;omega,by omega,by omega,hn,hr,Hokr.out,rfl⟩
   have e : t.drop i = [] := List.drop_eq_nil_of_le (by omega);rw [e] at hrl;have hrl : (⟨dot,dig,d,nm,dp,m,tr⟩ : RFS) = fin := hrl;subst hrl;have hii : i = t.length := by have := Hg.out;omega
   subst hii;have ed : dot = true := hdot;have eg : dig = true := hdig;subst ed eg;clear hdot hdig hokr e;go_wp2_with fail
   go_meet
   case rel => exact ⟨rfl,rfl,rfl,rfl,rfl,rfl,rfl,rfl,rfl,rfl⟩
 case rest =>
 obtain ⟨rfl,rfl,rfl,rfl,rfl,rfl,rfl,rfl,rfl,rfl⟩ := hcut;rw [← Hm0.out,← Hp0.out,← Hn0.out];by_cases hm : m0 = 0
 · subst hm;have ee : e0 = 0 := by simpa using HE.out
   subst ee;clear HE;go_wp2_with fail;rw [Exit.noGoto_ret];go_wp2_with fail;refine bodyPost_ret (v := .tuple #[.int .u64 0,.int .i64 0,.bool neg,.bool fin.tr,.bool false,.int .i64 t.length,.bool true]) (by simp [results,Tryz.results190,go_sem]) rfl ?_;exact ⟨rfl,rfl⟩
 · have tm : ((m0 : Int) != 0) = true := by rw [bne_iff_ne];omega
   have ee : e0 = p0 - n0 := by rw [HE.out,if_pos hm]
   have Hm := Lib.hid hm;subst ee;clear HE hm;go_wp2_with fail;rw [Exit.noGoto_ret];go_wp2_with fail;refine bodyPost_ret (v := .tuple #[.int .u64 m0,.int .i64 (p0 - n0),.bool neg,.bool fin.tr,.bool false,.int .i64 t.length,.bool true]) (by simp [results,Tryz.results190,go_sem]) rfl ?_;exact ⟨rfl,rfl⟩
end Go.Proofs.YtcpijmbdibgdmaaGreatDoor
namespace Go.Proofs.YtcpijmbdibgdmaaGreatDoor
open Go.RowKit
attribute [local go_sem] ba_get store_flt
theorem set_core (p : Nat) (t arr : List UInt8) (i0 N0 : Nat) (neg : Bool) (w : World) (hs : t.length ≤ 700) (hD : DB w p arr 0 0 false false) (fin : RFS) (hfin : fin = rfL RFS.zero (t.drop i0)) (hN0 : N0 = nL 0 (t.drop i0)) (hok : okR false (t.drop i0) = true) (hdot : fin.dot = true) (hdig : fin.dig = true) (hd5 : nd N0 = fin.nd)
 (hi0 : i0 < t.length) (hsg : (i0 = 0 ∧ neg = false ∧ ∀ h : 0 < t.length,t[0].toNat ≠ 43 ∧ t[0].toNat ≠ 45) ∨ (i0 = 1 ∧ ∃ h : 0 < t.length,(neg = true ∧ t[0].toNat = 45 ∨ neg = false ∧ t[0].toNat = 43))) :
 Calls Tryz.prog 196 #[.pointer (some ⟨p,0,none⟩),S t] w fun e w' => e = .returned (.bool true) ∧ (∃ arr',DB w' p arr' (nd N0) fin.dp neg false ∧ arr'.take (nd N0) = dg N0) ∧ Only w w' p := by
 have tl : ¬ t = [] := by intro e;rw [e] at hi0;simp at hi0
 have Hok := Lib.hid hok;have Hfin := Lib.hid hfin;have HN0 := Lib.hid hN0;have Hsg := Lib.hid hsg;have Hd5 := Lib.hid hd5;have hi1 : i0 ≤ 1 := by omega
 have h0 : 0 < t.length := by omega
 have f802 := hD.fz 802;have f803 := hD.fz 803;have kg := hD.cG;have kt := hD.cT;have hD1 : DB ((w.setCell ⟨p,802,none⟩ (.bool false)).setCell ⟨p,803,none⟩ (.bool false)) p arr 0 0 false false := (hD.setG _ rfl).setT _ rfl;have hO1 : Only w ((w.setCell ⟨p,802,none⟩ (.bool false)).setCell ⟨p,803,none⟩ (.bool false)) p := only_set (only_set (only_refl _ _) _ _) _ _;have f802' := hD1.fz 802;have kg' := hD1.cG;clear hok hfin hsg hN0 hd5;go_enter Tryz.func196,Tryz.ntmps196
 go_upto_block 0 with fail
 go_cut [5] from 23 to 33 (fun v5 wc => v5 = .int .i64 i0 ∧ DB wc p arr 0 0 neg false ∧ Only w wc p)
 case first =>
  rcases Hsg.out with ⟨rfl,rfl,hc⟩ | ⟨rfl,_,⟨rfl,hc⟩ | ⟨rfl,hc⟩⟩
  · have hc0 := hc h0;have t1 : ((((t[0]'h0).toNat : Nat) : Int) == 43) = false := by rw [beq_eq_false_iff_ne];omega
    have t2 : ((((t[0]'h0).toNat : Nat) : Int) == 45) = false := by rw [beq_eq_false_iff_ne];omega
    clear hc hc0;go_wp2_with fail
    go_meet
    case rel => exact ⟨rfl,hD1,hO1⟩
  · have t1 : ((((t[0]'h0).toNat : Nat) : Int) == 43) = false := by rw [beq_eq_false_iff_ne];omega
    have t2 : ((((t[0]'h0).toNat : Nat) : Int) == 45) = true := by rw [beq_iff_eq];omega
    clear hc;go_wp2_with fail
    go_meet
    case rel => exact ⟨rfl,hD1.setG _ rfl,only_set hO1 _ _⟩
  have t1 : ((((t[0]'h0).toNat : Nat) : Int) == 43) = true := by rw [beq_iff_eq];omega
  clear hc;go_wp2_with fail
  go_meet
  case rel => exact ⟨rfl,hD1,hO1⟩
 case rest =>
 obtain ⟨rfl,hD2,hO2⟩ := hcut;clear f802 f803 kg kt hD1 hO1 f802' kg' hD;go_wp2_with fail
 go_loopg [5,6,7] (t.length - i0) (fun g v5 v6 v7 wr => ∃ (i : Nat) (s : RFS) (N n a : Nat) (arr' : List UInt8),v5 = .int .i64 i ∧ v6 = .bool s.dot ∧ v7 = .bool s.dig ∧
  g + i = t.length ∧ n ≤ i ∧ a ≤ n ∧ RIn s N n a ∧ rfL s (t.drop i) = fin ∧ nL N (t.drop i) = N0 ∧ okR s.dot (t.drop i) = true ∧ DB wr p arr' s.nd s.dp neg false ∧ arr'.take s.nd = dg N ∧ Only w wr p)
 case atStart => exact ⟨i0,RFS.zero,0,0,0,arr,rfl,rfl,rfl,by omega,by omega,by omega,RIn.zero,Hfin.out.symm,HN0.out.symm,Hok.out,hD2,by rw [dg_zero];rfl,hO2⟩
 case round =>
  clear hD2 hO2;obtain ⟨i,⟨dot,dig,d,nm,dp,m,tr⟩,N,n,a,arr',rfl,rfl,rfl,hg,hni,han,hin,hrl,hnl,hokr,hD,hta,hO⟩ := hrel;dsimp only at *;have q1 : d ≤ n := hin.h1;have q5 : nd N = d := hin.h5;have q6 : -(n : Int) ≤ dp := hin.h6;have q7 : dp ≤ (a : Int) := hin.h7;have Hin := Lib.hid hin;have Hg := Lib.hid hg;have Hta := Lib.hid hta;have Q5 := Lib.hid q5;have kn := hD.cN;have kp := hD.cP;have f800 := hD.fz 800;have f801 := hD.fz 801;clear hin hg hta q5;by_cases hlt : i < t.length
  · rw [drop_at hlt] at hrl hokr hnl;rw [rfL,List.foldl_cons] at hrl;rw [nL,List.foldl_cons] at hnl;have Hrl : Hid (rfL (rfS ⟨dot,dig,d,nm,dp,m,tr⟩ t[i]) (t.drop (i + 1)) = fin) := Lib.hid hrl;have Hnl : Hid (nL (nS N t[i]) (t.drop (i + 1)) = N0) := Lib.hid hnl;clear hrl hnl;rw [okR] at hokr;by_cases hb : digitB t[i] = true
    · rw [if_pos hb] at hokr;have hb' : 48 ≤ t[i].toNat ∧ t[i].toNat ≤ 57 := by simpa [digitB] using hb
      have Hokr := Lib.hid hokr;clear hokr hb;have t95 : (((t[i].toNat : Nat) : Int) == 95) = false := by rw [beq_eq_false_iff_ne];omega
      have t46 : (((t[i].toNat : Nat) : Int) == 46) = false := by rw [beq_eq_false_iff_ne];omega
      have l1 : decide ((48 : Int) ≤ ((t[i].toNat : Nat) : Int)) = true := by rw [decide_eq_true_eq];omega
      have l2 : decide (((t[i].toNat : Nat) : Int) ≤ 57) = true := by rw [decide_eq_true_eq];omega
      by_cases hz : t[i].toNat = 48 ∧ d = 0
      · obtain ⟨hz1,hz2⟩ := hz;subst hz2;have t48 : (((t[i].toNat : Nat) : Int) == 48) = true := by rw [beq_iff_eq];omega
        have hN : Hid (N = 0) := Lib.hid (nd_none Q5.out);have Hz1 := Lib.hid hz1;clear hz1;go_wp2_with fail
        go_roundg (gk - 1)
        case measure => have := Hg.out;omega
        case rel =>
         have ev : rfS ⟨dot,dig,0,nm,dp,m,tr⟩ t[i] = ⟨dot,true,0,nm,dp - 1,m,tr⟩ := by unfold rfS;rw [if_neg (by omega),if_pos ⟨Hz1.out,rfl⟩]
         have hr := Hrl.out;have hn := Hin.out.digit hb';rw [ev] at hr hn;have e0 : nS N t[i] = 0 := by unfold nS;rw [if_neg (by omega),hN.out,Hz1.out]
         refine ⟨i + 1,_,_,_,_,arr',rfl,rfl,rfl,by have := Hg.out;omega,by omega,by split <;> omega,hn,hr,Hnl.out,Hokr.out,hD.setP _ rfl,?_,only_set hO _ _⟩;rw [e0,dg_zero];rfl
      have hd8 : d < 800 := by omega
      have kd := hD.d hd8;have fd := hD.fz d;have td8 : decide ((d : Int) < 800) = true := by rw [decide_eq_true_eq];omega
      have Hz := Lib.hid hz
      have hcl : Hid (∃ nm' m' tr',rfS ⟨dot,dig,d,nm,dp,m,tr⟩ t[i] = ⟨dot,true,d + 1,nm',dp,m',tr'⟩) := Lib.hid (by
       unfold rfS
       rw [if_neg (by omega),if_neg hz]
       split <;> exact ⟨_,_,_,rfl⟩)
      clear hz;by_cases hx : t[i].toNat = 48
      · have t48 : (((t[i].toNat : Nat) : Int) == 48) = true := by rw [beq_iff_eq];omega
        have td : ((d : Int) == 0) = false := by rw [beq_eq_false_iff_ne];have := Hz.out;omega
        have Hx := Lib.hid hx;clear hx;go_wp2_with fail;refine region_tailq 10 (by kernel_rfl) (by kernel_rfl) ?_;intro w2 e2;have hD2 : DB w2 p arr' d dp neg false := by rw [e2];exact hD.drewN 1
        have hO2 : Only w w2 p := by rw [e2];exact only_drew hO
        clear e2 hD hO kn kp f800 f801 kd fd;have kn := hD2.cN;have kd := hD2.d hd8;have fd := hD2.fz d;have f800 := hD2.fz 800;simp only [List.take_succ_cons,List.take_zero,List.drop_succ_cons,List.drop_zero]
        repeat (go_big_quiet_step (fail))
        refine wpQuiet_nil ?_;go_wp2_with fail
        go_roundg (gk - 1)
        case measure => have := Hg.out;omega
        case rel =>
         obtain ⟨nm',m',tr',ev⟩ := hcl.out;have hr := Hrl.out;have hn := Hin.out.digit hb';rw [ev] at hr hn;have e0 : nS N t[i] = 10 * N + (t[i].toNat - 48) := by unfold nS;rw [if_neg (by omega)];omega
         have hlen : d < arr'.length := by rw [hD2.1];exact hd8
         refine ⟨i + 1,_,_,_,_,arr'.set d t[i],rfl,rfl,rfl,by have := Hg.out;omega,by omega,by split <;> omega,hn,hr,Hnl.out,Hokr.out,(hD2.setD hd8 _ rfl).setN _ ?_,?_,only_set (only_set hO2 _ _) _ _⟩
         · exact congrArg _ (by dsimp only;omega)
         rw [e0,dg_snoc ?_ (by omega)]
         · have eb : UInt8.ofNat (48 + (t[i].toNat - 48)) = t[i] := by rw [show 48 + (t[i].toNat - 48) = t[i].toNat by omega,UInt8.ofNat_toNat]
           rw [eb];exact set_take _ hlen Hta.out
         have h1 := Hz.out;have h2 := Q5.out;by_cases hN : N = 0
         · right;subst hN;rw [nd_zero] at h2;omega
         exact .inl hN
      have t48 : (((t[i].toNat : Nat) : Int) == 48) = false := by rw [beq_eq_false_iff_ne];omega
      have Hx := Lib.hid hx;clear hx;go_wp2_with fail;refine region_tailq 10 (by kernel_rfl) (by kernel_rfl) ?_;intro w2 e2;have hD2 : DB w2 p arr' d dp neg false := by rw [e2];exact hD.drewN 1
      have hO2 : Only w w2 p := by rw [e2];exact only_drew hO
      clear e2 hD hO kn kp f800 f801 kd fd;have kn := hD2.cN;have kd := hD2.d hd8;have fd := hD2.fz d;have f800 := hD2.fz 800;simp only [List.take_succ_cons,List.take_zero,List.drop_succ_cons,List.drop_zero]
      repeat (go_big_quiet_step (fail))
      refine wpQuiet_nil ?_;go_wp2_with fail
      go_roundg (gk - 1)
      case measure => have := Hg.out;omega
      case rel =>
       obtain ⟨nm',m',tr',ev⟩ := hcl.out;have hr := Hrl.out;have hn := Hin.out.digit hb';rw [ev] at hr hn;have e0 : nS N t[i] = 10 * N + (t[i].toNat - 48) := by unfold nS;rw [if_neg (by omega)];omega
       have hlen : d < arr'.length := by rw [hD2.1];exact hd8
       refine ⟨i + 1,_,_,_,_,arr'.set d t[i],rfl,rfl,rfl,by have := Hg.out;omega,by omega,by split <;> omega,hn,hr,Hnl.out,Hokr.out,(hD2.setD hd8 _ rfl).setN _ ?_,?_,only_set (only_set hO2 _ _) _ _⟩
       · exact congrArg _ (by dsimp only;omega)
       rw [e0,dg_snoc ?_ (by omega)]
       · have eb : UInt8.ofNat (48 + (t[i].toNat - 48)) = t[i] := by rw [show 48 + (t[i].toNat - 48) = t[i].toNat by omega,UInt8.ofNat_toNat]
         rw [eb];exact set_take _ hlen Hta.out
       have h1 := Hz.out;have h2 := Q5.out;by_cases hN : N = 0
       · right;subst hN;rw [nd_zero] at h2;omega
       exact .inl hN
    rw [if_neg hb,Bool.and_eq_true,Bool.and_eq_true,decide_eq_true_eq] at hokr;obtain ⟨⟨h46,hdt⟩,hokr⟩ := hokr;have hdf : dot = false := by simpa using hdt
    subst hdf;have Hokr := Lib.hid hokr;have H46 := Lib.hid h46;have t95 : (((t[i].toNat : Nat) : Int) == 95) = false := by rw [beq_eq_false_iff_ne];omega
    have t46 : (((t[i].toNat : Nat) : Int) == 46) = true := by rw [beq_iff_eq];omega
    clear hokr hb hdt h46;go_wp2_with fail
    go_roundg (gk - 1)
    case measure => have := Hg.out;omega
    case rel =>
     have ev : rfS ⟨false,dig,d,nm,dp,m,tr⟩ t[i] = ⟨true,dig,d,nm,(d : Int),m,tr⟩ := by unfold rfS;rw [if_pos H46.out]
     have hr := Hrl.out;have hn := Hin.out.point H46.out rfl;rw [ev] at hr hn;have e0 : nS N t[i] = N := by unfold nS;rw [if_pos H46.out]
     refine ⟨i + 1,_,_,_,_,arr',rfl,rfl,rfl,by have := Hg.out;omega,by omega,by omega,hn,hr,Hnl.out,Hokr.out,hD.setP _ rfl,?_,only_set hO _ _⟩;rw [e0];exact Hta.out
  have e : t.drop i = [] := List.drop_eq_nil_of_le (by omega);rw [e] at hrl hnl;have hrl : (⟨dot,dig,d,nm,dp,m,tr⟩ : RFS) = fin := hrl;have hnl : N = N0 := hnl;subst hrl hnl;have hii : i = t.length := by have := Hg.out;omega
  subst hii;have ed : dot = true := hdot;have eg : dig = true := hdig;subst ed eg;clear hdot hdig hokr e;go_wp2_with fail;go_ret;refine ⟨rfl,⟨arr',?_,?_⟩,hO⟩
  · rw [Q5.out];exact hD
  rw [Q5.out];exact Hta.out
end Go.Proofs.YtcpijmbdibgdmaaGreatDoor
namespace Go.Proofs.YtcpijmbdibgdmaaGreatDoor
open Go.RowKit
attribute [local go_sem] ba_get store_flt
structure FI (lb lo lc pb po pc : Nat) (w : World) : Prop where
 v : w.cell? ⟨23,0,none⟩ = some (.slice (some ⟨lb,lo,none⟩) 61 lc)
 d : ∀ k,1 ≤ k → k ≤ 60 → w.cell? ⟨lb,lo + k * 2,none⟩ = some (.int .i64 ((k - nd (5 ^ k) + 1 : Nat) : Int)) ∧ w.cell? ⟨lb,lo + k * 2 + 1,none⟩ = some (S (dg (5 ^ k)))
 pv : w.cell? ⟨20,0,none⟩ = some (.slice (some ⟨pb,po,none⟩) 9 pc)
 pe : ∀ j,j < 9 → w.cell? ⟨pb,po + j,none⟩ = some (.int .i64 (pw j : Nat))
 i0 : w.cell? ⟨17,0,none⟩ = some (.int .u64 52)
 i1 : w.cell? ⟨17,1,none⟩ = some (.int .u64 11)
 i2 : w.cell? ⟨17,2,none⟩ = some (.int .i64 (-1023))
theorem FI.below {lb lo lc pb po pc B : Nat} {w w' : World} (h : FI lb lo lc pb po pc w) (hB : Below B w w') (h1 : lb < B) (h2 : pb < B) (h3 : 23 < B) : FI lb lo lc pb po pc w' where
 v := (hB.cell (p := ⟨23,0,none⟩) h3).trans h.v
 d := fun k a b => ⟨(hB.cell (p := ⟨lb,lo + k * 2,none⟩) h1).trans (h.d k a b).1,(hB.cell (p := ⟨lb,lo + k * 2 + 1,none⟩) h1).trans (h.d k a b).2⟩
 pv := (hB.cell (p := ⟨20,0,none⟩) (by show 20 < B;omega)).trans h.pv
 pe := fun j a => (hB.cell (p := ⟨pb,po + j,none⟩) h2).trans (h.pe j a)
 i0 := (hB.cell (p := ⟨17,0,none⟩) (by show 17 < B;omega)).trans h.i0
 i1 := (hB.cell (p := ⟨17,1,none⟩) (by show 17 < B;omega)).trans h.i1
 i2 := (hB.cell (p := ⟨17,2,none⟩) (by show 17 < B;omega)).trans h.i2
theorem FI.lc {lb lo lc pb po pc : Nat} {w : World} (h : FI lb lo lc pb po pc w) : LC lb lo lc w := ⟨h.v,h.d⟩
theorem LC.drewN {lb lo lc : Nat} {w : World} (h : LC lb lo lc w) (n : Nat) : LC lb lo lc (w.drewN n) := ⟨h.v,h.d⟩
theorem below_only {B p : Nat} {a w w' : World} (h : Below B a w) (hO : Only w w' p) (hp : B ≤ p) (hB : B ≤ a.heap.size) : Below B a w' :=
 ⟨hO.os.trans h.os,hO.tape.trans h.tape,hO.output.trans h.output,Nat.le_trans h.size hO.size,fun i hi => (hO.block i (Nat.lt_of_lt_of_le (Nat.lt_of_lt_of_le hi hB) h.size) (by intro e;injection e with e;omega)).trans (h.block i hi)⟩
theorem wp_scope_forward {P : Program} {a : Act} {w : World} {Q : Exit → Act → World → Prop} {c rest : Code} (l : Nat) (hf : findLabel c l = some rest)
 (first : c.wp P (Exit.jump l (fun a' w' => rest.wp P (Exit.noGoto Q) a' w') Q) a w) : (Code.scope c).wp P Q a w := by
 refine wp_scope_jumps l _ (fun _ _ => 0) hf first (fun a w h => wp_mono h ?_);intro e a' w' hq
 cases e with
 | goto l => exact hq.elim
 | normal => exact hq
 | exit id => exact hq
 | ret => exact hq
 | panic ch => exact hq
 | outgrown => exact hq
def fbB (b : Nat × Int × Int) : Int × Int :=
 if riF (shL b.1 53) (dpL b.1 b.2.1 53) = 9007199254740992 then (4503599627370496,b.2.2 - 1 + 1)
 else (riF (shL b.1 53) (dpL b.1 b.2.1 53),if bits BinOp.and IntKind.u64 (riF (shL b.1 53) (dpL b.1 b.2.1 53)) 4503599627370496 = 0 then -1023 else b.2.2 - 1)
def fbM (N : Nat) (dp : Int) : Int × Int := fbB (lp2 240 (lp1 80 N dp 0).1 (lp1 80 N dp 0).2.1 (lp1 80 N dp 0).2.2)
def fbA (x : Int × Int) : Int := bits BinOp.or IntKind.u64 (bits BinOp.and IntKind.u64 x.1 4503599627370495) (IntKind.u64.wrap (IntKind.u64.wrap (bits BinOp.and IntKind.i64 (x.2 + 1023) 2047) * 4503599627370496))
def fbF (N : Nat) (dp : Int) (neg : Bool) : Int := if neg then bits BinOp.or IntKind.u64 (fbA (fbM N dp)) 9223372036854775808 else fbA (fbM N dp)
theorem fbA_eq {m e x : Int} (h : x = e + 1023) : bits BinOp.or IntKind.u64 (bits BinOp.and IntKind.u64 m 4503599627370495) (IntKind.u64.wrap (IntKind.u64.wrap (bits BinOp.and IntKind.i64 x 2047) * 4503599627370496)) = fbA (m,e) := by rw [h];rfl
theorem low_head {N : Nat} {dp : Int} (h0 : N ≠ 0) : dlowB N dp = (decide (dp < 0) || (decide (dp = 0) && decide (dgi N 0 < 5))) := by
 have h1 := nd_one h0;obtain ⟨h2,h3⟩ := dgi_spec (N := N) (i := 0) (by omega);unfold dlowB;congr 2;rw [h2,Option.getD_some,UInt8.toNat_ofNat'];exact decide_eq_decide.2 (by omega)
theorem fb_any (p N lb lo lc pb po pc B : Nat) (arr : List UInt8) (dp : Int) (neg : Bool) (w : World) (hI : FI lb lo lc pb po pc w) (h1 : lb < B) (h2 : pb < B) (h3 : 23 < B) (hp : B ≤ p) (hBw : B ≤ w.heap.size)
 (h : DB w p arr (nd N) dp neg false) (h0 : N ≠ 0) (hn : nd N ≤ 60) (ht : arr.take (nd N) = dg N) (hd1 : -60 ≤ dp) (hd2 : dp ≤ 14) :
 Calls Tryz.prog 197 #[.pointer (some ⟨p,0,none⟩),.pointer (some ⟨17,0,none⟩)] w fun e w' => e = .returned (.tuple #[.int .u64 (fbF N dp neg),.bool false]) ∧ Only w w' p := by
 have kn := h.cN;have kp := h.cP;have hne := nd_one h0;have t1 : ((nd N : Int) == 0) = false := by rw [beq_eq_false_iff_ne];omega
 have t2 : decide (310 < dp) = false := by rw [decide_eq_false_iff_not];omega
 have t3 : decide (dp < -330) = false := by rw [decide_eq_false_iff_not];omega
 have H0 := Lib.hid h0;have Ht := Lib.hid ht;have HI := Lib.hid hI;clear h0 ht hI;go_enter Tryz.func197,Tryz.ntmps197;go_wp2_with fail;refine wp_scope_forward 0 rfl ?_
 · go_wp2_with fail
   go_loopg [6] 80 (fun g v6 wr => ∃ (N1 s : Nat) (dp1 : Int) (arr1 : List UInt8),v6 = .int .i64 s ∧ In1 N dp (lp1 80 N dp 0) N1 dp1 s g ∧ DB wr p arr1 (nd N1) dp1 neg false ∧ arr1.take (nd N1) = dg N1 ∧ Only w wr p)
   case atStart => exact ⟨N,0,dp,arr,rfl,In1.start H0.out hd1 hd2,h,Ht.out,only_refl _ _⟩
   case round =>
    clear kn kp t1 t2 t3 h;obtain ⟨N1,s,dp1,arr1,rfl,hin,hD,hta,hO⟩ := hrel;have Hta := Lib.hid hta;clear hta;have kn := hD.cN;have kp := hD.cP;have hs := hin.sm;have hndb := hin.nd_;have hdlo := hin.lo;have hdhi := hin.hi;by_cases hd : 0 < dp1
    · obtain ⟨hst,hf0,hs46⟩ := hin.step hd2 hd;have hIr := HI.out.below (below_only (Below.refl B w) hO hp hBw) h1 h2 h3;obtain ⟨j,rfl⟩ : ∃ j : Nat,dp1 = j := ⟨dp1.toNat,by omega⟩;rw [Int.toNat_natCast] at hst;have hpw := pw_pos j;obtain ⟨k,hk⟩ : ∃ k,k = pw j := ⟨_,rfl⟩;rw [← hk] at hst hpw;have hS := fun n => shiftR_any p N1 k arr1 j neg false (wr.drewN n) (hD.drewN n) hin.ne (by omega) Hta.out (by omega) (by have := nd_mul_le (N := N1) (k := k) (c := 5) (by decide);omega) (by omega)
      have pv := hIr.pv;have HS := Lib.hid hS;have t1 : decide (0 < (j : Int)) = true := by rw [decide_eq_true_eq];exact hd
      have hj0 : 0 < j := by omega
      clear hS;by_cases h9 : 9 ≤ j
      · have t9 : decide (9 ≤ (j : Int)) = true := by rw [decide_eq_true_eq];omega
        have ek : k = 27 := by rw [hk];unfold pw;rw [if_pos h9]
        subst ek;clear hk;go_wp2_with fail;go_quiet (fail);go_wp2_with fail;refine (HS.out _).mono ?_;rintro e w9 ⟨rfl,⟨arr9,hD9,hta9⟩,hO9⟩;go_wp2_with fail
        go_roundg (gk - 1)
        case measure => omega
        case rel => exact ⟨_,s + 27,_,arr9,rfl,hst,hD9,hta9,only_trans (only_drewN hO _) hO9⟩
      have t9 : decide (9 ≤ (j : Int)) = false := by rw [decide_eq_false_iff_not];omega
      have pe := hIr.pe j (by omega);rw [← hk] at pe;have Hk := Lib.hid hk;clear hk;go_wp2_with fail;go_quiet (fail);go_wp2_with fail;go_quiet (fail);go_wp2_with fail;refine (HS.out _).mono ?_;rintro e w9 ⟨rfl,⟨arr9,hD9,hta9⟩,hO9⟩;go_wp2_with fail
      go_roundg (gk - 1)
      case measure => omega
      case rel => exact ⟨_,s + k,_,arr9,rfl,hst,hD9,hta9,only_trans (only_drewN hO _) hO9⟩
    have t1 : decide (0 < dp1) = false := by rw [decide_eq_false_iff_not];exact hd
    have hfin := hin.stop hd;have Hfin := Lib.hid hfin;clear hfin;have hN1 := hin.ne
    go_upto_block 2 with fail
    go_cut [6] from 61 to 102 (fun v6 wc => ∃ (N2 s2 : Nat) (dp2 : Int) (arr2 : List UInt8),v6 = .int .i64 ((s : Int) - s2) ∧ lp2 240 N1 dp1 s = (N2,dp2,(s : Int) - s2) ∧ N2 ≠ 0 ∧ nd N2 ≤ 400 ∧ -60 ≤ dp2 ∧ dp2 ≤ 27 ∧ s2 ≤ 229 ∧ DB wc p arr2 (nd N2) dp2 neg false ∧ arr2.take (nd N2) = dg N2 ∧ Only w wc p)
    case first =>
     go_wp2_with fail
     go_loopg [6] 240 (fun g v6 wr => ∃ (N2 s2 : Nat) (dp2 : Int) (arr2 : List UInt8),v6 = .int .i64 ((s : Int) - s2) ∧ In2 N1 dp1 s (lp2 240 N1 dp1 s) N2 dp2 s2 g ∧ DB wr p arr2 (nd N2) dp2 neg false ∧ arr2.take (nd N2) = dg N2 ∧ Only w wr p)
     case atStart => exact ⟨N1,0,dp1,arr1,congrArg _ (by omega),In2.start hN1 hdlo hd,hD,Hta.out,hO⟩
     case round =>
      clear hin hD hO Hta kn kp t1;obtain ⟨N2,s2,dp2,arr2,rfl,hin,hD,hta,hO⟩ := hrel;have Hta := Lib.hid hta;clear hta;have kn := hD.cN;have kp := hD.cP;have hs2 := hin.sm;have hndb2 := hin.nd_;have hdlo2 := hin.lo;have hdhi2 := hin.hi;have hIr := HI.out.below (below_only (Below.refl B w) hO hp hBw) h1 h2 h3;have pv := hIr.pv;have hl := low_head (dp := dp2) hin.ne;have hne2 := nd_one hin.ne;have kd0 := hD.di Hta.out (show 0 < nd N2 by omega);obtain ⟨d,hdd⟩ : ∃ d,d = dgi N2 0 := ⟨_,rfl⟩;have hd9 : d ≤ 9 := by rw [hdd];exact (dgi_spec (by omega)).2
      rw [← hdd] at kd0 hl;clear hdd
      cases hlow : dlowB N2 dp2 with
      | true =>
        obtain ⟨hst,hf0,hs202⟩ := hin.step hN1 hdlo hlow;have hd0 := low_le hlow;by_cases hz : dp2 = 0
        · subst hz;have hst : In2 N1 dp1 s (lp2 240 N1 dp1 s) (shL N2 1) (dpL N2 0 1) (s2 + 1) (gk - 1) := hst;have hS := fun n => shiftL_any p N2 1 lb lo lc arr2 0 neg false (wr.drewN n) (hIr.lc.drewN n) (hD.drewN n) hin.ne (by omega) Hta.out (by omega) (by have := nd_mul_le (N := N2) (k := 1) (c := 2) (by decide);omega) (by omega)
          have HS := Lib.hid hS;have hd5 : d < 5 := by rw [hlow] at hl;simpa using hl
          have pe : wr.cell? ⟨pb,po,none⟩ = some (.int .i64 1) := hIr.pe 0 (by omega);have t8 : decide (((48 + d : Nat) : Int) < 53) = true := by rw [decide_eq_true_eq];omega
          clear hS hl hlow;go_wp2_with fail;go_quiet (fail);go_wp2_with fail;go_quiet (fail);go_wp2_with fail;refine (HS.out _).mono ?_;rintro e w9 ⟨rfl,⟨arr9,hD9,hta9⟩,hO9⟩;go_wp2_with fail
          go_roundg (gk - 1)
          case measure => omega
          case rel => exact ⟨_,s2 + 1,_,arr9,congrArg _ (by omega),hst,hD9,hta9,only_trans (only_drewN hO _) hO9⟩
        obtain ⟨j,rfl⟩ : ∃ j : Nat,dp2 = -(j : Int) := ⟨(-dp2).toNat,by omega⟩;have hj0 : 0 < j := by omega
        have ejj : (- -(j : Int)).toNat = j := by omega
        rw [ejj] at hst;have hpw := pw_pos j;obtain ⟨k,hk⟩ : ∃ k,k = pw j := ⟨_,rfl⟩;rw [← hk] at hst hpw;have hS := fun n => shiftL_any p N2 k lb lo lc arr2 (-(j : Int)) neg false (wr.drewN n) (hIr.lc.drewN n) (hD.drewN n) hin.ne (by omega) Hta.out (by omega) (by have := nd_mul_le (N := N2) (k := k) (c := 2) (by decide);omega) (by omega)
        have HS := Lib.hid hS;have t8 : decide (-(j : Int) < 0) = true := by rw [decide_eq_true_eq];omega
        clear hS hl hlow hz;by_cases h9 : 9 ≤ j
        · have ek : k = 27 := by rw [hk];unfold pw;rw [if_pos h9]
          subst ek;clear hk;go_wp2_with fail;go_quiet (fail);go_wp2_with fail;refine (HS.out _).mono ?_;rintro e w9 ⟨rfl,⟨arr9,hD9,hta9⟩,hO9⟩;go_wp2_with fail
          go_roundg (gk - 1)
          case measure => omega
          case rel => exact ⟨_,s2 + 27,_,arr9,congrArg _ (by omega),hst,hD9,hta9,only_trans (only_drewN hO _) hO9⟩
        have pe := hIr.pe j (by omega);rw [← hk] at pe;have Hk := Lib.hid hk;clear hk;go_wp2_with fail;go_quiet (fail);go_wp2_with fail;go_quiet (fail);go_wp2_with fail;refine (HS.out _).mono ?_;rintro e w9 ⟨rfl,⟨arr9,hD9,hta9⟩,hO9⟩;go_wp2_with fail
        go_roundg (gk - 1)
        case measure => omega
        case rel => exact ⟨_,s2 + k,_,arr9,congrArg _ (by omega),hst,hD9,hta9,only_trans (only_drewN hO _) hO9⟩
      | false =>
        have Hlow := Lib.hid hlow;rw [hl] at hlow;clear hl;by_cases hz : dp2 = 0
        · subst hz;have hd5 : ¬ d < 5 := by simpa using hlow
          have t8 : decide (((48 + d : Nat) : Int) < 53) = false := by rw [decide_eq_false_iff_not];omega
          clear hlow;have hfin2 := hin.stop (by rw [Hlow.out];decide);have hn2 := hin.ne;go_wp2_with fail
          go_meet
          case rel => exact ⟨N2,s2,_,arr2,rfl,hfin2,hn2,by omega,by omega,by omega,by omega,hD,Hta.out,hO⟩
        have hpos : 0 < dp2 := by
         rcases Int.lt_or_le 0 dp2 with h | h
         · exact h
         exfalso;have : decide (dp2 < 0) = true := by rw [decide_eq_true_eq];omega
         rw [this] at hlow;simp at hlow
        have t8 : decide (dp2 < 0) = false := by rw [decide_eq_false_iff_not];omega
        have t9 : (dp2 == 0) = false := by rw [beq_eq_false_iff_ne];omega
        clear hlow;have hfin2 := hin.stop (by rw [Hlow.out];decide);have hn2 := hin.ne;go_wp2_with fail
        go_meet
        case rel => exact ⟨N2,s2,_,arr2,rfl,hfin2,hn2,by omega,by omega,by omega,by omega,hD,Hta.out,hO⟩
    case rest =>
     clear hD hO Hta kn kp t1;obtain ⟨N2,s2,dp2,arr2,rfl,hfin2,hN2,hnd2,hdlo2,hdhi2,hs2,hD,hta,hO⟩ := hcut;have Hta := Lib.hid hta;have kn := hD.cN;have kp := hD.cP;obtain ⟨e0,he0⟩ : ∃ e0 : Int,e0 = (s : Int) - (s2 : Int) := ⟨_,rfl⟩;rw [← he0] at hfin2 ⊢;have hIr := HI.out.below (below_only (Below.refl B w) hO hp hBw) h1 h2 h3;have hL53 : nd (N2 * 2 ^ 53) < 800 := by have := nd_mul_le (N := N2) (k := 53) (c := 2) (by decide);omega
     have hdl := dpL_le N2 dp2 53;have hdg := dpL_ge N2 dp2 53;have hS := fun n => shiftL_any p N2 53 lb lo lc arr2 dp2 neg false (wc.drewN n) (hIr.lc.drewN n) (hD.drewN n) hN2 (by omega) Hta.out (by omega) hL53 (by omega)
     have HS := Lib.hid hS;have hB1 : fbM N dp = fbB (N2,dp2,e0) := by unfold fbM;rw [Hfin.out,hfin2]
     have HB1 := Lib.hid hB1;have i0 := hIr.i0;have i1 := hIr.i1;have i2 := hIr.i2;have hN3 : nd (shL N2 53) ≤ 800 := by have := shL_nd hN2 53;omega
     have HN2 := Lib.hid hN2;have te1 : decide (e0 - 1 < -1022) = false := by rw [decide_eq_false_iff_not];omega
     have te2 : decide (2047 ≤ e0 - 1 - -1023) = false := by rw [decide_eq_false_iff_not];omega
     have he3 : -400 ≤ e0 ∧ e0 ≤ 100 := by omega
     clear hS hin hfin2 he0 hB1 hta hN2;go_wp2_with fail;go_quiet (fail);go_wp2_with fail;refine (HS.out _).mono ?_;rintro e w9 ⟨rfl,⟨arr3,hD3,hta3⟩,hO3⟩;have hO9 : Only w w9 p := only_trans (only_drewN hO _) hO3;clear i0 i1 i2 hIr hD hO kn kp hO3;have hIr := HI.out.below (below_only (Below.refl B w) hO9 hp hBw) h1 h2 h3;have i0 := hIr.i0;have i1 := hIr.i1;have i2 := hIr.i2;have kg := hD3.cG;have hRI := ri_any p (shL N2 53) arr3 (dpL N2 dp2 53) neg w9 hD3 hN3 hta3 (by omega);obtain ⟨m,hm⟩ : ∃ m,m = riF (shL N2 53) (dpL N2 dp2 53) := ⟨_,rfl⟩;rw [← hm] at hRI;have HB2 : Hid (fbM N dp = if m = 9007199254740992 then (4503599627370496,e0 - 1 + 1) else (m,if bits BinOp.and IntKind.u64 m 4503599627370496 = 0 then -1023 else e0 - 1)) := Lib.hid (by rw [HB1.out];unfold fbB;simp only;rw [← hm]);clear hm HB1;go_wp2_with fail;refine hRI.mono ?_;rintro e w10 ⟨rfl,rfl⟩;by_cases hm : m = 9007199254740992
     · subst hm;have te3 : decide (2047 ≤ e0 - 1 + 1 - -1023) = false := by rw [decide_eq_false_iff_not];omega
       have ef : fbM N dp = (4503599627370496,e0) := by have := HB2.out;simpa using this
       have Ef := Lib.hid ef;clear ef HB2;go_wp2_with fail;go_quiet (fail);go_wp2_with fail
       go_step3
       go_wp2_with fail;refine ⟨rfl,?_⟩;go_wp2_with fail
       cases neg with
       | true =>
         go_quiet (fail);go_wp2_with fail;go_quiet (fail);go_wp2_with fail;rw [Exit.noGoto_ret];go_wp2_with fail;go_ret2;refine ⟨?_,(by repeat first | with_reducible exact hO9 | refine only_drewN ?_ _)⟩;rw [show fbF N dp true = bits BinOp.or IntKind.u64 (fbA (fbM N dp)) 9223372036854775808 from rfl,Ef.out];exact congrArg (fun x => Ending.returned (.tuple #[.int .u64 (bits BinOp.or IntKind.u64 x 9223372036854775808),.bool false])) (fbA_eq (by omega))
       | false =>
         go_quiet (fail);go_wp2_with fail;rw [Exit.noGoto_ret];go_wp2_with fail;go_ret2;refine ⟨?_,(by repeat first | with_reducible exact hO9 | refine only_drewN ?_ _)⟩;rw [show fbF N dp false = fbA (fbM N dp) from rfl,Ef.out];exact congrArg (fun x => Ending.returned (.tuple #[.int .u64 x,.bool false])) (fbA_eq (by omega))
     have tm : (m == 9007199254740992) = false := by rw [beq_eq_false_iff_ne];exact hm
     by_cases hz : bits BinOp.and IntKind.u64 m 4503599627370496 = 0
     · have tz : (bits BinOp.and IntKind.u64 m 4503599627370496 == 0) = true := by rw [beq_iff_eq];exact hz
       have ef : fbM N dp = (m,-1023) := by rw [HB2.out,if_neg hm,if_pos hz]
       have Ef := Lib.hid ef;have Hm := Lib.hid hm;have Hz := Lib.hid hz;clear hm hz ef HB2;go_wp2_with fail
       go_step3
       go_wp2_with fail;refine ⟨rfl,?_⟩;go_wp2_with fail
       cases neg with
       | true =>
         go_quiet (fail);go_wp2_with fail;go_quiet (fail);go_wp2_with fail;rw [Exit.noGoto_ret];go_wp2_with fail;go_ret2;refine ⟨?_,(by repeat first | with_reducible exact hO9 | refine only_drewN ?_ _)⟩;rw [show fbF N dp true = bits BinOp.or IntKind.u64 (fbA (fbM N dp)) 9223372036854775808 from rfl,Ef.out];exact congrArg (fun x => Ending.returned (.tuple #[.int .u64 (bits BinOp.or IntKind.u64 x 9223372036854775808),.bool false])) (fbA_eq (by omega))
       | false =>
         go_quiet (fail);go_wp2_with fail;rw [Exit.noGoto_ret];go_wp2_with fail;go_ret2;refine ⟨?_,(by repeat first | with_reducible exact hO9 | refine only_drewN ?_ _)⟩;rw [show fbF N dp false = fbA (fbM N dp) from rfl,Ef.out];exact congrArg (fun x => Ending.returned (.tuple #[.int .u64 x,.bool false])) (fbA_eq (by omega))
     have tz : (bits BinOp.and IntKind.u64 m 4503599627370496 == 0) = false := by rw [beq_eq_false_iff_ne];exact hz
     have ef : fbM N dp = (m,e0 - 1) := by rw [HB2.out,if_neg hm,if_neg hz]
     have Ef := Lib.hid ef;have Hm := Lib.hid hm;have Hz := Lib.hid hz;clear hm hz ef HB2;go_wp2_with fail
     go_step3
     go_wp2_with fail;refine ⟨rfl,?_⟩;go_wp2_with fail
     cases neg with
     | true =>
       go_quiet (fail);go_wp2_with fail;go_quiet (fail);go_wp2_with fail;rw [Exit.noGoto_ret];go_wp2_with fail;go_ret2;refine ⟨?_,(by repeat first | with_reducible exact hO9 | refine only_drewN ?_ _)⟩;rw [show fbF N dp true = bits BinOp.or IntKind.u64 (fbA (fbM N dp)) 9223372036854775808 from rfl,Ef.out];exact congrArg (fun x => Ending.returned (.tuple #[.int .u64 (bits BinOp.or IntKind.u64 x 9223372036854775808),.bool false])) (fbA_eq (by omega))
     | false =>
       go_quiet (fail);go_wp2_with fail;rw [Exit.noGoto_ret];go_wp2_with fail;go_ret2;refine ⟨?_,(by repeat first | with_reducible exact hO9 | refine only_drewN ?_ _)⟩;rw [show fbF N dp false = fbA (fbM N dp) from rfl,Ef.out];exact congrArg (fun x => Ending.returned (.tuple #[.int .u64 x,.bool false])) (fbA_eq (by omega))
end Go.Proofs.YtcpijmbdibgdmaaGreatDoor
