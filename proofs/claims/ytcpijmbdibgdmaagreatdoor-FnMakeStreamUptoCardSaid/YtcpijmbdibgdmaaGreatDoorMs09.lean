/-
  internal/strconv: fmtEFG at %f and twelve digits.
  Decimal digits, and numbers that are shifted in binary: plain law.
  Decimals that are scaled by powers of two: plain law.
-/
import Derived.Test.YtcpijmbdibgdmaaGreatDoorMs08
import Derived.Deep.CutBlock
set_option linter.all false
set_option maxHeartbeats 16000000
set_option maxRecDepth 100000
namespace Go.Proofs.YtcpijmbdibgdmaaGreatDoor
open Go.RowKit
attribute [local go_sem] ba_get store_flt
def sgnB (neg : Bool) : List UInt8 := if neg then [45] else []
def headB (d : List UInt8) (dp : Int) : List UInt8 := if 0 < dp then d.take dp.toNat ++ List.replicate (dp.toNat - d.length) 48 else [48]
def zpF (dp : Int) : Nat := (min 12 (max 0 (-dp))).toNat
def tailB (d : List UInt8) (dp : Int) : List UInt8 :=
 List.replicate (zpF dp) 48 ++ (d.drop (dp + zpF dp).toNat).take (12 - zpF dp) ++ List.replicate (12 - zpF dp - (d.length - (dp + zpF dp).toNat)) 48
def fmtN (neg : Bool) (d : List UInt8) (dp : Int) : List UInt8 := sgnB neg ++ headB d dp ++ [46] ++ tailB d dp
theorem headB_len (d : List UInt8) (dp : Int) : (headB d dp).length = (max 1 dp).toNat := by
 unfold headB;split
 · rw [List.length_append,List.length_take,List.length_replicate];omega
 simp;omega
theorem fmt_any (neg : Bool) (d : List UInt8) (dp : Int) (q L C B : Nat) (v0 : Value) (fm : Bool) (w : World) (hq : q < w.heap.size) (hne : v0.ownBlock ≠ some q) (hd : ∀ i,(h : i < d.length) → w.cell? ⟨q,i,none⟩ = some (bcell d[i]))
 (hL : d.length ≤ L ∧ L ≤ C ∧ C ≤ 800) (hdp : -1000 ≤ dp ∧ dp ≤ 1000) (hO : Own w B v0 []) (hB : B ≤ w.heap.size) :
 Calls Tryz.prog 156 #[v0,.bool neg,.slice (some ⟨q,0,none⟩) L C,.int .i64 dp,.int .i64 d.length,.int .i64 12,.int .u8 102,.bool fm] w fun e w' => ∃ v',e = .returned v' ∧ FS w w' B v0 v' (fmtN neg d dp) := by
 have hf0 : FS w w B v0 v0 [] := FS.refl hO;have hHd := Lib.hid hd;clear hd;go_enter Tryz.func156,Tryz.ntmps156
 go_upto_if 178 with fail
 go_cut [0] from 179 to 181 (fun s0 wc => FS w wc B v0 s0 (sgnB neg))
 case first =>
  cases neg with
  | true =>
    go_wp2_with (at_builtin;refine wp_app_fs w _ 45 B v0 _ _ hf0 hB ?c0 rfl _ _ rfl rfl rfl ?_)
    case c0 => simp
    intro v1 w1 hf1;go_wp2_with fail
    go_meet
    case rel => exact hf1
  | false =>
    go_wp2_with fail
    go_meet
    case rel => exact hf0
 case rest =>
  have hf1 := hcut;clear hf0 hcut;have hsg : (sgnB neg).length ≤ 1 := by unfold sgnB;split <;> simp
  obtain ⟨tb,htb⟩ : ∃ tb,decide (0 < dp) = tb := ⟨_,rfl⟩
  go_upto_if 183 with fail
  go_cut [0,23] from 184 to 211 (fun s0 s23 wc => FS w wc B v0 s0 (sgnB neg ++ headB d dp))
  case first =>
   cases tb with
   | true =>
     have hp : 0 < dp := of_decide_eq_true htb;clear htb;have HE : Hid (headB d dp = d.take dp.toNat ++ List.replicate (dp.toNat - d.length) 48) := Lib.hid (by unfold headB;rw [if_pos hp]);obtain ⟨D,hD⟩ : ∃ D : Nat,D = dp.toNat := ⟨_,rfl⟩;rw [← hD] at HE;have hDd : dp = (D : Int) := by omega
     have hpD : 0 < D ∧ D ≤ 1000 := by omega
     clear hD hp;subst hDd;rcases Nat.lt_or_ge D d.length with hM | hM
     · have HM : Hid (headB d D = d.take D ++ List.replicate (D - D) 48) := Lib.hid (by rw [HE.out,Nat.sub_self,Nat.sub_eq_zero_of_le (by omega)]);have hMl : D ≤ d.length ∧ D ≤ D ∧ D ≤ L ∧ D ≤ C := by omega
       have hDz : (D : Int) - (D : Nat) = ((D - D : Nat) : Int) := by omega
       clear HE;go_wp2_with fail
       go_loopg [0,191] (D) (fun g s0 si wr => ∃ i : Nat,si = .int .i64 i ∧ i + g = D ∧ FS w wr B v0 s0 (sgnB neg ++ d.take i))
       case atStart => exact ⟨0,rfl,by omega,by rw [List.take_zero,List.append_nil];exact hf1⟩
       case round =>
        clear hf1;obtain ⟨i,rfl,hg,hf⟩ := hrel;by_cases hi : i < D
        · have ti : i < D := hi;have hil : i < d.length := by omega
          have hc := (hf.cell hq hne (i := i)).trans (hHd.out i hil);obtain ⟨b,hb⟩ : ∃ b,b = d[i] := ⟨_,rfl⟩;rw [← hb] at hc;have Hb := Lib.hid hb;clear hb;go_wp2_with (at_builtin;refine wp_app_fs w _ b B v0 _ _ hf hB ?c0 rfl _ _ rfl rfl rfl ?_)
          case c0 => simp only [List.length_append,List.length_take];omega
          intro v1 w1 hf1;go_wp2_with fail
          go_roundg (D - i - 1)
          case measure => omega
          case rel => exact ⟨i + 1,by go_num,by omega,by rw [List.take_succ_eq_append_getElem hil,← Hb.out];exact hf1⟩
        have hc : i = D := by omega
        rw [hc] at hf;have hi' : ¬ i < D := hi;clear hc;go_wp2_with fail;refine wp_loop_rounds 1 ?_;rw [rounds_succ];go_wp2_with fail
        go_meet
        case rel => rw [HM.out,Nat.sub_self,List.replicate_zero,List.append_nil];exact hf
     have HM : Hid (headB d D = d.take d.length ++ List.replicate (D - d.length) 48) := Lib.hid (by rw [HE.out,List.take_of_length_le hM,List.take_of_length_le (Nat.le_refl _)]);have hMl : d.length ≤ d.length ∧ d.length ≤ D ∧ d.length ≤ L ∧ d.length ≤ C := by omega
     have hDz : (D : Int) - (d.length : Nat) = ((D - d.length : Nat) : Int) := by omega
     clear HE;go_wp2_with fail
     go_loopg [0,191] (d.length) (fun g s0 si wr => ∃ i : Nat,si = .int .i64 i ∧ i + g = d.length ∧ FS w wr B v0 s0 (sgnB neg ++ d.take i))
     case atStart => exact ⟨0,rfl,by omega,by rw [List.take_zero,List.append_nil];exact hf1⟩
     case round =>
      clear hf1;obtain ⟨i,rfl,hg,hf⟩ := hrel;by_cases hi : i < d.length
      · have ti : i < d.length := hi;have hil : i < d.length := by omega
        have hc := (hf.cell hq hne (i := i)).trans (hHd.out i hil);obtain ⟨b,hb⟩ : ∃ b,b = d[i] := ⟨_,rfl⟩;rw [← hb] at hc;have Hb := Lib.hid hb;clear hb;go_wp2_with (at_builtin;refine wp_app_fs w _ b B v0 _ _ hf hB ?c0 rfl _ _ rfl rfl rfl ?_)
        case c0 => simp only [List.length_append,List.length_take];omega
        intro v1 w1 hf1;go_wp2_with fail
        go_roundg (d.length - i - 1)
        case measure => omega
        case rel => exact ⟨i + 1,by go_num,by omega,by rw [List.take_succ_eq_append_getElem hil,← Hb.out];exact hf1⟩
      have hc : i = d.length := by omega
      rw [hc] at hf;have hi' : ¬ i < d.length := hi;clear hc;go_wp2_with fail
      go_loopg [0,203] (D - d.length) (fun g s0 si wr => ∃ i : Nat,si = .int .i64 i ∧ i + g = D - d.length ∧ FS w wr B v0 s0 (sgnB neg ++ (d ++ List.replicate i 48)))
      case atStart => exact ⟨0,rfl,by omega,by rw [List.replicate_zero,List.append_nil];rw [List.take_length] at hf;exact hf⟩
      case round =>
       clear hf hi hi' hg;obtain ⟨j,rfl,hg,hf⟩ := hrel;by_cases hi : j + d.length < D
       · have ti : (j : Int) < (D : Int) - (d.length : Nat) := by omega
         go_wp2_with (at_builtin;refine wp_app_fs w _ 48 B v0 _ _ hf hB ?c0 rfl _ _ rfl rfl rfl ?_)
         case c0 => simp only [List.length_append,List.length_replicate,List.length_take];omega
         intro v1 w1 hf1;go_wp2_with fail
         go_roundg (D - d.length - j - 1)
         case measure => omega
         case rel => exact ⟨j + 1,by go_num,by omega,by rw [List.replicate_succ'];exact hf1⟩
       have hc : j = D - d.length := by omega
       have ti : ¬ (j : Int) < (D : Int) - (d.length : Nat) := by omega
       rw [hc] at hf;clear hc;go_wp2_with fail
       go_meet
       case rel => rw [HM.out,List.take_length];exact hf
   | false =>
     have hp : ¬ 0 < dp := of_decide_eq_false htb;have HE : Hid (headB d dp = [48]) := Lib.hid (by unfold headB;rw [if_neg hp]);clear htb hp;go_wp2_with (at_builtin;refine wp_app_fs w _ 48 B v0 _ _ hf1 hB ?c0 rfl _ _ rfl rfl rfl ?_)
     case c0 => omega
     intro v1 w1 hf2;go_wp2_with fail
     go_meet
     case rel => rw [HE.out];exact hf2
  case rest =>
   have hf2 := hcut;have hhl := headB_len d dp;have HX := Lib.hid hdp;clear hf1 hcut htb hdp;obtain ⟨pre,hpre⟩ : ∃ pre,pre = sgnB neg ++ headB d dp ++ [46] := ⟨_,rfl⟩
   have hpl : pre.length ≤ 2000 := by
    have := HX.out;rw [hpre];simp only [List.length_append,List.length_cons,List.length_nil];omega
   have HP := Lib.hid hpre;clear hpre;have hz12 : zpF dp ≤ 12 := by unfold zpF;omega
   obtain ⟨Z,hZ⟩ : ∃ Z,Z = zpF dp := ⟨_,rfl⟩;obtain ⟨J,hJ⟩ : ∃ J,J = (dp + zpF dp).toNat := ⟨_,rfl⟩;obtain ⟨m,hm⟩ : ∃ m,m = min (12 - Z) (d.length - J) := ⟨_,rfl⟩;obtain ⟨r,hr⟩ : ∃ r,r = 12 - Z - (d.length - J) := ⟨_,rfl⟩
   have HT : Hid (tailB d dp = List.replicate Z 48 ++ (d.drop J).take m ++ List.replicate r 48) := Lib.hid (by
    have : (d.drop J).take (12 - Z) = (d.drop J).take m := by
     rw [hm]
     rcases Nat.le_total (12 - Z) (d.length - J) with h | h
     · rw [Nat.min_eq_left h]
     · rw [Nat.min_eq_right h,List.take_of_length_le (by rw [List.length_drop];omega),List.take_of_length_le (by rw [List.length_drop];omega)]
    rw [← this,hr,hJ,hZ]
    rfl)
   have HZJ : Hid (Z = zpF dp ∧ J = (dp + Z).toNat ∧ m = min (12 - Z) (d.length - J) ∧ r = 12 - Z - (d.length - J)) := Lib.hid ⟨hZ,by rw [hJ,hZ],hm,hr⟩;have hZ12 : Z ≤ 12 ∧ m ≤ 12 ∧ r ≤ 12 := by omega
   have hJm : 0 < m → J + m ≤ d.length := by omega
   clear hZ hJ hm hr
   go_upto_region 69 with (at_builtin;refine wp_app_fs w _ 46 B v0 _ _ hf2 hB ?c0 rfl _ _ rfl rfl rfl ?_)
   case c0 => have := HX.out;simp only [List.length_append];omega
   intro v1 w1 hf3;have hf4 : FS w w1 B v0 v1 pre := by rw [HP.out,List.append_assoc];exact hf3
   clear hf2 hf3
   go_upto_region 69 with fail
   go_cut [26] from 217 to 221 (fun s26 wc => s26 = .int .i64 Z ∧ w1 = wc)
   case first =>
    have hXX := Lib.hid hJm;have hdp3 : -1000 ≤ dp ∧ dp ≤ 1000 := HX.out;clear hJm;go_wp2_with fail
    all_goals
     go_meet
     case rel => exact ⟨congrArg _ (by have h := HZJ.out.1;have hX := HX.out;unfold zpF at h;omega),rfl⟩
   case rest =>
   obtain ⟨rfl,rfl⟩ := hcut;have hdp2 : -1000 ≤ dp ∧ dp ≤ 1000 := HX.out;obtain ⟨x,hx⟩ : ∃ x,dp + (Z : Int) = x := ⟨_,rfl⟩;have hxr : -2000 ≤ x ∧ x ≤ 2000 := by omega
   go_upto_region 71 with fail
   have hZx : Hid (J = x.toNat ∧ m = min (12 - Z) (d.length - J) ∧ r = 12 - Z - (d.length - J) ∧ (x < 0 → Z = 12)) := Lib.hid (by
    have h := HZJ.out
    refine ⟨by rw [← hx];exact h.2.1,h.2.2.1,h.2.2.2,fun h0 => ?_⟩
    have hz := h.1
    unfold zpF at hz
    omega)
   have hxJ : Hid (0 < m → x = J) := Lib.hid (by have := hZx.out;omega);have HJm := Lib.hid hJm;clear hx hdp2 hJm
   go_cut [28] from 225 to 232 (fun s28 wc => s28 = .int .i64 m ∧ w1 = wc)
   case first =>
    go_wp2_with fail
    all_goals
     go_meet
     case rel => exact ⟨congrArg _ (by have h := hZx.out;omega),rfl⟩
   case rest =>
   obtain ⟨rfl,rfl⟩ := hcut
   go_upto_region 72 with fail
   go_cut [29] from 233 to 238 (fun s29 wc => s29 = .int .i64 r ∧ w1 = wc)
   case first =>
    go_wp2_with fail
    all_goals
     go_meet
     case rel => exact ⟨congrArg _ (by have h := hZx.out;omega),rfl⟩
   case rest =>
    obtain ⟨rfl,rfl⟩ := hcut;clear hhl hsg;go_wp2_with fail
    go_loopg [0,240] Z (fun g s0 si wr => ∃ i : Nat,si = .int .i64 i ∧ i + g = Z ∧ FS w wr B v0 s0 (pre ++ List.replicate i 48))
    case atStart => exact ⟨0,rfl,by omega,by rw [List.replicate_zero,List.append_nil];exact hf4⟩
    case round =>
     clear hf4;obtain ⟨i,rfl,hg,hf⟩ := hrel;by_cases hi : i < Z
     · have ti : i < Z := hi;go_wp2_with (at_builtin;refine wp_app_fs w _ 48 B v0 _ _ hf hB ?c0 rfl _ _ rfl rfl rfl ?_)
       case c0 => simp only [List.length_append,List.length_replicate];omega
       intro v1 w1 hf1;go_wp2_with fail
       go_roundg (Z - i - 1)
       case measure => omega
       case rel => exact ⟨i + 1,by go_num,by omega,by rw [List.replicate_succ'];exact hf1⟩
     have hc : i = Z := by omega
     have ti : ¬ i < Z := hi;rw [hc] at hf;clear hc;go_wp2_with fail
     go_loopg [0,247] m (fun g s0 si wr => ∃ i : Nat,si = .int .i64 i ∧ i + g = m ∧ FS w wr B v0 s0 (pre ++ (List.replicate Z 48 ++ (d.drop J).take i)))
     case atStart => exact ⟨0,rfl,by omega,by rw [List.take_zero,List.append_nil];exact hf⟩
     case round =>
      clear hf hi ti hg;obtain ⟨j,rfl,hg,hf⟩ := hrel;by_cases hj : j < m
      · have tj : j < m := hj;have hjl : J + j < d.length := by have := HJm.out (by omega);omega
        have hxe : x = (J : Int) := hxJ.out (by omega);subst hxe;have hc := (hf.cell hq hne (i := J + j)).trans (hHd.out (J + j) hjl);obtain ⟨b,hb⟩ : ∃ b,b = d[J + j] := ⟨_,rfl⟩;rw [← hb] at hc;have Hb := Lib.hid hb;clear hb;go_wp2_with (at_builtin;refine wp_app_fs w _ b B v0 _ _ hf hB ?c0 rfl _ _ rfl rfl rfl ?_)
        case c0 => first | omega | (simp only [List.length_append,List.length_replicate,List.length_take,List.length_drop];omega) | (simp;omega)
        intro v1 w1 hf1;go_wp2_with fail
        go_roundg (m - j - 1)
        case measure => omega
        case rel =>
         refine ⟨j + 1,by go_num,by omega,?_⟩;rw [List.take_succ_eq_append_getElem (by rw [List.length_drop];omega),List.getElem_drop,← Hb.out];exact hf1
      have hc : j = m := by omega
      have tj : ¬ j < m := hj;rw [hc] at hf;clear hc;go_wp2_with fail
      go_loopg [0,261] r (fun g s0 si wr => ∃ i : Nat,si = .int .i64 i ∧ i + g = r ∧ FS w wr B v0 s0 (pre ++ (List.replicate Z 48 ++ ((d.drop J).take m ++ List.replicate i 48))))
      case atStart => exact ⟨0,rfl,by omega,by rw [List.replicate_zero,List.append_nil];exact hf⟩
      case round =>
       clear hf hj tj hg;obtain ⟨k,rfl,hg,hf⟩ := hrel;by_cases hk : k < r
       · have tk : k < r := hk;go_wp2_with (at_builtin;refine wp_app_fs w _ 48 B v0 _ _ hf hB ?c0 rfl _ _ rfl rfl rfl ?_)
         case c0 => first | omega | (simp only [List.length_append,List.length_replicate,List.length_take,List.length_drop];omega) | (simp;omega)
         intro v1 w1 hf1;go_wp2_with fail
         go_roundg (r - k - 1)
         case measure => omega
         case rel => exact ⟨k + 1,by go_num,by omega,by rw [List.replicate_succ'];exact hf1⟩
       have hc : k = r := by omega
       have tk : ¬ k < r := hk;rw [hc] at hf;clear hc;go_wp2_with fail;go_ret;refine ⟨_,rfl,?_⟩
       have e : fmtN neg d dp = pre ++ (List.replicate Z 48 ++ ((d.drop J).take m ++ List.replicate r 48)) := by
        unfold fmtN;rw [HT.out,HP.out];simp only [List.append_assoc]
       rw [e];exact hf
end Go.Proofs.YtcpijmbdibgdmaaGreatDoor
namespace Go.Proofs.YtcpijmbdibgdmaaGreatDoor
def dg (n : Nat) : List UInt8 := if h : n = 0 then [] else dg (n / 10) ++ [UInt8.ofNat (48 + n % 10)]
termination_by n
decreasing_by omega
def nd (n : Nat) : Nat := (dg n).length
theorem dg_zero : dg 0 = [] := by rw [dg,dif_pos rfl]
theorem dg_pos {n : Nat} (h : n ≠ 0) : dg n = dg (n / 10) ++ [UInt8.ofNat (48 + n % 10)] := by rw [dg,dif_neg h]
theorem nd_zero : nd 0 = 0 := by rw [nd,dg_zero];rfl
theorem nd_pos {n : Nat} (h : n ≠ 0) : nd n = nd (n / 10) + 1 := by rw [nd,dg_pos h,List.length_append];rfl
theorem nd_lt (n : Nat) : n < 10 ^ nd n := by
 induction n using Nat.strongRecOn with
 | ind n ih =>
   by_cases h : n = 0
   · subst h;rw [nd_zero];decide
   rw [nd_pos h,Nat.pow_succ];have := ih (n / 10) (by omega);omega
theorem nd_ge (n : Nat) (h : n ≠ 0) : 10 ^ nd n ≤ 10 * n := by
 induction n using Nat.strongRecOn with
 | ind n ih =>
   rw [nd_pos h,Nat.pow_succ];by_cases h1 : n / 10 = 0
   · rw [h1,nd_zero];omega
   have := ih (n / 10) (by omega) h1;omega
theorem pow10_lt {a b : Nat} (h : 10 ^ a < 10 ^ b) : a < b := by
 rcases Nat.lt_or_ge a b with h1 | h1
 · exact h1
 have := Nat.pow_le_pow_right (n := 10) (by decide) h1;omega
theorem nd_eq {n k : Nat} (h0 : n ≠ 0) (h1 : n < 10 ^ k) (h2 : 10 ^ k ≤ 10 * n) : nd n = k := by
 have a := nd_lt n;have b := nd_ge n h0;have c : 10 ^ nd n < 10 ^ (k + 1) := by rw [Nat.pow_succ];omega
 have d : 10 ^ k < 10 ^ (nd n + 1) := by rw [Nat.pow_succ];omega
 have := pow10_lt c;have := pow10_lt d;omega
theorem nd_le {n k : Nat} (h1 : n < 10 ^ k) : nd n ≤ k := by
 by_cases h : n = 0
 · subst h;rw [nd_zero];omega
 have b := nd_ge n h;have c : 10 ^ nd n < 10 ^ (k + 1) := by rw [Nat.pow_succ];omega
 have := pow10_lt c;omega
theorem nd_one {n : Nat} (h : n ≠ 0) : 1 ≤ nd n := by rw [nd_pos h];omega
theorem nd_none {n : Nat} (h : nd n = 0) : n = 0 := by
 have := nd_lt n;rw [h] at this;omega
theorem dg_snoc {m c : Nat} (h : m ≠ 0 ∨ c ≠ 0) (hc : c ≤ 9) : dg (10 * m + c) = dg m ++ [UInt8.ofNat (48 + c)] := by
 rw [dg_pos (by omega),show (10 * m + c) / 10 = m by omega,show (10 * m + c) % 10 = c by omega]
theorem nd_snoc {m c : Nat} (h : m ≠ 0 ∨ c ≠ 0) (hc : c ≤ 9) : nd (10 * m + c) = nd m + 1 := by
 rw [nd,dg_snoc h hc,List.length_append];rfl
theorem nd_pow {m : Nat} (h : m ≠ 0) : ∀ j,nd (m * 10 ^ j) = nd m + j
 | 0 => by rw [Nat.pow_zero,Nat.mul_one];rfl
 | j + 1 => by
   have hp : 0 < m * 10 ^ j := Nat.mul_pos (by omega) (Nat.pow_pos (by decide));have e : m * 10 ^ (j + 1) = 10 * (m * 10 ^ j) + 0 := by rw [Nat.pow_succ,← Nat.mul_assoc];omega
   rw [e,nd_snoc (.inl (by omega)) (by omega),nd_pow h j];omega
theorem dg_take : ∀ (j n : Nat),j ≤ nd n → (dg n).take (nd n - j) = dg (n / 10 ^ j)
 | 0,n,_ => by rw [Nat.pow_zero,Nat.div_one,Nat.sub_zero];exact List.take_length
 | j + 1,n,h => by
   have h0 : n ≠ 0 := by intro e;subst e;rw [nd_zero] at h;omega
   have e1 : n / 10 ^ (j + 1) = n / 10 / 10 ^ j := by rw [Nat.div_div_eq_div_mul,Nat.pow_succ,Nat.mul_comm]
   have hn := nd_pos h0;rw [e1,← dg_take j (n / 10) (by omega),hn,dg_pos h0,show nd (n / 10) + 1 - (j + 1) = nd (n / 10) - j by omega];rw [List.take_append_of_le_length (by show _ ≤ nd (n / 10);omega)]
theorem dg_get : ∀ (j n : Nat),j < nd n → (dg n)[nd n - 1 - j]? = some (UInt8.ofNat (48 + n / 10 ^ j % 10))
 | 0,n,h => by
   have h0 : n ≠ 0 := by intro e;subst e;rw [nd_zero] at h;omega
   have hn := nd_pos h0;rw [dg_pos h0,hn,Nat.pow_zero,Nat.div_one,List.getElem?_append_right (by show nd (n / 10) ≤ _;omega)];rw [show nd (n / 10) + 1 - 1 - 0 - (dg (n / 10)).length = 0 by show _ - nd (n / 10) = 0;omega];rfl
 | j + 1,n,h => by
   have h0 : n ≠ 0 := by intro e;subst e;rw [nd_zero] at h;omega
   have e1 : n / 10 ^ (j + 1) = n / 10 / 10 ^ j := by rw [Nat.div_div_eq_div_mul,Nat.pow_succ,Nat.mul_comm]
   have hn := nd_pos h0;rw [e1,← dg_get j (n / 10) (by omega),dg_pos h0,hn,List.getElem?_append_left (by show _ < nd (n / 10);omega)];congr 1;omega
theorem dg_digits (n : Nat) : ∀ b ∈ dg n,48 ≤ b.toNat ∧ b.toNat ≤ 57 := by
 induction n using Nat.strongRecOn with
 | ind n ih =>
   by_cases h : n = 0
   · subst h;rw [dg_zero];intro b hb;cases hb
   rw [dg_pos h];intro b hb;rcases List.mem_append.1 hb with hb | hb
   · exact ih (n / 10) (by omega) b hb
   have e := List.mem_singleton.1 hb;rw [e,UInt8.toNat_ofNat'];omega
def pre (n r : Nat) : Nat := if r ≤ nd n then n / 10 ^ (nd n - r) else n * 10 ^ (r - nd n)
theorem pre_zero (n : Nat) : pre n 0 = 0 := by
 rw [pre,if_pos (Nat.zero_le _),Nat.sub_zero];exact Nat.div_eq_of_lt (nd_lt n)
theorem pre_ge {n r : Nat} (h : nd n ≤ r) : pre n r = n * 10 ^ (r - nd n) := by
 unfold pre;split
 · have : r = nd n := by omega
   subst this;rw [Nat.sub_self,Nat.pow_zero,Nat.div_one,Nat.mul_one]
 rfl
theorem pre_more {n r : Nat} (h : nd n ≤ r) : pre n (r + 1) = pre n r * 10 := by
 rw [pre_ge h,pre_ge (by omega),show r + 1 - nd n = (r - nd n) + 1 by omega,Nat.pow_succ,Nat.mul_assoc]
theorem pre_next {n r : Nat} (h : r < nd n) : ∃ d,d ≤ 9 ∧ pre n (r + 1) = pre n r * 10 + d ∧ (dg n)[r]? = some (UInt8.ofNat (48 + d)) := by
 refine ⟨n / 10 ^ (nd n - 1 - r) % 10,by omega,?_,?_⟩
 · rw [pre,pre,if_pos (by omega),if_pos (by omega)]
   have e : n / 10 ^ (nd n - r) = n / 10 ^ (nd n - 1 - r) / 10 := by
    rw [Nat.div_div_eq_div_mul,← Nat.pow_succ];congr 2;omega
   rw [e,show nd n - (r + 1) = nd n - 1 - r by omega];omega
 have := dg_get (nd n - 1 - r) n (by omega);rw [show nd n - 1 - (nd n - 1 - r) = r by omega] at this;exact this
theorem pre_pos {n r : Nat} (h0 : n ≠ 0) (h : 0 < r) : pre n r ≠ 0 := by
 unfold pre;split
 · have h1 := nd_ge n h0
   have h2 : 10 ^ (nd n - r) ≤ n := by
    have e : 10 ^ (nd n - r + 1) ≤ 10 ^ nd n := Nat.pow_le_pow_right (by decide) (by omega);rw [Nat.pow_succ] at e;omega
   have := Nat.div_pos h2 (Nat.pow_pos (by decide));omega
 have := Nat.mul_pos (Nat.pos_of_ne_zero h0) (Nat.pow_pos (n := r - nd n) (show 0 < 10 by decide));omega
def strip (n : Nat) : Nat := if h : n ≠ 0 ∧ n % 10 = 0 then strip (n / 10) else n
termination_by n
decreasing_by omega
theorem strip_mul10 {m : Nat} (h : m ≠ 0) : strip (m * 10) = strip m := by
 rw [strip,dif_pos (by omega),show m * 10 / 10 = m by omega]
theorem strip_pow {m : Nat} (h : m ≠ 0) : ∀ j,strip (m * 10 ^ j) = strip m
 | 0 => by rw [Nat.pow_zero,Nat.mul_one]
 | j + 1 => by
   have hp : 0 < m * 10 ^ j := Nat.mul_pos (by omega) (Nat.pow_pos (by decide));rw [Nat.pow_succ,← Nat.mul_assoc,strip_mul10 (by omega),strip_pow h j]
theorem strip_spec (n : Nat) (h : n ≠ 0) : ∃ z,n = strip n * 10 ^ z ∧ strip n ≠ 0 ∧ strip n % 10 ≠ 0 := by
 induction n using Nat.strongRecOn with
 | ind n ih =>
   rw [strip];split
   · rename_i h1;obtain ⟨z,hz,h2,h3⟩ := ih (n / 10) (by omega) (by omega);refine ⟨z + 1,?_,h2,h3⟩;rw [Nat.pow_succ,← Nat.mul_assoc,← hz];omega
   exact ⟨0,by rw [Nat.pow_zero,Nat.mul_one],h,by omega⟩
theorem strip_ne {n : Nat} (h : n ≠ 0) : strip n ≠ 0 := by
 obtain ⟨_,_,h,_⟩ := strip_spec n h;exact h
theorem strip_nd {n : Nat} (h : n ≠ 0) : ∃ z,n = strip n * 10 ^ z ∧ nd n = nd (strip n) + z := by
 obtain ⟨z,h1,h2,_⟩ := strip_spec n h;refine ⟨z,h1,?_⟩;have := nd_pow h2 z;rw [← h1] at this;exact this
theorem strip_nd_le {n : Nat} (h : n ≠ 0) : nd (strip n) ≤ nd n := by
 obtain ⟨z,_,h⟩ := strip_nd h;omega
theorem two_five (k : Nat) : 2 ^ k * 5 ^ k = 10 ^ k := by rw [← Nat.mul_pow]
theorem five_pos (k : Nat) : 0 < 5 ^ k := Nat.pow_pos (by decide)
theorem two_pos (k : Nat) : 0 < 2 ^ k := Nat.pow_pos (by decide)
theorem ten_pos (k : Nat) : 0 < 10 ^ k := Nat.pow_pos (by decide)
theorem nd_right {N k r : Nat} (h0 : N ≠ 0) (h1 : 2 ^ k ≤ pre N r) (h2 : pre N r < 10 * 2 ^ k) : nd (N * 5 ^ k) + r = k + 1 + nd N := by
 have h5 := five_pos k;have hN : N * 5 ^ k ≠ 0 := by have := Nat.mul_pos (Nat.pos_of_ne_zero h0) h5;omega
 have e10 : 2 ^ k * 5 ^ k = 10 ^ k := two_five k;by_cases hr : r ≤ nd N
 · rw [pre,if_pos hr] at h1 h2;have ht := ten_pos (nd N - r);have a1 := (Nat.le_div_iff_mul_le ht).1 h1;have a2 := (Nat.div_lt_iff_lt_mul ht).1 h2;have b1 := Nat.mul_le_mul_right (5 ^ k) a1;have b2 := Nat.mul_lt_mul_of_pos_right a2 h5;have e1 : 2 ^ k * 10 ^ (nd N - r) * 5 ^ k = 10 ^ (k + (nd N - r)) := by rw [Nat.mul_right_comm,e10,Nat.pow_add]
   have e2 : 10 * 2 ^ k * 10 ^ (nd N - r) * 5 ^ k = 10 * 10 ^ (k + (nd N - r)) := by rw [Nat.mul_assoc 10,Nat.mul_assoc 10,e1]
   rw [e1] at b1;rw [e2] at b2;have := nd_eq (k := k + (nd N - r) + 1) hN (by rw [Nat.pow_succ];omega) (by rw [Nat.pow_succ];omega);omega
 rw [pre,if_neg hr] at h1 h2;have b1 := Nat.mul_le_mul_right (5 ^ k) h1;have b2 := Nat.mul_lt_mul_of_pos_right h2 h5;rw [e10,Nat.mul_right_comm] at b1;rw [Nat.mul_right_comm,Nat.mul_assoc 10,e10] at b2;have h3 := nd_eq (n := N * 5 ^ k * 10 ^ (r - nd N)) (k := k + 1) (by have := Nat.mul_pos (Nat.pos_of_ne_zero hN) (ten_pos (r - nd N));omega) (by rw [Nat.pow_succ];omega) (by rw [Nat.pow_succ];omega);rw [nd_pow hN] at h3;omega
theorem right_more {N k O n J : Nat} (h : N * 10 ^ J = O * (10 * 2 ^ k) + n) (hn : n < 10 * 2 ^ k) (h0 : n ≠ 0) : J ≤ k := by
 rcases Nat.lt_or_ge k J with hk | hk
 · exfalso
   have e : N * 10 ^ J = N * 10 ^ (J - k - 1) * 5 ^ k * (10 * 2 ^ k) := by
    rw [show J = (J - k - 1) + (k + 1) by omega,Nat.pow_add,Nat.pow_succ 10 k,← two_five k];rw [show J - k - 1 + (k + 1) - k - 1 = J - k - 1 by omega]
    ac_rfl
   rw [e] at h
   have hd : n % (10 * 2 ^ k) = 0 := by
    have := congrArg (· % (10 * 2 ^ k)) h;simp only [Nat.mul_mod_left,Nat.mul_add_mod_self_right] at this;exact this.symm
   rw [Nat.mod_eq_of_lt hn] at hd;exact h0 hd
 exact hk
theorem right_end {N k O J : Nat} (h : N * 10 ^ J = O * (10 * 2 ^ k)) (h0 : N ≠ 0) : O ≠ 0 ∧ strip O = strip (N * 5 ^ k) := by
 have hN : N * 5 ^ k ≠ 0 := by have := Nat.mul_pos (Nat.pos_of_ne_zero h0) (five_pos k);omega
 have hO : O ≠ 0 := by
  intro e;subst e;have := Nat.mul_pos (Nat.pos_of_ne_zero h0) (ten_pos J);omega
 refine ⟨hO,?_⟩
 have e : O * 10 ^ (k + 1) = N * 5 ^ k * 10 ^ J := by
  rw [Nat.mul_right_comm,h,Nat.pow_succ,← two_five k]
  ac_rfl
 rw [← strip_pow hO (k + 1),e,strip_pow hN]
theorem right_step {k O n c P : Nat} (h : P = O * (10 * 2 ^ k) + n) : P * 10 + c = (10 * O + n / 2 ^ k) * (10 * 2 ^ k) + (n % 2 ^ k * 10 + c) := by
 have := Nat.div_add_mod n (2 ^ k)
 have e1 : (10 * O + n / 2 ^ k) * (10 * 2 ^ k) = O * (10 * 2 ^ k) * 10 + (2 ^ k * (n / 2 ^ k)) * 10 := by
  rw [Nat.add_mul];congr 1
  · ac_rfl
  ac_rfl
 rw [e1,h];omega
theorem right_dig {k O n : Nat} (h : O ≠ 0 ∨ 2 ^ k ≤ n) (hn : n < 10 * 2 ^ k) : n / 2 ^ k ≤ 9 ∧ (O ≠ 0 ∨ n / 2 ^ k ≠ 0) := by
 have h2 := two_pos k;constructor
 · have := (Nat.div_lt_iff_lt_mul h2).2 hn;omega
 rcases h with h | h
 · exact .inl h
 have := Nat.div_pos h h2;exact .inr (by omega)
theorem nd_left_less {N k q : Nat} (h0 : N ≠ 0) (hq : q = nd (5 ^ k)) (hqk : q ≤ k) (h : N * 10 ^ q < 5 ^ k * 10 ^ nd N) : nd (N * 2 ^ k) = nd N + (k - q) := by
 have h2 := two_pos k;have hN : N * 2 ^ k ≠ 0 := by have := Nat.mul_pos (Nat.pos_of_ne_zero h0) h2;omega
 have a := Nat.mul_lt_mul_of_pos_right h h2;have b := Nat.mul_le_mul_right (2 ^ k) (nd_ge N h0);have c := nd_lt (5 ^ k);rw [← hq] at c;have e1 : N * 10 ^ q * 2 ^ k = N * 2 ^ k * 10 ^ q := Nat.mul_right_comm _ _ _
 have e2 : 5 ^ k * 10 ^ nd N * 2 ^ k = 10 ^ (nd N + (k - q)) * 10 ^ q := by
  rw [Nat.mul_right_comm,Nat.mul_comm (5 ^ k),two_five,← Nat.pow_add,← Nat.pow_add];congr 1;omega
 rw [e1,e2] at a;refine nd_eq hN (Nat.lt_of_mul_lt_mul_right a) ?_
 have d : 10 ^ (k - q) ≤ 2 ^ k := by
  have e3 : 10 ^ (k - q) * 10 ^ q = 2 ^ k * 5 ^ k := by rw [two_five,← Nat.pow_add];congr 1;omega
  have e4 : 2 ^ k * 5 ^ k ≤ 2 ^ k * 10 ^ q := Nat.mul_le_mul_left _ (Nat.le_of_lt c);rw [← e3] at e4;exact Nat.le_of_mul_le_mul_right e4 (ten_pos q)
 have f := Nat.mul_le_mul_left (10 ^ nd N) d;rw [← Nat.pow_add] at f;have g : 10 * N * 2 ^ k = 10 * (N * 2 ^ k) := Nat.mul_assoc _ _ _;omega
theorem nd_left_more {N k q : Nat} (h0 : N ≠ 0) (hq : q = nd (5 ^ k)) (hqk : q ≤ k) (h : ¬ N * 10 ^ q < 5 ^ k * 10 ^ nd N) : nd (N * 2 ^ k) = nd N + (k - q) + 1 := by
 have h2 := two_pos k;have hN : N * 2 ^ k ≠ 0 := by have := Nat.mul_pos (Nat.pos_of_ne_zero h0) h2;omega
 have a := Nat.mul_le_mul_right (2 ^ k) (Nat.le_of_not_lt h);have b := Nat.mul_lt_mul_of_pos_right (nd_lt N) h2;have c := nd_ge (5 ^ k) (by have := five_pos k;omega);rw [← hq] at c;have e1 : N * 10 ^ q * 2 ^ k = N * 2 ^ k * 10 ^ q := Nat.mul_right_comm _ _ _
 have e2 : 5 ^ k * 10 ^ nd N * 2 ^ k = 10 ^ (nd N + (k - q)) * 10 ^ q := by
  rw [Nat.mul_right_comm,Nat.mul_comm (5 ^ k),two_five,← Nat.pow_add,← Nat.pow_add];congr 1;omega
 rw [e1,e2] at a;have a := Nat.le_of_mul_le_mul_right a (ten_pos q)
 have d : 2 ^ k ≤ 10 ^ (k - q) * 10 := by
  have e3 : 10 ^ (k - q) * 10 * 10 ^ q = 2 ^ k * 5 ^ k * 10 := by rw [two_five,Nat.mul_right_comm,← Nat.pow_add,show k - q + q = k by omega]
  have e4 : 2 ^ k * 10 ^ q ≤ 2 ^ k * (10 * 5 ^ k) := Nat.mul_le_mul_left _ c;have e5 : 2 ^ k * (10 * 5 ^ k) = 2 ^ k * 5 ^ k * 10 := by ac_rfl
  rw [e5,← e3] at e4;exact Nat.le_of_mul_le_mul_right e4 (ten_pos q)
 have f := Nat.mul_le_mul_left (10 ^ nd N) d;rw [← Nat.mul_assoc,← Nat.pow_add] at f;refine nd_eq hN ?_ ?_
 · rw [Nat.pow_succ];omega
 rw [Nat.pow_succ];omega
theorem left_step (N k m : Nat) : (N * 2 ^ k / 10 ^ m) % 10 = (N % 10 ^ m * 2 ^ k / 10 ^ m + N / 10 ^ m % 10 * 2 ^ k) % 10 ∧ (N % 10 ^ m * 2 ^ k / 10 ^ m + N / 10 ^ m % 10 * 2 ^ k) / 10 = N % 10 ^ (m + 1) * 2 ^ k / 10 ^ (m + 1) := by
 have ht := ten_pos m
 have e0 : N % 10 ^ m * 2 ^ k / 10 ^ m + N / 10 ^ m % 10 * 2 ^ k = N % 10 ^ (m + 1) * 2 ^ k / 10 ^ m := by
  have e1 : N % 10 ^ (m + 1) = N % 10 ^ m + 10 ^ m * (N / 10 ^ m % 10) := by
   rw [Nat.pow_succ];exact Nat.mod_mul
  rw [e1,Nat.add_mul,show 10 ^ m * (N / 10 ^ m % 10) * 2 ^ k = 10 ^ m * (N / 10 ^ m % 10 * 2 ^ k) by rw [Nat.mul_assoc],Nat.add_mul_div_left _ _ ht]
 rw [e0];constructor
 · have e2 : N * 2 ^ k = N % 10 ^ (m + 1) * 2 ^ k + 10 ^ m * (10 * (N / 10 ^ (m + 1) * 2 ^ k)) := by
    have := Nat.div_add_mod N (10 ^ (m + 1))
    have e3 : 10 ^ m * (10 * (N / 10 ^ (m + 1) * 2 ^ k)) = 10 ^ (m + 1) * (N / 10 ^ (m + 1)) * 2 ^ k := by
     rw [Nat.pow_succ]
     ac_rfl
    rw [e3,← Nat.add_mul,Nat.add_comm,this]
   rw [e2,Nat.add_mul_div_left _ _ ht,Nat.add_mul_mod_self_left]
 rw [Nat.div_div_eq_div_mul,← Nat.pow_succ]
theorem left_carry (N k m : Nat) : N % 10 ^ m * 2 ^ k / 10 ^ m ≤ 2 ^ k := by
 have ht := ten_pos m;have h := Nat.mod_lt N ht;refine Nat.le_of_lt_succ ((Nat.div_lt_iff_lt_mul ht).2 ?_);have := Nat.mul_le_mul_right (2 ^ k) (Nat.le_of_lt h);have e : (2 ^ k + 1) * 10 ^ m = 10 ^ m * 2 ^ k + 10 ^ m := by rw [Nat.add_mul,Nat.one_mul,Nat.mul_comm]
 rw [Nat.succ_eq_add_one,e];omega
def lessB : List UInt8 → List UInt8 → Bool
 | _,[] => false
 | [],_ :: _ => true
 | b :: bs,c :: cs => if b = c then lessB bs cs else decide (b.toNat < c.toNat)
def unD (acc : Nat) (l : List UInt8) : Nat := l.foldl (fun a b => a * 10 + (b.toNat - 48)) acc
theorem unD_nil (a : Nat) : unD a [] = a := rfl
theorem unD_cons (a : Nat) (b : UInt8) (l : List UInt8) : unD a (b :: l) = unD (a * 10 + (b.toNat - 48)) l := by unfold unD;rw [List.foldl_cons]
theorem unD_acc : ∀ (l : List UInt8) (a : Nat),unD a l = a * 10 ^ l.length + unD 0 l
 | [],a => by simp [unD_nil]
 | b :: l,a => by
   rw [unD_cons,unD_cons,unD_acc l,unD_acc l (0 * 10 + _),List.length_cons,Nat.pow_succ,Nat.zero_mul,Nat.zero_add,Nat.add_mul,Nat.add_assoc];congr 1
   ac_rfl
theorem unD_lt : ∀ (l : List UInt8),(∀ b ∈ l,48 ≤ b.toNat ∧ b.toNat ≤ 57) → unD 0 l < 10 ^ l.length
 | [],_ => by simp [unD_nil]
 | b :: l,h => by
   rw [unD_cons,unD_acc,List.length_cons,Nat.pow_succ];have h1 := unD_lt l (fun b hb => h b (by simp [hb]));have h2 := h b (by simp);have h3 : (0 * 10 + (b.toNat - 48)) * 10 ^ l.length ≤ 9 * 10 ^ l.length := Nat.mul_le_mul_right _ (by omega);omega
theorem unD_append (l : List UInt8) (b : UInt8) : ∀ a,unD a (l ++ [b]) = unD a l * 10 + (b.toNat - 48) := by
 induction l with
 | nil => intro a;rfl
 | cons c l ih => intro a;rw [List.cons_append,unD_cons,unD_cons,ih]
theorem unD_dg (n : Nat) : unD 0 (dg n) = n := by
 induction n using Nat.strongRecOn with
 | ind n ih =>
   by_cases h : n = 0
   · subst h;rw [dg_zero];rfl
   rw [dg_pos h,unD_append,ih (n / 10) (by omega),UInt8.toNat_ofNat'];omega
theorem less_iff : ∀ (b s : List UInt8),(∀ x ∈ b,48 ≤ x.toNat ∧ x.toNat ≤ 57) → (∀ x ∈ s,48 ≤ x.toNat ∧ x.toNat ≤ 57) → (s ≠ [] → s.getLast? ≠ some 48) →
 (lessB b s = true ↔ unD 0 b * 10 ^ s.length < unD 0 s * 10 ^ b.length)
 | b,[],_,_,_ => by
   cases b with
   | nil => simp [lessB,unD_nil]
   | cons b l => simp [lessB,unD_nil]
 | [],c :: s,_,hs,hl => by
   simp only [lessB,List.length_nil,Nat.pow_zero,Nat.mul_one,unD_nil,Nat.zero_mul,true_iff]
   have : ∀ (s : List UInt8),(∀ x ∈ s,48 ≤ x.toNat ∧ x.toNat ≤ 57) → s ≠ [] → s.getLast? ≠ some 48 → 0 < unD 0 s := by
    intro s hs hn hl;obtain ⟨t,x,rfl⟩ : ∃ t x,s = t ++ [x] := ⟨s.dropLast,s.getLast hn,(List.dropLast_concat_getLast hn).symm⟩;rw [unD_append];have h1 := hs x (by simp);have h2 : x ≠ 48 := by intro e;subst e;simp at hl
    have h3 : x.toNat ≠ 48 := by intro e;exact h2 (UInt8.toNat_inj.1 (by rw [e];rfl))
    omega
   exact this (c :: s) hs (by simp) (hl (by simp))
 | b :: bs,c :: cs,hb,hs,hl => by
   have hb1 := hb b (by simp);have hc1 := hs c (by simp);have hb2 : ∀ x ∈ bs,48 ≤ x.toNat ∧ x.toNat ≤ 57 := fun x hx => hb x (by simp [hx])
   have hc2 : ∀ x ∈ cs,48 ≤ x.toNat ∧ x.toNat ≤ 57 := fun x hx => hs x (by simp [hx])
   have hl2 : cs ≠ [] → cs.getLast? ≠ some 48 := by
    intro hn;have := hl (by simp)
    cases cs with
    | nil => exact absurd rfl hn
    | cons d ds => simpa using this
   have u1 := unD_lt bs hb2;have u2 := unD_lt cs hc2;have p1 := ten_pos bs.length;have p2 := ten_pos cs.length;rw [lessB,unD_cons,unD_cons,unD_acc bs,unD_acc cs,List.length_cons,List.length_cons,Nat.pow_succ,Nat.pow_succ,Nat.zero_mul,Nat.zero_add,Nat.zero_add]
   have eL : ((b.toNat - 48) * 10 ^ bs.length + unD 0 bs) * (10 ^ cs.length * 10) = (b.toNat - 48) * (10 ^ bs.length * 10 ^ cs.length) * 10 + unD 0 bs * 10 ^ cs.length * 10 := by
    rw [Nat.add_mul];congr 1
    · ac_rfl
    ac_rfl
   have eR : ((c.toNat - 48) * 10 ^ cs.length + unD 0 cs) * (10 ^ bs.length * 10) = (c.toNat - 48) * (10 ^ bs.length * 10 ^ cs.length) * 10 + unD 0 cs * 10 ^ bs.length * 10 := by
    rw [Nat.add_mul];congr 1
    · ac_rfl
    ac_rfl
   rw [eL,eR];have v1 : unD 0 bs * 10 ^ cs.length < 10 ^ bs.length * 10 ^ cs.length := Nat.mul_lt_mul_of_pos_right u1 p2;have v2 : unD 0 cs * 10 ^ bs.length < 10 ^ bs.length * 10 ^ cs.length := by rw [Nat.mul_comm (10 ^ bs.length)];exact Nat.mul_lt_mul_of_pos_right u2 p1
   split
   · rename_i e;subst e;rw [less_iff bs cs hb2 hc2 hl2];omega
   rename_i e;have ne : b.toNat ≠ c.toNat := fun h => e (UInt8.toNat_inj.1 h)
   rw [decide_eq_true_iff];generalize 10 ^ bs.length * 10 ^ cs.length = P at *;constructor
   · intro h;have : (b.toNat - 48 + 1) * P ≤ (c.toNat - 48) * P := Nat.mul_le_mul_right _ (by omega);rw [Nat.add_mul] at this;omega
   intro h;rcases Nat.lt_or_ge b.toNat c.toNat with h1 | h1
   · exact h1
   exfalso;have : (c.toNat - 48 + 1) * P ≤ (b.toNat - 48) * P := Nat.mul_le_mul_right _ (by omega);rw [Nat.add_mul] at this;omega
end Go.Proofs.YtcpijmbdibgdmaaGreatDoor
namespace Go.Proofs.YtcpijmbdibgdmaaGreatDoor
def shR (N k : Nat) : Nat := strip (N * 5 ^ k)
def dpR (N : Nat) (dp : Int) (k : Nat) : Int := dp + nd (N * 5 ^ k) - nd N - k
def shL (N k : Nat) : Nat := strip (N * 2 ^ k)
def dpL (N : Nat) (dp : Int) (k : Nat) : Int := dp + nd (N * 2 ^ k) - nd N
theorem mul5_ne {N : Nat} (h : N ≠ 0) (k : Nat) : N * 5 ^ k ≠ 0 := by have := Nat.mul_pos (Nat.pos_of_ne_zero h) (five_pos k);omega
theorem mul2_ne {N : Nat} (h : N ≠ 0) (k : Nat) : N * 2 ^ k ≠ 0 := by have := Nat.mul_pos (Nat.pos_of_ne_zero h) (two_pos k);omega
theorem shR_ne {N : Nat} (h : N ≠ 0) (k : Nat) : shR N k ≠ 0 := strip_ne (mul5_ne h k)
theorem shL_ne {N : Nat} (h : N ≠ 0) (k : Nat) : shL N k ≠ 0 := strip_ne (mul2_ne h k)
theorem nd_mul_le {N k c : Nat} (hc : c ≤ 10) : nd (N * c ^ k) ≤ nd N + k := by
 refine nd_le ?_;have h1 := nd_lt N;have h2 : c ^ k ≤ 10 ^ k := Nat.pow_le_pow_left hc k;rw [Nat.pow_add];exact Nat.lt_of_le_of_lt (Nat.mul_le_mul_left _ h2) (Nat.mul_lt_mul_of_pos_right h1 (ten_pos k))
theorem nd_mono {a b : Nat} (h : a ≤ b) : nd a ≤ nd b := nd_le (Nat.lt_of_le_of_lt h (nd_lt b))
theorem nd_mul_ge {N k c : Nat} (hc : 0 < c) : nd N ≤ nd (N * c ^ k) := nd_mono (Nat.le_mul_of_pos_right _ (Nat.pow_pos hc))
theorem shR_nd {N : Nat} (h : N ≠ 0) (k : Nat) : nd (shR N k) ≤ nd N + k := Nat.le_trans (strip_nd_le (mul5_ne h k)) (nd_mul_le (by decide))
theorem shL_nd {N : Nat} (h : N ≠ 0) (k : Nat) : nd (shL N k) ≤ nd N + k := Nat.le_trans (strip_nd_le (mul2_ne h k)) (nd_mul_le (by decide))
theorem dpR_ge (N : Nat) (dp : Int) (k : Nat) : dp - k ≤ dpR N dp k := by
 unfold dpR;have := nd_mul_ge (N := N) (k := k) (c := 5) (by decide);omega
theorem dpR_le (N : Nat) (dp : Int) (k : Nat) : dpR N dp k ≤ dp := by
 unfold dpR;have := nd_mul_le (N := N) (k := k) (c := 5) (by decide);omega
theorem dpL_ge (N : Nat) (dp : Int) (k : Nat) : dp ≤ dpL N dp k := by
 unfold dpL;have := nd_mul_ge (N := N) (k := k) (c := 2) (by decide);omega
theorem dpL_le (N : Nat) (dp : Int) (k : Nat) : dpL N dp k ≤ dp + k := by
 unfold dpL;have := nd_mul_le (N := N) (k := k) (c := 2) (by decide);omega
def pw (d : Nat) : Nat := if 9 ≤ d then 27 else [1,3,6,9,13,16,19,23,26].getD d 0
theorem pw_pos (d : Nat) : 1 ≤ pw d ∧ pw d ≤ 27 := by
 unfold pw;split
 · omega
 rename_i h;have : d = 0 ∨ d = 1 ∨ d = 2 ∨ d = 3 ∨ d = 4 ∨ d = 5 ∨ d = 6 ∨ d = 7 ∨ d = 8 := by omega
 rcases this with rfl | rfl | rfl | rfl | rfl | rfl | rfl | rfl | rfl <;> decide
def VR (N : Nat) (dp : Int) (M : Nat) (q : Int) (s : Nat) : Prop := ∃ a b : Nat,N * 10 ^ a * 2 ^ s = M * 10 ^ b ∧ (a : Int) - b = dp - nd N - q
theorem VR_start (M : Nat) (dp : Int) : VR M dp M (dp - nd M) 0 := ⟨0,0,by simp,by omega⟩
theorem VR_step {N M s : Nat} {dp q : Int} (h : VR N dp M q s) (h0 : N ≠ 0) (k : Nat) : VR (shR N k) (dpR N dp k) M q (s + k) := by
 obtain ⟨a,b,h1,h2⟩ := h;obtain ⟨z,hz,hn⟩ := strip_nd (mul5_ne h0 k);refine ⟨a + z,b + k,?_,?_⟩
 · have e : shR N k * 10 ^ (a + z) * 2 ^ (s + k) = (shR N k * 10 ^ z) * (10 ^ a * 2 ^ s * 2 ^ k) := by rw [Nat.pow_add,Nat.pow_add];ac_rfl
   rw [e];unfold shR;rw [← hz];have e2 : N * 5 ^ k * (10 ^ a * 2 ^ s * 2 ^ k) = N * 10 ^ a * 2 ^ s * (2 ^ k * 5 ^ k) := by ac_rfl
   rw [e2,h1,two_five,Nat.pow_add]
   ac_rfl
 unfold dpR shR;omega
theorem pow2_lt {a b : Nat} (h : 2 ^ a < 2 ^ b) : a < b := by
 rcases Nat.lt_or_ge a b with h1 | h1
 · exact h1
 have := Nat.pow_le_pow_right (n := 2) (by decide) h1;omega
theorem VR_pos {N M s : Nat} {dp dp0 : Int} (h : VR N dp M (dp0 - nd M) s) (h0 : N ≠ 0) (hd : 0 < dp) (hd0 : dp0 ≤ 14) : s ≤ 46 := by
 obtain ⟨a,b,h1,h2⟩ := h;have g := nd_ge N h0;have l := nd_lt M
 have e1 : 10 ^ (nd N + a) * 2 ^ s ≤ 10 * (M * 10 ^ b) := by
  rw [← h1,Nat.pow_add];have := Nat.mul_le_mul_right (10 ^ a * 2 ^ s) g;have e : 10 * N * (10 ^ a * 2 ^ s) = 10 * (N * 10 ^ a * 2 ^ s) := by ac_rfl
  rw [e] at this;rw [Nat.mul_assoc];exact this
 have e2 : M * 10 ^ b < 10 ^ nd M * 10 ^ b := Nat.mul_lt_mul_of_pos_right l (ten_pos b);have e3 : 10 ^ (b + nd M + 1) ≤ 10 ^ (nd N + a + 14) := Nat.pow_le_pow_right (by decide) (by omega);have e4 : 10 ^ (b + nd M + 1) = 10 ^ nd M * 10 ^ b * 10 := by rw [Nat.pow_succ,Nat.pow_add];ac_rfl
 have e5 : 10 ^ (nd N + a + 14) = 10 ^ (nd N + a) * 10 ^ 14 := by rw [Nat.pow_add]
 have e6 : 10 ^ (nd N + a) * 2 ^ s < 10 ^ (nd N + a) * 10 ^ 14 := by omega
 have e7 := Nat.lt_of_mul_lt_mul_left e6;have e8 : 2 ^ s < 2 ^ 47 := Nat.lt_of_lt_of_le e7 (by decide);have := pow2_lt e8;omega
def VL (N : Nat) (dp : Int) (M : Nat) (q : Int) (s : Nat) : Prop := ∃ a b : Nat,N * 10 ^ a = M * 10 ^ b * 2 ^ s ∧ (a : Int) - b = dp - nd N - q
theorem VL_start (M : Nat) (dp : Int) : VL M dp M (dp - nd M) 0 := ⟨0,0,by simp,by omega⟩
theorem VL_step {N M s : Nat} {dp q : Int} (h : VL N dp M q s) (h0 : N ≠ 0) (k : Nat) : VL (shL N k) (dpL N dp k) M q (s + k) := by
 obtain ⟨a,b,h1,h2⟩ := h;obtain ⟨z,hz,hn⟩ := strip_nd (mul2_ne h0 k);refine ⟨a + z,b,?_,?_⟩
 · have e : shL N k * 10 ^ (a + z) = (shL N k * 10 ^ z) * 10 ^ a := by rw [Nat.pow_add];ac_rfl
   rw [e];unfold shL;rw [← hz];have e2 : N * 2 ^ k * 10 ^ a = N * 10 ^ a * 2 ^ k := by ac_rfl
   rw [e2,h1,Nat.pow_add]
   ac_rfl
 unfold dpL shL;omega
theorem VL_small {N M s : Nat} {dp dp1 : Int} (h : VL N dp M (dp1 - nd M) s) (h0 : M ≠ 0) (hd : dp ≤ 0) (hd1 : -60 ≤ dp1) : s ≤ 202 := by
 obtain ⟨a,b,h1,h2⟩ := h;have g := nd_ge M h0;have l := nd_lt N
 have e1 : 10 ^ (nd M + b) * 2 ^ s ≤ 10 * (N * 10 ^ a) := by
  rw [h1,Nat.pow_add];have := Nat.mul_le_mul_right (10 ^ b * 2 ^ s) g;have e : 10 * M * (10 ^ b * 2 ^ s) = 10 * (M * 10 ^ b * 2 ^ s) := by ac_rfl
  rw [e] at this;rw [Nat.mul_assoc];exact this
 have e2 : N * 10 ^ a < 10 ^ nd N * 10 ^ a := Nat.mul_lt_mul_of_pos_right l (ten_pos a);have e3 : 10 ^ (nd N + a + 1) ≤ 10 ^ (nd M + b + 61) := Nat.pow_le_pow_right (by decide) (by omega);have e4 : 10 ^ (nd N + a + 1) = 10 ^ nd N * 10 ^ a * 10 := by rw [Nat.pow_succ,Nat.pow_add]
 have e5 : 10 ^ (nd M + b + 61) = 10 ^ (nd M + b) * 10 ^ 61 := by rw [Nat.pow_add]
 have e6 : 10 ^ (nd M + b) * 2 ^ s < 10 ^ (nd M + b) * 10 ^ 61 := by omega
 have e7 := Nat.lt_of_mul_lt_mul_left e6;have e8 : 2 ^ s < 2 ^ 203 := Nat.lt_of_lt_of_le e7 (by decide);have := pow2_lt e8;omega
def lp1 : Nat → Nat → Int → Int → Nat × Int × Int
 | 0,N,dp,e => (N,dp,e)
 | f + 1,N,dp,e => if 0 < dp then lp1 f (shR N (pw dp.toNat)) (dpR N dp (pw dp.toNat)) (e + pw dp.toNat) else (N,dp,e)
def dlowB (N : Nat) (dp : Int) : Bool := decide (dp < 0) || (decide (dp = 0) && decide (((dg N)[0]?.getD 0).toNat < 53))
def lp2 : Nat → Nat → Int → Int → Nat × Int × Int
 | 0,N,dp,e => (N,dp,e)
 | f + 1,N,dp,e => if dlowB N dp = true then lp2 f (shL N (pw (-dp).toNat)) (dpL N dp (pw (-dp).toNat)) (e - pw (-dp).toNat) else (N,dp,e)
structure In1 (M : Nat) (dp0 : Int) (fin : Nat × Int × Int) (N : Nat) (dp : Int) (s f : Nat) : Prop where
 ne : N ≠ 0
 val : VR N dp M (dp0 - nd M) s
 nd_ : nd N ≤ nd M + s
 lo : -60 ≤ dp
 hi : dp ≤ 14
 sm : s ≤ 73
 fu : 80 ≤ f + s
 eq : lp1 f N dp s = fin
theorem In1.start {M : Nat} {dp0 : Int} (h0 : M ≠ 0) (h1 : -60 ≤ dp0) (h2 : dp0 ≤ 14) : In1 M dp0 (lp1 80 M dp0 0) M dp0 0 80 :=
 ⟨h0,VR_start M dp0,by omega,h1,h2,by omega,by omega,rfl⟩
theorem In1.step {M N s f : Nat} {dp0 dp : Int} {fin : Nat × Int × Int} (hd0 : dp0 ≤ 14) (h : In1 M dp0 fin N dp s f) (hd : 0 < dp) :
 In1 M dp0 fin (shR N (pw dp.toNat)) (dpR N dp (pw dp.toNat)) (s + pw dp.toNat) (f - 1) ∧ f ≠ 0 ∧ s ≤ 46 := by
 have hp := pw_pos dp.toNat;have hs := VR_pos h.val h.ne hd hd0;have hf := h.fu;have hx := dpR_ge N dp (pw dp.toNat);have hy := dpR_le N dp (pw dp.toNat);have hn := shR_nd h.ne (pw dp.toNat);have hnd := h.nd_;have hhi := h.hi;refine ⟨⟨shR_ne h.ne _,VR_step h.val h.ne _,by omega,by omega,by omega,by omega,by omega,?_⟩,by omega,hs⟩;have e := h.eq;obtain ⟨g,rfl⟩ : ∃ g,f = g + 1 := ⟨f - 1,by omega⟩;rw [lp1,if_pos hd] at e;rw [← e];rfl
theorem In1.stop {M N s f : Nat} {dp0 dp : Int} {fin : Nat × Int × Int} (h : In1 M dp0 fin N dp s f) (hd : ¬ 0 < dp) : fin = (N,dp,(s : Int)) := by
 have hf := h.fu;have := h.sm;rw [← h.eq];obtain ⟨g,rfl⟩ : ∃ g,f = g + 1 := ⟨f - 1,by omega⟩;rw [lp1,if_neg hd]
structure In2 (M : Nat) (dp1 e1 : Int) (fin : Nat × Int × Int) (N : Nat) (dp : Int) (s f : Nat) : Prop where
 ne : N ≠ 0
 val : VL N dp M (dp1 - nd M) s
 nd_ : nd N ≤ nd M + s
 lo : -60 ≤ dp
 hi : dp ≤ 27
 sm : s ≤ 229
 fu : 240 ≤ f + s
 eq : lp2 f N dp (e1 - s) = fin
theorem In2.start {M : Nat} {dp1 e1 : Int} (h0 : M ≠ 0) (h1 : -60 ≤ dp1) (h2 : dp1 ≤ 0) : In2 M dp1 e1 (lp2 240 M dp1 e1) M dp1 0 240 :=
 ⟨h0,VL_start M dp1,by omega,h1,by omega,by omega,by omega,by rw [show e1 - ((0 : Nat) : Int) = e1 by omega]⟩
theorem low_le {N : Nat} {dp : Int} (h : dlowB N dp = true) : dp ≤ 0 := by
 unfold dlowB at h;rw [Bool.or_eq_true,Bool.and_eq_true,decide_eq_true_eq,decide_eq_true_eq] at h;omega
theorem In2.step {M N s f : Nat} {dp1 dp e1 : Int} {fin : Nat × Int × Int} (h0 : M ≠ 0) (hd1 : -60 ≤ dp1) (h : In2 M dp1 e1 fin N dp s f) (hd : dlowB N dp = true) :
 In2 M dp1 e1 fin (shL N (pw (-dp).toNat)) (dpL N dp (pw (-dp).toNat)) (s + pw (-dp).toNat) (f - 1) ∧ f ≠ 0 ∧ s ≤ 202 := by
 have hd2 := low_le hd;have hp := pw_pos (-dp).toNat;have hs := VL_small h.val h0 hd2 hd1;have hf := h.fu;have hx := dpL_ge N dp (pw (-dp).toNat);have hy := dpL_le N dp (pw (-dp).toNat);have hn := shL_nd h.ne (pw (-dp).toNat);have hnd := h.nd_;have hlo := h.lo;refine ⟨⟨shL_ne h.ne _,VL_step h.val h.ne _,by omega,by omega,by omega,by omega,by omega,?_⟩,by omega,hs⟩;have e := h.eq;obtain ⟨g,rfl⟩ : ∃ g,f = g + 1 := ⟨f - 1,by omega⟩;rw [lp2,if_pos hd] at e;rw [← e];rw [show e1 - ((s + pw (-dp).toNat : Nat) : Int) = e1 - (s : Int) - (pw (-dp).toNat : Nat) by omega];rfl
theorem In2.stop {M N s f : Nat} {dp1 dp e1 : Int} {fin : Nat × Int × Int} (h : In2 M dp1 e1 fin N dp s f) (hd : ¬ dlowB N dp = true) : fin = (N,dp,e1 - (s : Int)) := by
 have hf := h.fu;have := h.sm;rw [← h.eq];obtain ⟨g,rfl⟩ : ∃ g,f = g + 1 := ⟨f - 1,by omega⟩;rw [lp2,if_neg hd]
end Go.Proofs.YtcpijmbdibgdmaaGreatDoor
