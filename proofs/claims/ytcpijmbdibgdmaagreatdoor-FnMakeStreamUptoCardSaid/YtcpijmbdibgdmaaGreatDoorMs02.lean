/-
  spec.NameBytes and reader.name: the bytes of a name.
  THE SHELF's CONTRACTS AT THIS DUMP, IN PLAIN WORDS (tools/lay-plain.mjs out of 'TryzShelf.lean', which tools/lay-shelf.mjs wrote): THE SAME DECLARATIONS UNDER THE SAME NAMES: 'import', 'namespace', 'open', 'def', 'theorem' AND NOTHING ELSE: no command of the shelf's: FOR A HAND-IN. Each laying: the table of numbers ('.._ren') and one theorem, a field a fact of the dump's own or the kernel's comparison; each contract: ONE APPLICATION.
-/
import Derived.Test.YtcpijmbdibgdmaaGreatDoorMs01
import Derived.Shelf.Strings.Builder1
import Derived.Shelf.Strings.Builder2
import Derived.Shelf.Strings.OnBuilder
import Derived.Shelf.Small.Utf8
import Derived.Shelf.Small.Bits
import Derived.Shelf.Small.Wraps
import Derived.Shelf.Strings.BuilderF
import Derived.Shelf.Strings.BuilderK
import Derived.Shelf.Strings.BuilderRune
import Derived.Shelf.Strconv.Atoi
import Derived.Shelf.Strconv.Itoa0
import Derived.Shelf.Strconv.Itoa1
import Derived.Shelf.LaysM
import Derived.Shelf.Strconv.Itoa2
import Derived.Shelf.Strconv.Itoa3
import Derived.Shelf.Strconv.AtoiErrFast
import Derived.Shelf.Strconv.ParseIntEmpty
import Derived.Shelf.Strconv.AtoiFail
import Derived.Shelf.Strconv.Clone
import Derived.Shelf.Strconv.SyntaxError
import Derived.Shelf.LaysC
import Derived.Shelf.Strconv.ToError
import Derived.Shelf.Strconv.Lower
import Derived.Shelf.Strconv.ParseUint10
import Derived.Shelf.Strconv.ParseUint10Empty
import Derived.Shelf.Strconv.ParseUint10Any
import Derived.Shelf.Strconv.ParseInt10
import Derived.Shelf.Strconv.AtoiLong
import Derived.Shelf.Strconv.AtoiInnerAll
import Derived.Shelf.Strconv.RangeError
import Derived.Shelf.Strconv.ToErrorRange
import Derived.Shelf.Strconv.AtoiAll
import Derived.Shelf.Strconv.ErrVarAll
import Derived.Shelf.Sort.Plain
import Derived.Shelf.GgClosure.StringsIndexFunc
import Derived.Shelf.GgClosure.StringsTrimFunc
import Derived.Shelf.GgClosure.StringsRunes
import Derived.Shelf.Strings.Prefix
import Derived.Shelf.Unicode.Decode
import Derived.Shelf.Bits.Mul64
import Derived.Shelf.Unicode.DecodeSlow
import Derived.Shelf.Unicode.DecodeAny
import Derived.Shelf.Unicode.DecodeLast
import Derived.Shelf.Strings.FuncGrows
import Derived.Ground.PaProg
import Derived.Shelf.Hex.Lens
import Derived.Shelf.Hex.Encode
import Derived.Shelf.Hex.Decode
import Derived.Shelf.Hex.DecodeOwns
import Derived.Shelf.Hex.More
set_option linter.all false
set_option maxHeartbeats 16000000
set_option maxRecDepth 100000
namespace Go.Proofs.YtcpijmbdibgdmaaGreatDoor
open Go.RowKit
attribute [local go_sem] ba_get
def nbM : List UInt8 → Option (List UInt8)
 | [] => some []
 | b :: l =>
   if b.toNat ≠ 35 then (nbM l).map (b :: ·)
   else match l with
    | x :: y :: l' => if hexV x < 0 ∨ hexV y < 0 ∨ 16 * hexV x + hexV y = 0 then none else (nbM l').map (UInt8.ofNat (16 * hexV x + hexV y).toNat :: ·)
    | _ => none
theorem nbM_cons (b : UInt8) (l : List UInt8) : nbM (b :: l) = if b.toNat ≠ 35 then (nbM l).map (b :: ·) else match l with | x :: y :: l' => if hexV x < 0 ∨ hexV y < 0 ∨ 16 * hexV x + hexV y = 0 then none else (nbM l').map (UInt8.ofNat (16 * hexV x + hexV y).toNat :: ·) | _ => none := by
 rcases l with _ | ⟨x,_ | ⟨y,l⟩⟩ <;> simp [nbM]
theorem nbM_plain {b : UInt8} {l : List UInt8} (h : b.toNat ≠ 35) : nbM (b :: l) = (nbM l).map (b :: ·) := by rw [nbM_cons,if_pos h]
theorem nbM_two {b x y : UInt8} {l : List UInt8} (h : b.toNat = 35) : nbM (b :: x :: y :: l) = if hexV x < 0 ∨ hexV y < 0 ∨ 16 * hexV x + hexV y = 0 then none else (nbM l).map (UInt8.ofNat (16 * hexV x + hexV y).toNat :: ·) := by rw [nbM_cons,if_neg (by simp [h])]
theorem nbM_short {b : UInt8} {l : List UInt8} (h : b.toNat = 35) (hl : l.length < 2) : nbM (b :: l) = none := by
 match l,hl with
 | [],_ => rw [nbM_cons,if_neg (by simp [h])]
 | [x],_ => rw [nbM_cons,if_neg (by simp [h])]
 | x :: y :: l,hl => simp at hl;omega
def NbPost (w : World) (fin : Option (List UInt8)) (e : Ending) (w' : World) : Prop :=
 (match fin with | some out => e = .returned (.tuple #[S out,.bool true]) | none => e = .returned (.tuple #[S [],.bool false])) ∧ Below w.heap.size w w'
def NbRel (s : List UInt8) (fin : Option (List UInt8)) (i : Nat) (bs : List UInt8) : Prop := fin = (nbM (s.drop i)).map (bs ++ ·)
theorem nameBytes_any (s : List UInt8) (w : World) (hs : s.length ≤ 268435456) : Calls Tryz.prog 74 #[S s] w (NbPost w (nbM s)) := by
 obtain ⟨fin,hfin⟩ : ∃ fin,fin = nbM s := ⟨_,rfl⟩;rw [← hfin];have Hf := Lib.hid hfin;clear hfin;go_enter Tryz.func74,Tryz.ntmps74;go_wp2_with fail
 go_loopg [4,5] s.length (fun g v u wr => ∃ i bs,u = .int .i64 ((i : Nat) : Int) ∧ i ≤ s.length ∧ g = s.length - i ∧ bs.length ≤ i ∧ Below w.heap.size w wr ∧ Own wr w.heap.size v bs ∧ NbRel s fin i bs)
 case atStart => exact ⟨0,[],rfl,by omega,rfl,by simp,Below.refl _ _,Own.nil _ _,by unfold NbRel;rw [Hf.out];simp⟩
 case round =>
  obtain ⟨i,bs,rfl,hil,hg,hbl,hB,hown,A⟩ := hrel;have A := Lib.hid A;rename_i A0;clear A0;have hg := Lib.hid hg;rename_i hg0;clear hg0;have hsz := hB.size;by_cases hlt : i < s.length
  · have tlt : decide ((i : Int) < (s.length : Int)) = true := by rw [decide_eq_true_eq];omega
    by_cases h35 : s[i].toNat = 35
    · have t35 : ((s[i].toNat : Int) != 35) = false := by rw [bne,(show ((s[i].toNat : Int) == 35) = true by rw [beq_iff_eq];omega)];rfl
      have G35 := Lib.hid h35;clear h35;by_cases h2 : i + 2 < s.length
      · have t2 : decide ((s.length : Int) ≤ (i : Int) + 2) = false := by rw [decide_eq_false_iff_not];omega
        have E0 : Hid (s.drop i = s[i] :: s[i + 1] :: s[i + 2] :: s.drop (i + 3)) := Lib.hid (by rw [drop_at hlt,drop_at (show i + 1 < s.length by omega),drop_at h2]);have hx1 := hexV_rng s[i + 1];have hx2 := hexV_rng s[i + 2];by_cases hn1 : hexV s[i + 1] < 0
        · have tn1 : decide (hexV s[i + 1] < 0) = true := by rw [decide_eq_true_eq];exact hn1
          have E : Hid (fin = none) := Lib.hid (by
           have A1 := A.out
           unfold NbRel at A1
           rw [A1]
           rw [E0.out,nbM_two G35.out,if_pos (.inl hn1)];rfl)
          go_wp2_with fail;refine (hex_any s[i + 1] _).mono ?_;rintro e w6 ⟨rfl,rfl⟩;go_wp2_with fail;go_ret2;unfold NbPost;rw [E.out];exact ⟨rfl,(by repeat first | exact hB | refine Below.alloc ?_ (by first | (simp;omega) | omega) _ | refine below_drewN ?_ _ | refine Below.drew ?_)⟩
        have tn1 : decide (hexV s[i + 1] < 0) = false := by rw [decide_eq_false_iff_not];exact hn1
        by_cases hn2 : hexV s[i + 2] < 0
        · have tn2 : decide (hexV s[i + 2] < 0) = true := by rw [decide_eq_true_eq];exact hn2
          have E : Hid (fin = none) := Lib.hid (by
           have A1 := A.out
           unfold NbRel at A1
           rw [A1]
           rw [E0.out,nbM_two G35.out,if_pos (.inr (.inl hn2))];rfl)
          go_wp2_with fail;refine (hex_any s[i + 1] _).mono ?_;rintro e w6 ⟨rfl,rfl⟩;go_wp2_with fail;refine (hex_any s[i + 2] _).mono ?_;rintro e w6 ⟨rfl,rfl⟩;go_wp2_with fail;go_ret2;unfold NbPost;rw [E.out];exact ⟨rfl,(by repeat first | exact hB | refine Below.alloc ?_ (by first | (simp;omega) | omega) _ | refine below_drewN ?_ _ | refine Below.drew ?_)⟩
        have tn2 : decide (hexV s[i + 2] < 0) = false := by rw [decide_eq_false_iff_not];exact hn2
        have hb1 : 0 ≤ hexV s[i + 1] := by omega
        have hb2 : 0 ≤ hexV s[i + 2] := by omega
        clear hn1 hn2;by_cases hz : 16 * hexV s[i + 1] + hexV s[i + 2] = 0
        · have tz : (16 * hexV s[i + 1] + hexV s[i + 2] == 0) = true := by rw [beq_iff_eq];exact hz
          have HZ := Lib.hid hz;clear hz
          have E : Hid (fin = none) := Lib.hid (by
           have A1 := A.out
           unfold NbRel at A1
           rw [A1]
           rw [E0.out,nbM_two G35.out,if_pos (.inr (.inr HZ.out))];rfl)
          go_wp2_with fail;refine (hex_any s[i + 1] _).mono ?_;rintro e w6 ⟨rfl,rfl⟩;go_wp2_with fail;refine (hex_any s[i + 2] _).mono ?_;rintro e w6 ⟨rfl,rfl⟩;go_wp2_with fail;refine wp_region_quiet_lit (by kernel_rfl) (by kernel_rfl) ?_
          repeat (go_big_quiet_step (fail))
          go_big_quiet_want;go_big_quiet_op
          apply Exists.intro;refine ⟨fun _ => ?_,?_⟩
          · first | exact quiet_left (hex_any s[i + 1] _) | exact quiet_add_left (hex_any s[i + 1] _)
          go_big_quiet_on
          repeat (go_big_quiet_step (fail))
          go_big_quiet_want;go_big_quiet_op
          apply Exists.intro;refine ⟨fun _ => ?_,?_⟩
          · first | exact quiet_left (hex_any s[i + 2] _) | exact quiet_add_left (hex_any s[i + 2] _)
          go_big_quiet_on
          repeat (go_big_quiet_step (fail))
          refine wpQuiet_nil ?_;intro _ hw';obtain ⟨nq,hw''⟩ := hw';subst hw'';go_wp2_with fail;go_ret2;unfold NbPost;rw [E.out];exact ⟨rfl,(by repeat first | exact hB | refine Below.alloc ?_ (by first | (simp;omega) | omega) _ | refine below_drewN ?_ _ | refine Below.drew ?_)⟩
        have tz : (16 * hexV s[i + 1] + hexV s[i + 2] == 0) = false := by rw [beq_eq_false_iff_ne];exact hz
        obtain ⟨x,hx⟩ : ∃ x,x = UInt8.ofNat (16 * hexV s[i + 1] + hexV s[i + 2]).toNat := ⟨_,rfl⟩;have HX := Lib.hid hx;clear hx
        have E : Hid (NbRel s fin (i + 3) (bs ++ [x])) := Lib.hid (by
         have A1 := A.out
         unfold NbRel at A1 ⊢
         rw [A1,E0.out,nbM_two G35.out,if_neg (by omega),HX.out,Option.map_map]
         congr 1;funext q;simp)
        clear hz;go_wp2_with fail;refine (hex_any s[i + 1] _).mono ?_;rintro e w6 ⟨rfl,rfl⟩;go_wp2_with fail;refine (hex_any s[i + 2] _).mono ?_;rintro e w6 ⟨rfl,rfl⟩;go_wp2_with fail;refine wp_region_quiet_lit (by kernel_rfl) (by kernel_rfl) ?_
        repeat (go_big_quiet_step (fail))
        go_big_quiet_want;go_big_quiet_op
        apply Exists.intro;refine ⟨fun _ => ?_,?_⟩
        · first | exact quiet_left (hex_any s[i + 1] _) | exact quiet_add_left (hex_any s[i + 1] _)
        go_big_quiet_on
        repeat (go_big_quiet_step (fail))
        go_big_quiet_want;go_big_quiet_op
        apply Exists.intro;refine ⟨fun _ => ?_,?_⟩
        · first | exact quiet_left (hex_any s[i + 2] _) | exact quiet_add_left (hex_any s[i + 2] _)
        go_big_quiet_on
        repeat (go_big_quiet_step (fail))
        refine wpQuiet_nil ?_;intro _ hw';obtain ⟨nq,hw''⟩ := hw';subst hw'';go_wp2_with (at_builtin;refine wp_app_byte _ rfl _ _ rfl w.heap.size _ bs rfl ?c0 x _ rfl ?c1 ?c2 ?c3 ?_)
        case c0 => exact (by repeat first | exact hown | refine Own.alloc ?_ _ | refine Own.drewN ?_ _ | refine Own.drew ?_)
        case c1 =>
         refine cell_new_val _ _ x _ (by simp) ?_;rw [HX.out];exact u8_val (by omega) (by omega)
        case c2 => omega
        case c3 => first | (simp;omega) | omega
        intro v1 w1 hown1 hg1;have hB1 : Below w.heap.size w w1 := Below.grown ((by repeat first | exact hB | refine Below.alloc ?_ (by first | (simp;omega) | omega) _ | refine below_drewN ?_ _ | refine Below.drew ?_)) hg1 (by first | (simp;omega) | omega) (fun q e => (hown.lt q e).1);clear hown hg1 tz tn1 tn2;go_wp2_with fail
        go_roundg (gk - 3)
        case measure => have := hg.out;omega
        case rel =>
         exact ⟨i + 3,_,by go_num,by omega,by have := hg.out;omega,by simp;omega,hB1,hown1,E.out⟩
      have t2 : decide ((s.length : Int) ≤ (i : Int) + 2) = true := by rw [decide_eq_true_eq];omega
      have E : Hid (fin = none) := Lib.hid (by
       have A1 := A.out
       unfold NbRel at A1
       rw [A1]
       rw [drop_at hlt,nbM_short G35.out (by rw [List.length_drop];omega)];rfl)
      go_wp2_with fail;go_ret2;unfold NbPost;rw [E.out];exact ⟨rfl,(by repeat first | exact hB | refine Below.alloc ?_ (by first | (simp;omega) | omega) _ | refine below_drewN ?_ _ | refine Below.drew ?_)⟩
    have t35 : ((s[i].toNat : Int) != 35) = true := by rw [bne,(show ((s[i].toNat : Int) == 35) = false by rw [beq_eq_false_iff_ne];omega)];rfl
    have E : Hid (NbRel s fin (i + 1) (bs ++ [s[i]])) := Lib.hid (by
     have A1 := A.out
     unfold NbRel at A1 ⊢
     rw [A1,drop_at hlt,nbM_plain h35,Option.map_map]
     congr 1;funext q;simp)
    go_wp2_with (at_builtin;refine wp_app_byte _ rfl _ _ rfl w.heap.size _ bs rfl ?c0 s[i] _ rfl ?c1 ?c2 ?c3 ?_)
    case c0 => exact (by repeat first | exact hown | refine Own.alloc ?_ _ | refine Own.drewN ?_ _ | refine Own.drew ?_)
    case c1 => exact cell_new_byte _ _ _ (by simp)
    case c2 => omega
    case c3 => first | (simp;omega) | omega
    intro v1 w1 hown1 hg1;have hB1 : Below w.heap.size w w1 := Below.grown ((by repeat first | exact hB | refine Below.alloc ?_ (by first | (simp;omega) | omega) _ | refine below_drewN ?_ _ | refine Below.drew ?_)) hg1 (by first | (simp;omega) | omega) (fun q e => (hown.lt q e).1);clear hown hg1;go_wp2_with fail
    go_roundg (gk - 1)
    case measure => have := hg.out;omega
    case rel => exact ⟨i + 1,_,by go_num,by omega,by have := hg.out;omega,by simp;omega,hB1,hown1,E.out⟩
  have tlt : decide ((i : Int) < (s.length : Int)) = false := by rw [decide_eq_false_iff_not];omega
  have E : Hid (fin = some bs) := Lib.hid (by
   have A1 := A.out
   unfold NbRel at A1
   rw [A1,List.drop_eq_nil_of_le (by omega)];simp [nbM])
  have hcv : (convert 40 9 u4).run Tryz.prog wr = .ok (S bs) wr := run_str_own hown;go_wp2_with fail;go_ret2;unfold NbPost;rw [E.out];exact ⟨rfl,hB⟩
def nameAt (s : List UInt8) (k : Nat) (odd : Bool) : Option (List UInt8) × Nat × Bool :=
 (nbM ((s.drop (k + 1)).take (wordR (s.drop (k + 1)) odd).1),k + 1 + (wordR (s.drop (k + 1)) odd).1,(wordR (s.drop (k + 1)) odd).2 || shutAt (s.drop (k + 1 + (wordR (s.drop (k + 1)) odd).1)))
def NamePost (w : World) (r : Nat) (s : List UInt8) (bad deep : Nat) (ends : Bool) (fin : Option (List UInt8) × Nat × Bool) (e : Ending) (w' : World) : Prop :=
 e = .returned (S (fin.1.getD [])) ∧ fin.2.1 ≤ s.length ∧ Rd w' r s fin.2.1 (if fin.1.isSome = true ∨ bad ≠ 0 then bad else 2) deep fin.2.2 ends ∧ Only w w' r
theorem wordR_le : ∀ (l : List UInt8) (o : Bool),(wordR l o).1 ≤ l.length
 | [],_ => Nat.le_refl _
 | b :: l,o => by
   rw [wordR];split
   · have := wordR_le l (o || !plainB b);simp;omega
   simp
theorem name_read (r : Nat) (s : List UInt8) (k bad deep : Nat) (odd ends : Bool) (w : World) (hk : k < s.length) (hs : s.length ≤ 268435456) (hR0 : Rd w r s k bad deep odd ends) :
 Calls Tryz.prog 46 #[.pointer (some ⟨r,0,none⟩)] w (NamePost w r s bad deep ends (nameAt s k odd)) := by
 obtain ⟨fin,hfin⟩ : ∃ fin,fin = nameAt s k odd := ⟨_,rfl⟩;rw [← hfin];have Hf := Lib.hid hfin;clear hfin;have hrB : r < w.heap.size := Blk.lt hR0;have hwl := wordR_le (s.drop (k + 1)) odd;rw [List.length_drop] at hwl;obtain ⟨c0,c1,c2,c3,c4,c5⟩ := hR0.cs;obtain ⟨f1,f2,f3,f4,f5⟩ := hR0.fs;go_enter Tryz.func46,Tryz.ntmps46;go_wp2_with fail;refine (word_any r s (k + 1) bad deep odd ends _ (by omega) hs (hR0.at_ (k + 1) rfl)).mono ?_;rintro e w1 ⟨rfl,hR1,hO1⟩;have hO2 : Only w w1 r := only_trans (only_set (only_refl _ _) _ _) hO1;clear c0 c1 c2 c3 c4 c5 f1 f2 f3 f4 f5 hR0 hO1;obtain ⟨n,hn⟩ : ∃ n,n = (wordR (s.drop (k + 1)) odd).1 := ⟨_,rfl⟩;obtain ⟨o,ho⟩ : ∃ o,o = (wordR (s.drop (k + 1)) odd).2 := ⟨_,rfl⟩;rw [← hn,← ho] at hR1;rw [← hn];rw [← hn] at hwl;have E : Hid (fin = (nbM ((s.drop (k + 1)).take n),k + 1 + n,o || shutAt (s.drop (k + 1 + n)))) := Lib.hid (by rw [Hf.out,nameAt,← hn,← ho]);clear hn ho;obtain ⟨t,ht⟩ : ∃ t,t = (s.drop (k + 1)).take n := ⟨_,rfl⟩;rw [← ht] at E;rw [← ht];have htl : t.length ≤ 268435456 := by rw [ht,List.length_take,List.length_drop];omega
 clear ht;go_wp2_with fail;refine (nameBytes_any t w1 htl).mono ?_;rintro e w2 ⟨he,hB⟩;have hR2 : Rd w2 r s (k + 1 + n) bad deep (o || shutAt (s.drop (k + 1 + n))) ends := Blk.below hR1 hB (Blk.lt hR1);have hO3 : Only w w2 r := only_below hO2 hB;obtain ⟨odd2,ho2⟩ : ∃ x,x = (o || shutAt (s.drop (k + 1 + n))) := ⟨_,rfl⟩;rw [← ho2] at hR2 E;clear ho2;obtain ⟨q,hq⟩ : ∃ q,q = nbM t := ⟨_,rfl⟩;rw [← hq] at he E;have hql : k + 1 + n ≤ s.length := by omega
 clear hq hR1 hO2 hB
 cases q with
 | some out =>
   simp only at he;subst he;go_wp2_with fail;go_ret;unfold NamePost;rw [E.out];exact ⟨rfl,hql,by simpa using hR2,hO3⟩
 | none =>
   simp only at he;subst he;go_wp2_with fail;refine (fail_any r s (k + 1 + n) bad deep 2 odd2 ends _ hR2).mono ?_;rintro e w3 ⟨rfl,hR3,hO4⟩;have hO5 : Only w w3 r := only_trans hO3 hO4;clear hR2 hO3 hO4;go_wp2_with fail;go_ret;unfold NamePost;rw [E.out];refine ⟨rfl,hql,?_,hO5⟩;by_cases hb : bad = 0
   · subst hb;simpa using hR3
   simpa [hb] using hR3
end Go.Proofs.YtcpijmbdibgdmaaGreatDoor
namespace Go.Proofs
open Go.Shelf
def Tryz.lays169_ren : Go.Shelf.Ren := ⟨fun | 169 => 128 | n => n,fun | 70 => 193 | 9 => 9 | 0 => 0 | 72 => 195 | 37 => 40 | 127 => 206 | 3 => 3 | 5 => 5 | n => n,fun | n => n⟩
theorem Tryz.lays169 : Go.Proofs.Lays.n169 Tryz.prog Tryz.lays169_ren := {
 mixed := by kernel_rfl
 f169 := Tryz.func128.trans (congrArg some (by kernel_rfl))
 t0 := Tryz.underlying0
 a0 := Tryz.isAgg0
 z0 := Tryz.sizeOf0
 v0 := Tryz.zeroValue0
 t3 := Tryz.underlying3
 a3 := Tryz.isAgg3
 z3 := Tryz.sizeOf3
 v3 := Tryz.zeroValue3
 t9 := Tryz.underlying9
 a9 := Tryz.isAgg9
 z9 := Tryz.sizeOf9
 v9 := Tryz.zeroValue9
 t37 := Tryz.underlying40
 a37 := Tryz.isAgg40
 z37 := Tryz.sizeOf40
 v37 := Tryz.zeroValue40
 t70 := Tryz.underlying193
 a70 := Tryz.isAgg193
 z70 := Tryz.sizeOf193
 v70 := Tryz.zeroValue193
 t72 := Tryz.underlying195
 a72 := Tryz.isAgg195
 z72 := Tryz.sizeOf195
 v72 := Tryz.zeroValue195
 t127 := Tryz.underlying206
 a127 := Tryz.isAgg206
 z127 := Tryz.sizeOf206
 v127 := Tryz.zeroValue206 }
theorem Tryz.Builder_Extra_169 : Builder.Extra Tryz.prog Tryz.lays169_ren := {
 sizeBuilder := by kernel_rfl
 liesBuilder := by kernel_rfl
 t5 := Tryz.underlying5
 a5 := Tryz.isAgg5
 z5 := Tryz.sizeOf5
 v5 := Tryz.zeroValue5
 infoByte := by kernel_rfl
 cellsByte := by kernel_rfl
 sizeByte := by kernel_rfl
 neB5 := by decide }
open Go.RowKit in
theorem Tryz.Builder_String_any (B b : Nat) (l : List UInt8) (w : World) (h : Lib.IsBuilder 195 5 B b (Lib.byteCells l) w) (hBw : B ≤ w.heap.size) :
 Calls Tryz.prog 128 #[.pointer (some ⟨b,0,none⟩)] w fun e w' => e = .returned (.string ⟨l.toArray⟩) ∧ Below B w w' := Any.Builder_String_any Tryz.lays169 Tryz.Builder_Extra_169 B b l w h hBw
def Tryz.lays156_ren : Go.Shelf.Ren := ⟨fun | 156 => 279 | 165 => 287 | 166 => 126 | 169 => 128 | 240 => 166 | 241 => 291 | 276 => 220 | 277 => 293 | n => n,fun | 31 => 25 | 9 => 9 | 3 => 3 | 4 => 4 | 0 => 0 | 20 => 20 | 72 => 195 | 76 => 83 | 70 => 193 | 37 => 40 | 75 => 71 | 127 => 206 | 164 => 300 | 5 => 5 | 80 => 67 | n => n,fun | n => n⟩
theorem Tryz.lays156 : Go.Proofs.Lays.n156 Tryz.prog Tryz.lays156_ren := {
 mixed := by kernel_rfl
 f156 := Tryz.func279.trans (congrArg some (by kernel_rfl))
 f165 := Tryz.func287.trans (congrArg some (by kernel_rfl))
 f166 := Tryz.func126.trans (congrArg some (by kernel_rfl))
 f169 := Tryz.func128.trans (congrArg some (by kernel_rfl))
 f240 := Tryz.func166.trans (congrArg some (by kernel_rfl))
 f241 := Tryz.func291.trans (congrArg some (by kernel_rfl))
 f276 := Tryz.func220.trans (congrArg some (by kernel_rfl))
 f277 := Tryz.func293.trans (congrArg some (by kernel_rfl))
 t0 := Tryz.underlying0
 a0 := Tryz.isAgg0
 z0 := Tryz.sizeOf0
 v0 := Tryz.zeroValue0
 t3 := Tryz.underlying3
 a3 := Tryz.isAgg3
 z3 := Tryz.sizeOf3
 v3 := Tryz.zeroValue3
 t4 := Tryz.underlying4
 a4 := Tryz.isAgg4
 z4 := Tryz.sizeOf4
 v4 := Tryz.zeroValue4
 t9 := Tryz.underlying9
 a9 := Tryz.isAgg9
 z9 := Tryz.sizeOf9
 v9 := Tryz.zeroValue9
 t20 := Tryz.underlying20
 a20 := Tryz.isAgg20
 z20 := Tryz.sizeOf20
 v20 := Tryz.zeroValue20
 t31 := Tryz.underlying25
 a31 := Tryz.isAgg25
 z31 := Tryz.sizeOf25
 v31 := Tryz.zeroValue25
 t37 := Tryz.underlying40
 a37 := Tryz.isAgg40
 z37 := Tryz.sizeOf40
 v37 := Tryz.zeroValue40
 t70 := Tryz.underlying193
 a70 := Tryz.isAgg193
 z70 := Tryz.sizeOf193
 v70 := Tryz.zeroValue193
 t72 := Tryz.underlying195
 a72 := Tryz.isAgg195
 z72 := Tryz.sizeOf195
 v72 := Tryz.zeroValue195
 t75 := Tryz.underlying71
 a75 := Tryz.isAgg71
 z75 := Tryz.sizeOf71
 v75 := Tryz.zeroValue71
 t76 := Tryz.underlying83
 a76 := Tryz.isAgg83
 z76 := Tryz.sizeOf83
 v76 := Tryz.zeroValue83
 t127 := Tryz.underlying206
 a127 := Tryz.isAgg206
 z127 := Tryz.sizeOf206
 v127 := Tryz.zeroValue206
 t164 := Tryz.underlying300
 a164 := Tryz.isAgg300
 z164 := Tryz.sizeOf300
 v164 := Tryz.zeroValue300 }
theorem Tryz.Builder_Extra_156 : Builder.Extra Tryz.prog Tryz.lays156_ren := {
 sizeBuilder := by kernel_rfl
 liesBuilder := by kernel_rfl
 t5 := Tryz.underlying5
 a5 := Tryz.isAgg5
 z5 := Tryz.sizeOf5
 v5 := Tryz.zeroValue5
 infoByte := by kernel_rfl
 cellsByte := by kernel_rfl
 sizeByte := by kernel_rfl
 neB5 := by decide }
open Go.RowKit in
theorem Tryz.strings_Join (bk o c : Nat) (xs : List ByteArray) (sep : ByteArray) (w : World) (hcells : ∀ (j : Nat) x,xs[j]? = some x → w.cell? ⟨bk,o + j,none⟩ = some (.string x)) (hbk : bk < w.heap.size) (hN : xs.length ≤ 140737488355328) (hcap : xs.length ≤ c) (hlen : (Lib.join (xs.map (·.data.toList)) sep.data.toList).length ≤ 140737488355328) :
 Calls Tryz.prog 279 #[.slice (some ⟨bk,o,none⟩) xs.length c,.string sep] w fun e w' => e = .returned (.string ⟨(Lib.join (xs.map (·.data.toList)) sep.data.toList).toArray⟩) ∧ Below w.heap.size w w' := Any.strings_Join Tryz.lays156 Tryz.Builder_Extra_156 bk o c xs sep w hcells hbk hN hcap hlen
def Tryz.lays121_ren : Go.Shelf.Ren := ⟨fun | 121 => 290 | 214 => 292 | n => n,fun | 4 => 4 | 9 => 9 | n => n,fun | n => n⟩
theorem Tryz.lays121 : Go.Proofs.Lays.n121 Tryz.prog Tryz.lays121_ren := {
 mixed := by kernel_rfl
 f121 := Tryz.func290.trans (congrArg some (by kernel_rfl))
 f214 := Tryz.func292.trans (congrArg some (by kernel_rfl))
 t4 := Tryz.underlying4
 a4 := Tryz.isAgg4
 z4 := Tryz.sizeOf4
 v4 := Tryz.zeroValue4
 t9 := Tryz.underlying9
 a9 := Tryz.isAgg9
 z9 := Tryz.sizeOf9
 v9 := Tryz.zeroValue9 }
open Go.RowKit in
theorem Tryz.strconv_FormatBool (b : Bool) (w : World) :
 Calls Tryz.prog 290 #[.bool b] w fun e w' => e = .returned (.string ⟨(Lib.formatBool b).toArray⟩) ∧ w' = w := Any.strconv_FormatBool Tryz.lays121 b w
def Tryz.lays129_ren : Go.Shelf.Ren := ⟨fun | 129 => 157 | n => n,fun | 53 => 158 | 3 => 3 | 4 => 4 | 46 => 161 | 5 => 5 | 9 => 9 | n => n,fun | n => n⟩
theorem Tryz.lays129 : Go.Proofs.Lays.n129 Tryz.prog Tryz.lays129_ren := {
 mixed := by kernel_rfl
 f129 := Tryz.func157.trans (congrArg some (by kernel_rfl))
 t3 := Tryz.underlying3
 a3 := Tryz.isAgg3
 z3 := Tryz.sizeOf3
 v3 := Tryz.zeroValue3
 t4 := Tryz.underlying4
 a4 := Tryz.isAgg4
 z4 := Tryz.sizeOf4
 v4 := Tryz.zeroValue4
 t5 := Tryz.underlying5
 a5 := Tryz.isAgg5
 z5 := Tryz.sizeOf5
 v5 := Tryz.zeroValue5
 t9 := Tryz.underlying9
 a9 := Tryz.isAgg9
 z9 := Tryz.sizeOf9
 v9 := Tryz.zeroValue9
 t46 := Tryz.underlying161
 a46 := Tryz.isAgg161
 z46 := Tryz.sizeOf161
 v46 := Tryz.zeroValue161
 t53 := Tryz.underlying158
 a53 := Tryz.isAgg158
 z53 := Tryz.sizeOf158
 v53 := Tryz.zeroValue158 }
theorem Tryz.bits_Len64 (x : Int) (w : World) (h0 : 0 ≤ x) (h1 : x ≤ 18446744073709551615) :
 Calls Tryz.prog 157 #[.int .u64 x] w fun e w' => e = .returned (.int .i64 (Lib.bitLen x.toNat)) ∧ w' = w := Any.bits_Len64 Tryz.lays129 x w h0 h1
def Tryz.laysM284_ren : Go.Shelf.Ren := ⟨fun | 284 => 130 | 129 => 157 | 317 => 160 | 318 => 169 | n => n,fun | 53 => 158 | 3 => 3 | 212 => 247 | 0 => 0 | 4 => 4 | 46 => 161 | 5 => 5 | 9 => 9 | n => n,fun | 17 => 10 | n => n⟩
theorem Tryz.laysM284 : Go.Proofs.LaysM.n284 Tryz.prog Tryz.laysM284_ren := {
 mixed := by kernel_rfl
 f129 := Tryz.func157.trans (congrArg some (by kernel_rfl))
 f284 := Tryz.func130.trans (congrArg some (by kernel_rfl))
 f317 := Tryz.func160.trans (congrArg some (by kernel_rfl))
 f318 := Tryz.func169.trans (congrArg some (by kernel_rfl))
 t0 := Tryz.underlying0
 a0 := Tryz.isAgg0
 z0 := Tryz.sizeOf0
 v0 := Tryz.zeroValue0
 t3 := Tryz.underlying3
 a3 := Tryz.isAgg3
 z3 := Tryz.sizeOf3
 v3 := Tryz.zeroValue3
 t4 := Tryz.underlying4
 a4 := Tryz.isAgg4
 z4 := Tryz.sizeOf4
 v4 := Tryz.zeroValue4
 t5 := Tryz.underlying5
 a5 := Tryz.isAgg5
 z5 := Tryz.sizeOf5
 v5 := Tryz.zeroValue5
 t9 := Tryz.underlying9
 a9 := Tryz.isAgg9
 z9 := Tryz.sizeOf9
 v9 := Tryz.zeroValue9
 t46 := Tryz.underlying161
 a46 := Tryz.isAgg161
 z46 := Tryz.sizeOf161
 v46 := Tryz.zeroValue161
 t53 := Tryz.underlying158
 a53 := Tryz.isAgg158
 z53 := Tryz.sizeOf158
 v53 := Tryz.zeroValue158
 t212 := Tryz.underlying247
 a212 := Tryz.isAgg247
 z212 := Tryz.sizeOf247
 v212 := Tryz.zeroValue247
 g17 := by kernel_rfl
 i0 := by kernel_rfl
 i3 := by kernel_rfl
 i4 := by kernel_rfl
 i5 := by kernel_rfl
 i9 := by kernel_rfl
 i46 := by kernel_rfl
 i53 := by kernel_rfl
 i212 := by kernel_rfl
 m17 := by kernel_rfl }
open Go.Lib in
theorem Tryz.internal_strconv_numDigits (u : Nat) (h1 : 1 ≤ u) (h2 : u < 18446744073709551616) (w : World) (htab : Lib.TabIs Tryz.prog w "internal/strconv.uint64pow10" .u64 Lib.pow10Tab) :
 Calls Tryz.prog 130 #[.int .u64 u] w fun e w' => e = .returned (.int .i64 (Lib.nDigits u)) ∧ w' = w := Any.internal_strconv_numDigits Tryz.laysM284 u h1 h2 w htab
def Tryz.lays285_ren : Go.Shelf.Ren := ⟨fun | 285 => 131 | n => n,fun | 37 => 40 | 53 => 158 | 3 => 3 | 4 => 4 | 51 => 226 | 9 => 9 | 5 => 5 | 0 => 0 | n => n,fun | n => n⟩
theorem Tryz.lays285 : Go.Proofs.Lays.n285 Tryz.prog Tryz.lays285_ren := {
 mixed := by kernel_rfl
 f285 := Tryz.func131.trans (congrArg some (by kernel_rfl))
 t0 := Tryz.underlying0
 a0 := Tryz.isAgg0
 z0 := Tryz.sizeOf0
 v0 := Tryz.zeroValue0
 t3 := Tryz.underlying3
 a3 := Tryz.isAgg3
 z3 := Tryz.sizeOf3
 v3 := Tryz.zeroValue3
 t4 := Tryz.underlying4
 a4 := Tryz.isAgg4
 z4 := Tryz.sizeOf4
 v4 := Tryz.zeroValue4
 t5 := Tryz.underlying5
 a5 := Tryz.isAgg5
 z5 := Tryz.sizeOf5
 v5 := Tryz.zeroValue5
 t9 := Tryz.underlying9
 a9 := Tryz.isAgg9
 z9 := Tryz.sizeOf9
 v9 := Tryz.zeroValue9
 t37 := Tryz.underlying40
 a37 := Tryz.isAgg40
 z37 := Tryz.sizeOf40
 v37 := Tryz.zeroValue40
 t51 := Tryz.underlying226
 a51 := Tryz.isAgg226
 z51 := Tryz.sizeOf226
 v51 := Tryz.zeroValue226
 t53 := Tryz.underlying158
 a53 := Tryz.isAgg158
 z53 := Tryz.sizeOf158
 v53 := Tryz.zeroValue158 }
open Go.RowKit Go.Sort Go.Lib in
theorem Tryz.internal_strconv_formatBase10 (blk off cap : Nat) (u : Nat) (d : Array UInt8) (w : World) (hH : Holds (fun (b : UInt8) => Value.int .u8 (b.toNat : Int)) w blk off d) (hu : u < 10 ^ d.size) (hu64 : u < 18446744073709551616) (hsz : d.size < 4611686018427387904) :
 Calls Tryz.prog 131 #[.slice (some ⟨blk,off,none⟩) d.size cap,.int .u64 u] w fun e w' =>
  e = .returned (.tuple #[]) ∧ ∃ (n v' : Nat) (dk : Array UInt8),w' = (putRow (fun (b : UInt8) => Value.int .u8 (b.toNat : Int)) w blk off dk).drewN n ∧ FmtInv d.size u 0 v' dk := Any.internal_strconv_formatBase10 Tryz.lays285 blk off cap u d w hH hu hu64 hsz
def Tryz.laysM171_ren : Go.Shelf.Ren := ⟨fun | 171 => 66 | 243 => 87 | 246 => 104 | 283 => 129 | 284 => 130 | 285 => 131 | 286 => 132 | 129 => 157 | 317 => 160 | 318 => 169 | 319 => 170 | 320 => 171 | 337 => 221 | 338 => 222 | n => n,fun | 3 => 3 | 9 => 9 | 2 => 2 | 4 => 4 | 171 => 200 | 0 => 0 | 53 => 158 | 37 => 40 | 5 => 5 | 173 => 203 | 212 => 247 | 51 => 226 | 20 => 20 | 213 => 248 | 46 => 161 | 232 => 232 | 233 => 326 | n => n,fun | 17 => 10 | 18 => 24 | 19 => 25 | n => n⟩
theorem Tryz.laysM171 : Go.Proofs.LaysM.n171 Tryz.prog Tryz.laysM171_ren := {
 mixed := by kernel_rfl
 f129 := Tryz.func157.trans (congrArg some (by kernel_rfl))
 f171 := Tryz.func66.trans (congrArg some (by kernel_rfl))
 f243 := Tryz.func87.trans (congrArg some (by kernel_rfl))
 f246 := Tryz.func104.trans (congrArg some (by kernel_rfl))
 f283 := Tryz.func129.trans (congrArg some (by kernel_rfl))
 f284 := Tryz.func130.trans (congrArg some (by kernel_rfl))
 f285 := Tryz.func131.trans (congrArg some (by kernel_rfl))
 f286 := Tryz.func132.trans (congrArg some (by kernel_rfl))
 f317 := Tryz.func160.trans (congrArg some (by kernel_rfl))
 f318 := Tryz.func169.trans (congrArg some (by kernel_rfl))
 f319 := Tryz.func170.trans (congrArg some (by kernel_rfl))
 f320 := Tryz.func171.trans (congrArg some (by kernel_rfl))
 f337 := Tryz.func221.trans (congrArg some (by kernel_rfl))
 f338 := Tryz.func222.trans (congrArg some (by kernel_rfl))
 t0 := Tryz.underlying0
 a0 := Tryz.isAgg0
 z0 := Tryz.sizeOf0
 v0 := Tryz.zeroValue0
 t2 := Tryz.underlying2
 a2 := Tryz.isAgg2
 z2 := Tryz.sizeOf2
 v2 := Tryz.zeroValue2
 t3 := Tryz.underlying3
 a3 := Tryz.isAgg3
 z3 := Tryz.sizeOf3
 v3 := Tryz.zeroValue3
 t4 := Tryz.underlying4
 a4 := Tryz.isAgg4
 z4 := Tryz.sizeOf4
 v4 := Tryz.zeroValue4
 t5 := Tryz.underlying5
 a5 := Tryz.isAgg5
 z5 := Tryz.sizeOf5
 v5 := Tryz.zeroValue5
 t9 := Tryz.underlying9
 a9 := Tryz.isAgg9
 z9 := Tryz.sizeOf9
 v9 := Tryz.zeroValue9
 t20 := Tryz.underlying20
 a20 := Tryz.isAgg20
 z20 := Tryz.sizeOf20
 v20 := Tryz.zeroValue20
 t37 := Tryz.underlying40
 a37 := Tryz.isAgg40
 z37 := Tryz.sizeOf40
 v37 := Tryz.zeroValue40
 t46 := Tryz.underlying161
 a46 := Tryz.isAgg161
 z46 := Tryz.sizeOf161
 v46 := Tryz.zeroValue161
 t51 := Tryz.underlying226
 a51 := Tryz.isAgg226
 z51 := Tryz.sizeOf226
 v51 := Tryz.zeroValue226
 t53 := Tryz.underlying158
 a53 := Tryz.isAgg158
 z53 := Tryz.sizeOf158
 v53 := Tryz.zeroValue158
 t171 := Tryz.underlying200
 a171 := Tryz.isAgg200
 z171 := Tryz.sizeOf200
 v171 := Tryz.zeroValue200
 t173 := Tryz.underlying203
 a173 := Tryz.isAgg203
 z173 := Tryz.sizeOf203
 v173 := Tryz.zeroValue203
 t212 := Tryz.underlying247
 a212 := Tryz.isAgg247
 z212 := Tryz.sizeOf247
 v212 := Tryz.zeroValue247
 t213 := Tryz.underlying248
 a213 := Tryz.isAgg248
 z213 := Tryz.sizeOf248
 t232 := Tryz.underlying232
 a232 := Tryz.isAgg232
 z232 := Tryz.sizeOf232
 v232 := Tryz.zeroValue232
 t233 := Tryz.underlying326
 a233 := Tryz.isAgg326
 z233 := Tryz.sizeOf326
 v233 := Tryz.zeroValue326
 g17 := by kernel_rfl
 g18 := by kernel_rfl
 g19 := by kernel_rfl
 i0 := by kernel_rfl
 i2 := by kernel_rfl
 i3 := by kernel_rfl
 i4 := by kernel_rfl
 i5 := by kernel_rfl
 i9 := by kernel_rfl
 i20 := by kernel_rfl
 i37 := by kernel_rfl
 i46 := by kernel_rfl
 i51 := by kernel_rfl
 i53 := by kernel_rfl
 i171 := by kernel_rfl
 i173 := by kernel_rfl
 i212 := by kernel_rfl
 i232 := by kernel_rfl
 i233 := by kernel_rfl
 m17 := by kernel_rfl
 m18 := by kernel_rfl
 m19 := by kernel_rfl }
open Go.RowKit Go.Sort Go.Lib in
theorem Tryz.strconv_Itoa (n : Int) (h0 : -9223372036854775808 ≤ n) (h1 : n ≤ 9223372036854775807) (w : World) (htab : Lib.TabIs Tryz.prog w "internal/strconv.uint64pow10" .u64 Lib.pow10Tab) :
 Calls Tryz.prog 66 #[.int .i64 n] w fun e w' => e = .returned (.string ⟨(Lib.itoa n).toArray⟩) ∧ ∃ k os,w' = grow (w.drewN k) os := Any.strconv_Itoa Tryz.laysM171 n h0 h1 w htab
def Tryz.lays321_ren : Go.Shelf.Ren := ⟨fun | 321 => 133 | n => n,fun | 5 => 5 | n => n,fun | n => n⟩
theorem Tryz.lays321 : Go.Proofs.Lays.n321 Tryz.prog Tryz.lays321_ren := {
 mixed := by kernel_rfl
 f321 := Tryz.func133.trans (congrArg some (by kernel_rfl))
 t5 := Tryz.underlying5
 a5 := Tryz.isAgg5
 z5 := Tryz.sizeOf5
 v5 := Tryz.zeroValue5 }
open Go.RowKit in
theorem Tryz.internal_strconv_lower (c : Int) (w : World) :
 Calls Tryz.prog 133 #[.int .u8 c] w fun e w' => e = .returned (.int .u8 (bits .or .u8 c 32)) ∧ w' = w := Any.internal_strconv_lower Tryz.lays321 c w
def Tryz.laysC172_ren : Go.Shelf.Ren := ⟨fun | 172 => 34 | 244 => 69 | 245 => 70 | 247 => 88 | 279 => 89 | 280 => 90 | 281 => 91 | 282 => 92 | 287 => 105 | 316 => 106 | 171 => 66 | 205 => 107 | 321 => 133 | 322 => 134 | 243 => 87 | 246 => 104 | 283 => 129 | 284 => 130 | 285 => 131 | 286 => 132 | 129 => 157 | 317 => 160 | 318 => 169 | 319 => 170 | 320 => 171 | 337 => 221 | 338 => 222 | n => n,fun | 9 => 9 | 3 => 3 | 75 => 71 | 76 => 83 | 4 => 4 | 5 => 5 | 167 => 139 | 37 => 40 | 0 => 0 | 85 => 140 | 2 => 2 | 168 => 142 | 53 => 158 | 175 => 159 | 46 => 161 | 210 => 163 | 127 => 206 | 145 => 209 | 143 => 207 | 21 => 21 | 171 => 200 | 173 => 203 | 212 => 247 | 51 => 226 | 20 => 20 | 213 => 248 | 232 => 232 | 233 => 326 | 80 => 67 | n => n,fun | 15 => 2 | 16 => 3 | 17 => 10 | 18 => 24 | 19 => 25 | n => n⟩
theorem Tryz.laysC172 : Go.Proofs.LaysC.n172 Tryz.prog Tryz.laysC172_ren := {
 mixed := by kernel_rfl
 f129 := Tryz.func157.trans (congrArg some (by kernel_rfl))
 f171 := Tryz.func66.trans (congrArg some (by kernel_rfl))
 f172 := Tryz.func34.trans (congrArg some (by kernel_rfl))
 f205 := Tryz.func107.trans (congrArg some (by kernel_rfl))
 f243 := Tryz.func87.trans (congrArg some (by kernel_rfl))
 f244 := Tryz.func69.trans (congrArg some (by kernel_rfl))
 f245 := Tryz.func70.trans (congrArg some (by kernel_rfl))
 f246 := Tryz.func104.trans (congrArg some (by kernel_rfl))
 f247 := Tryz.func88.trans (congrArg some (by kernel_rfl))
 f279 := Tryz.func89.trans (congrArg some (by kernel_rfl))
 f280 := Tryz.func90.trans (congrArg some (by kernel_rfl))
 f281 := Tryz.func91.trans (congrArg some (by kernel_rfl))
 f282 := Tryz.func92.trans (congrArg some (by kernel_rfl))
 f283 := Tryz.func129.trans (congrArg some (by kernel_rfl))
 f284 := Tryz.func130.trans (congrArg some (by kernel_rfl))
 f285 := Tryz.func131.trans (congrArg some (by kernel_rfl))
 f286 := Tryz.func132.trans (congrArg some (by kernel_rfl))
 f287 := Tryz.func105.trans (congrArg some (by kernel_rfl))
 f316 := Tryz.func106.trans (congrArg some (by kernel_rfl))
 f317 := Tryz.func160.trans (congrArg some (by kernel_rfl))
 f318 := Tryz.func169.trans (congrArg some (by kernel_rfl))
 f319 := Tryz.func170.trans (congrArg some (by kernel_rfl))
 f320 := Tryz.func171.trans (congrArg some (by kernel_rfl))
 f321 := Tryz.func133.trans (congrArg some (by kernel_rfl))
 f322 := Tryz.func134.trans (congrArg some (by kernel_rfl))
 f337 := Tryz.func221.trans (congrArg some (by kernel_rfl))
 f338 := Tryz.func222.trans (congrArg some (by kernel_rfl))
 t0 := Tryz.underlying0
 a0 := Tryz.isAgg0
 z0 := Tryz.sizeOf0
 v0 := Tryz.zeroValue0
 t2 := Tryz.underlying2
 a2 := Tryz.isAgg2
 z2 := Tryz.sizeOf2
 v2 := Tryz.zeroValue2
 t3 := Tryz.underlying3
 a3 := Tryz.isAgg3
 z3 := Tryz.sizeOf3
 v3 := Tryz.zeroValue3
 t4 := Tryz.underlying4
 a4 := Tryz.isAgg4
 z4 := Tryz.sizeOf4
 v4 := Tryz.zeroValue4
 t5 := Tryz.underlying5
 a5 := Tryz.isAgg5
 z5 := Tryz.sizeOf5
 v5 := Tryz.zeroValue5
 t9 := Tryz.underlying9
 a9 := Tryz.isAgg9
 z9 := Tryz.sizeOf9
 v9 := Tryz.zeroValue9
 t20 := Tryz.underlying20
 a20 := Tryz.isAgg20
 z20 := Tryz.sizeOf20
 v20 := Tryz.zeroValue20
 t21 := Tryz.underlying21
 a21 := Tryz.isAgg21
 z21 := Tryz.sizeOf21
 v21 := Tryz.zeroValue21
 t37 := Tryz.underlying40
 a37 := Tryz.isAgg40
 z37 := Tryz.sizeOf40
 v37 := Tryz.zeroValue40
 t46 := Tryz.underlying161
 a46 := Tryz.isAgg161
 z46 := Tryz.sizeOf161
 v46 := Tryz.zeroValue161
 t51 := Tryz.underlying226
 a51 := Tryz.isAgg226
 z51 := Tryz.sizeOf226
 v51 := Tryz.zeroValue226
 t53 := Tryz.underlying158
 a53 := Tryz.isAgg158
 z53 := Tryz.sizeOf158
 v53 := Tryz.zeroValue158
 t75 := Tryz.underlying71
 a75 := Tryz.isAgg71
 z75 := Tryz.sizeOf71
 v75 := Tryz.zeroValue71
 t76 := Tryz.underlying83
 a76 := Tryz.isAgg83
 z76 := Tryz.sizeOf83
 v76 := Tryz.zeroValue83
 t85 := Tryz.underlying140
 a85 := Tryz.isAgg140
 z85 := Tryz.sizeOf140
 v85 := Tryz.zeroValue140
 t127 := Tryz.underlying206
 a127 := Tryz.isAgg206
 z127 := Tryz.sizeOf206
 v127 := Tryz.zeroValue206
 t143 := Tryz.underlying207
 a143 := Tryz.isAgg207
 z143 := Tryz.sizeOf207
 v143 := Tryz.zeroValue207
 t145 := Tryz.underlying209
 a145 := Tryz.isAgg209
 z145 := Tryz.sizeOf209
 v145 := Tryz.zeroValue209
 t167 := Tryz.underlying139
 a167 := Tryz.isAgg139
 z167 := Tryz.sizeOf139
 v167 := Tryz.zeroValue139
 t168 := Tryz.underlying142
 a168 := Tryz.isAgg142
 z168 := Tryz.sizeOf142
 v168 := Tryz.zeroValue142
 t171 := Tryz.underlying200
 a171 := Tryz.isAgg200
 z171 := Tryz.sizeOf200
 v171 := Tryz.zeroValue200
 t173 := Tryz.underlying203
 a173 := Tryz.isAgg203
 z173 := Tryz.sizeOf203
 v173 := Tryz.zeroValue203
 t175 := Tryz.underlying159
 a175 := Tryz.isAgg159
 z175 := Tryz.sizeOf159
 v175 := Tryz.zeroValue159
 t210 := Tryz.underlying163
 a210 := Tryz.isAgg163
 z210 := Tryz.sizeOf163
 v210 := Tryz.zeroValue163
 t212 := Tryz.underlying247
 a212 := Tryz.isAgg247
 z212 := Tryz.sizeOf247
 v212 := Tryz.zeroValue247
 t213 := Tryz.underlying248
 a213 := Tryz.isAgg248
 z213 := Tryz.sizeOf248
 t232 := Tryz.underlying232
 a232 := Tryz.isAgg232
 z232 := Tryz.sizeOf232
 v232 := Tryz.zeroValue232
 t233 := Tryz.underlying326
 a233 := Tryz.isAgg326
 z233 := Tryz.sizeOf326
 v233 := Tryz.zeroValue326
 g15 := by kernel_rfl
 g16 := by kernel_rfl
 g17 := by kernel_rfl
 g18 := by kernel_rfl
 g19 := by kernel_rfl
 t80 := Tryz.underlying67
 a80 := Tryz.isAgg67
 z80 := Tryz.sizeOf67
 v80 := Tryz.zeroValue67
 i0 := by kernel_rfl
 i2 := by kernel_rfl
 i3 := by kernel_rfl
 i4 := by kernel_rfl
 i5 := by kernel_rfl
 i9 := by kernel_rfl
 i20 := by kernel_rfl
 i21 := by kernel_rfl
 i37 := by kernel_rfl
 i46 := by kernel_rfl
 i51 := by kernel_rfl
 i53 := by kernel_rfl
 i75 := by kernel_rfl
 i76 := by kernel_rfl
 i80 := by kernel_rfl
 i85 := by kernel_rfl
 i127 := by kernel_rfl
 i143 := by kernel_rfl
 i145 := by kernel_rfl
 i167 := by kernel_rfl
 i168 := by kernel_rfl
 i171 := by kernel_rfl
 i173 := by kernel_rfl
 i175 := by kernel_rfl
 i210 := by kernel_rfl
 i212 := by kernel_rfl
 i232 := by kernel_rfl
 i233 := by kernel_rfl
 m15 := by kernel_rfl
 m16 := by kernel_rfl
 m17 := by kernel_rfl
 m18 := by kernel_rfl
 m19 := by kernel_rfl
 c0 := by kernel_rfl
 c2 := by kernel_rfl
 c3 := by kernel_rfl
 c4 := by kernel_rfl
 c5 := by kernel_rfl
 c9 := by kernel_rfl
 c20 := by kernel_rfl
 c21 := by kernel_rfl
 c37 := by kernel_rfl
 c46 := by kernel_rfl
 c51 := by kernel_rfl
 c53 := by kernel_rfl
 c75 := by kernel_rfl
 c76 := by kernel_rfl
 c80 := by kernel_rfl
 c85 := by kernel_rfl
 c127 := by kernel_rfl
 c143 := by kernel_rfl
 c145 := by kernel_rfl
 c167 := by kernel_rfl
 c168 := by kernel_rfl
 c171 := by kernel_rfl
 c173 := by kernel_rfl
 c175 := by kernel_rfl
 c210 := by kernel_rfl
 c212 := by kernel_rfl
 c213 := by kernel_rfl
 c232 := by kernel_rfl
 c233 := by kernel_rfl }
open Go.RowKit in
theorem Tryz.strconv_Atoi_ok (s : ByteArray) (hmax : s.size ≤ 9223372036854775806) (v : Int) (h : Lib.atoiAll s.data.toList = .ok v) (w : World) :
 Calls Tryz.prog 34 #[.string s] w fun e w' => e = .returned (.tuple #[.int .i64 v,.nilIface]) ∧ (w' = w ∨ ∃ t,w' = Lib.bytesWorld w 5 t) := Any.strconv_Atoi_ok Tryz.laysC172 s hmax v h w
def Tryz.lays192_ren : Go.Shelf.Ren := ⟨fun | 192 => 94 | 190 => 108 | 125 => 136 | 258 => 135 | 128 => 181 | 129 => 157 | 302 => 172 | 303 => 173 | 304 => 174 | 305 => 175 | 306 => 176 | 307 => 177 | 308 => 178 | 309 => 179 | 310 => 180 | 333 => 223 | 329 => 224 | 330 => 225 | 334 => 226 | 335 => 227 | 336 => 228 | 344 => 244 | n => n,fun | 31 => 25 | 0 => 0 | 9 => 9 | 3 => 3 | 46 => 161 | 51 => 226 | 53 => 158 | 4 => 4 | 183 => 252 | 182 => 251 | 131 => 256 | 5 => 5 | 218 => 303 | 222 => 59 | 228 => 327 | 229 => 235 | n => n,fun | n => n⟩
theorem Tryz.lays192 : Go.Proofs.Lays.n192 Tryz.prog Tryz.lays192_ren := {
 mixed := by kernel_rfl
 f125 := Tryz.func136.trans (congrArg some (by kernel_rfl))
 f128 := Tryz.func181.trans (congrArg some (by kernel_rfl))
 f129 := Tryz.func157.trans (congrArg some (by kernel_rfl))
 f190 := Tryz.func108.trans (congrArg some (by kernel_rfl))
 f192 := Tryz.func94.trans (congrArg some (by kernel_rfl))
 f258 := Tryz.func135.trans (congrArg some (by kernel_rfl))
 f302 := Tryz.func172.trans (congrArg some (by kernel_rfl))
 f303 := Tryz.func173.trans (congrArg some (by kernel_rfl))
 f304 := Tryz.func174.trans (congrArg some (by kernel_rfl))
 f305 := Tryz.func175.trans (congrArg some (by kernel_rfl))
 f306 := Tryz.func176.trans (congrArg some (by kernel_rfl))
 f307 := Tryz.func177.trans (congrArg some (by kernel_rfl))
 f308 := Tryz.func178.trans (congrArg some (by kernel_rfl))
 f309 := Tryz.func179.trans (congrArg some (by kernel_rfl))
 f310 := Tryz.func180.trans (congrArg some (by kernel_rfl))
 f329 := Tryz.func224.trans (congrArg some (by kernel_rfl))
 f330 := Tryz.func225.trans (congrArg some (by kernel_rfl))
 f333 := Tryz.func223.trans (congrArg some (by kernel_rfl))
 f334 := Tryz.func226.trans (congrArg some (by kernel_rfl))
 f335 := Tryz.func227.trans (congrArg some (by kernel_rfl))
 f336 := Tryz.func228.trans (congrArg some (by kernel_rfl))
 f344 := Tryz.func244.trans (congrArg some (by kernel_rfl))
 t0 := Tryz.underlying0
 a0 := Tryz.isAgg0
 z0 := Tryz.sizeOf0
 v0 := Tryz.zeroValue0
 t3 := Tryz.underlying3
 a3 := Tryz.isAgg3
 z3 := Tryz.sizeOf3
 v3 := Tryz.zeroValue3
 t4 := Tryz.underlying4
 a4 := Tryz.isAgg4
 z4 := Tryz.sizeOf4
 v4 := Tryz.zeroValue4
 t5 := Tryz.underlying5
 a5 := Tryz.isAgg5
 z5 := Tryz.sizeOf5
 v5 := Tryz.zeroValue5
 t9 := Tryz.underlying9
 a9 := Tryz.isAgg9
 z9 := Tryz.sizeOf9
 v9 := Tryz.zeroValue9
 t31 := Tryz.underlying25
 a31 := Tryz.isAgg25
 z31 := Tryz.sizeOf25
 v31 := Tryz.zeroValue25
 t46 := Tryz.underlying161
 a46 := Tryz.isAgg161
 z46 := Tryz.sizeOf161
 v46 := Tryz.zeroValue161
 t51 := Tryz.underlying226
 a51 := Tryz.isAgg226
 z51 := Tryz.sizeOf226
 v51 := Tryz.zeroValue226
 t53 := Tryz.underlying158
 a53 := Tryz.isAgg158
 z53 := Tryz.sizeOf158
 v53 := Tryz.zeroValue158
 t131 := Tryz.underlying256
 a131 := Tryz.isAgg256
 z131 := Tryz.sizeOf256
 v131 := Tryz.zeroValue256
 t182 := Tryz.underlying251
 a182 := Tryz.isAgg251
 z182 := Tryz.sizeOf251
 v182 := Tryz.zeroValue251
 t183 := Tryz.underlying252
 a183 := Tryz.isAgg252
 z183 := Tryz.sizeOf252
 v183 := Tryz.zeroValue252
 t218 := Tryz.underlying303
 a218 := Tryz.isAgg303
 z218 := Tryz.sizeOf303
 v218 := Tryz.zeroValue303
 t222 := Tryz.underlying59
 a222 := Tryz.isAgg59
 z222 := Tryz.sizeOf59
 v222 := Tryz.zeroValue59
 t228 := Tryz.underlying327
 a228 := Tryz.isAgg327
 z228 := Tryz.sizeOf327
 v228 := Tryz.zeroValue327
 t229 := Tryz.underlying235
 a229 := Tryz.isAgg235
 z229 := Tryz.sizeOf235
 v229 := Tryz.zeroValue235 }
open Go.Sort Go.RowKit in
theorem Tryz.sort_Strings (blk off cap : Nat) (ss : List (List UInt8)) (w : World) (hH : Holds encStr w blk off ss.toArray) (hblk : blk < w.heap.size) (hsz : ss.length < 4611686018427387904) :
 Calls Tryz.prog 94 #[.slice (some ⟨blk,off,none⟩) ss.length cap] w fun e w' =>
  e = .returned (.tuple #[]) ∧ ∃ n os,w' = grow (putRow encStr (Sort.ahead w n) blk off (ss.mergeSort fun x y => decide (x ≤ y)).toArray) os := Any.sort_Strings Tryz.lays192 blk off cap ss w hH hblk hsz
def Tryz.lays264_ren : Go.Shelf.Ren := ⟨fun | 264 => 241 | n => n,fun | 53 => 158 | 46 => 161 | n => n,fun | n => n⟩
theorem Tryz.lays264 : Go.Proofs.Lays.n264 Tryz.prog Tryz.lays264_ren := {
 mixed := by kernel_rfl
 f264 := Tryz.func241.trans (congrArg some (by kernel_rfl))
 t46 := Tryz.underlying161
 a46 := Tryz.isAgg161
 z46 := Tryz.sizeOf161
 v46 := Tryz.zeroValue161
 t53 := Tryz.underlying158
 a53 := Tryz.isAgg158
 z53 := Tryz.sizeOf158
 v53 := Tryz.zeroValue158 }
open Go.RowKit Go.Lib in
theorem Tryz.bits_Mul64 (x y : Nat) (hx : x < 18446744073709551616) (hy : y < 18446744073709551616) (w : World) :
 Calls Tryz.prog 241 #[.int .u64 x,.int .u64 y] w fun e w' => e = .returned (.tuple #[.int .u64 ((x * y / 18446744073709551616 : Nat) : Int),.int .u64 ((x * y % 18446744073709551616 : Nat) : Int)]) ∧ w' = w := Any.bits_Mul64 Tryz.lays264 x y hx hy w
def Tryz.laysPah39_ren : Go.Shelf.Ren := ⟨fun | 39 => 281 | 41 => 288 | 40 => 289 | n => n,fun | 30 => 40 | 9 => 9 | 3 => 3 | 0 => 0 | 5 => 5 | 46 => 161 | n => n,fun | n => n⟩
theorem Tryz.laysPah39 : Go.Proofs.Lays.ph39 Tryz.prog Tryz.laysPah39_ren := {
 mixed := by kernel_rfl
 f39 := Tryz.func281.trans (congrArg some (by kernel_rfl))
 f40 := Tryz.func289.trans (congrArg some (by kernel_rfl))
 f41 := Tryz.func288.trans (congrArg some (by kernel_rfl))
 t0 := Tryz.underlying0
 a0 := Tryz.isAgg0
 z0 := Tryz.sizeOf0
 v0 := Tryz.zeroValue0
 t3 := Tryz.underlying3
 a3 := Tryz.isAgg3
 z3 := Tryz.sizeOf3
 v3 := Tryz.zeroValue3
 t5 := Tryz.underlying5
 a5 := Tryz.isAgg5
 z5 := Tryz.sizeOf5
 v5 := Tryz.zeroValue5
 t9 := Tryz.underlying9
 a9 := Tryz.isAgg9
 z9 := Tryz.sizeOf9
 v9 := Tryz.zeroValue9
 t30 := Tryz.underlying40
 a30 := Tryz.isAgg40
 z30 := Tryz.sizeOf40
 v30 := Tryz.zeroValue40
 t46 := Tryz.underlying161
 a46 := Tryz.isAgg161
 z46 := Tryz.sizeOf161
 v46 := Tryz.zeroValue161
 info5 := by kernel_rfl }
def Tryz.laysPah43_ren : Go.Shelf.Ren := ⟨fun | 43 => 125 | 42 => 167 | 44 => 168 | n => n,fun | 9 => 9 | 30 => 40 | 35 => 71 | 3 => 3 | 38 => 83 | 4 => 4 | 0 => 0 | 5 => 5 | 47 => 302 | 46 => 161 | 45 => 67 | n => n,fun | 0 => 18 | n => n⟩
theorem Tryz.laysPah43 : Go.Proofs.Lays.ph43 Tryz.prog Tryz.laysPah43_ren := {
 mixed := by kernel_rfl
 f42 := Tryz.func167.trans (congrArg some (by kernel_rfl))
 f43 := Tryz.func125.trans (congrArg some (by kernel_rfl))
 f44 := Tryz.func168.trans (congrArg some (by kernel_rfl))
 t0 := Tryz.underlying0
 a0 := Tryz.isAgg0
 z0 := Tryz.sizeOf0
 v0 := Tryz.zeroValue0
 t3 := Tryz.underlying3
 a3 := Tryz.isAgg3
 z3 := Tryz.sizeOf3
 v3 := Tryz.zeroValue3
 t4 := Tryz.underlying4
 a4 := Tryz.isAgg4
 z4 := Tryz.sizeOf4
 v4 := Tryz.zeroValue4
 t5 := Tryz.underlying5
 a5 := Tryz.isAgg5
 z5 := Tryz.sizeOf5
 v5 := Tryz.zeroValue5
 t9 := Tryz.underlying9
 a9 := Tryz.isAgg9
 z9 := Tryz.sizeOf9
 v9 := Tryz.zeroValue9
 t30 := Tryz.underlying40
 a30 := Tryz.isAgg40
 z30 := Tryz.sizeOf40
 v30 := Tryz.zeroValue40
 t35 := Tryz.underlying71
 a35 := Tryz.isAgg71
 z35 := Tryz.sizeOf71
 v35 := Tryz.zeroValue71
 t38 := Tryz.underlying83
 a38 := Tryz.isAgg83
 z38 := Tryz.sizeOf83
 v38 := Tryz.zeroValue83
 t45 := Tryz.underlying67
 a45 := Tryz.isAgg67
 z45 := Tryz.sizeOf67
 v45 := Tryz.zeroValue67
 t46 := Tryz.underlying161
 a46 := Tryz.isAgg161
 z46 := Tryz.sizeOf161
 v46 := Tryz.zeroValue161
 t47 := Tryz.underlying302
 a47 := Tryz.isAgg302
 z47 := Tryz.sizeOf302
 v47 := Tryz.zeroValue302
 g0 := by kernel_rfl
 info5 := by kernel_rfl }
open Go.RowKit Go.Lib in
theorem Tryz.hex_DecodeString (s : ByteArray) (w : World) (ev : Value) (hE : w.cell? ⟨18,0,none⟩ = some ev) (hbig : s.size ≤ 281474976710656) :
 Calls Tryz.prog 125 #[.string s] w fun e w' =>
  e = .returned (.tuple #[.slice (some ⟨w.heap.size,0,none⟩) (Hx.decode s.data.toList).1.length (s.size / 2),Hx.errVal 302 ev (Hx.decode s.data.toList).2]) ∧
  w'.rowIs w.heap.size 5 (s.size / 2) (Hx.rowP (fun _ => .int .u8 0) 0 (Hx.decode s.data.toList).1) ∧ Below w.heap.size w w' := Any.hex_DecodeString Tryz.laysPah43 s w ev hE hbig
open Go.RowKit Go.Lib in
theorem Tryz.hex_EncodeToString_bytes (bs os cs : Nat) (l : List UInt8) (w : World) (hsrc : ∀ i (h : i < l.length),w.cell? ⟨bs,os + i,none⟩ = some (.int .u8 ((l[i]'h).toNat : Int))) (hb : bs < w.heap.size) (hbig : 2 * l.length ≤ 281474976710656) :
 Calls Tryz.prog 281 #[.slice (some ⟨bs,os,none⟩) l.length cs] w fun e w' => e = .returned (.string ⟨(Hx.encode l).toArray⟩) ∧ Below w.heap.size w w' := Any.hex_EncodeToString_bytes Tryz.laysPah39 bs os cs l w hsrc hb hbig
end Go.Proofs
