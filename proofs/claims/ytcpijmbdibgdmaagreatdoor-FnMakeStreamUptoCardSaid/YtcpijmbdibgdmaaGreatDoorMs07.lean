/-
  spec.reader.number: a word that is true, false, null, a number or the beginning of a reference.
  spec.reader.value and array: what they come to, as relations; the deferred closure of value.
  spec.reader.array.
-/
import Derived.Test.YtcpijmbdibgdmaaGreatDoorMs06
import Derived.Defers
import Derived.Deep.RegionWith
import Derived.Deep.RegionLaw
import Derived.Deep.AppendLies
set_option linter.all false
set_option maxHeartbeats 16000000
set_option maxRecDepth 100000
namespace Go.Proofs.YtcpijmbdibgdmaaGreatDoor
open Go.RowKit
attribute [local go_sem] ba_get store_flt
def vBool (b : Int) : Array Value := #[.int .i64 1,.int .i64 b,.int .i64 0,.float .f64 0,S [],.slice none 0 0,.slice none 0 0]
def vStr (kd : Int) (l : List UInt8) : Array Value := #[.int .i64 kd,.int .i64 0,.int .i64 0,.float .f64 0,S l,.slice none 0 0,.slice none 0 0]
def SVal.flat : SVal → Array Value
 | .null => vZero
 | .bool b => vBool (if b then 1 else 0)
 | .int n => vInt n
 | .real x => vReal x
 | .str l => vStr 4 l
 | .name l => vStr 5 l
 | .ref n g => vRef n g
 | _ => vZero
def badOf (bad code : Nat) : Nat := if code = 0 then bad else if bad = 0 then code else bad
def numF (pf : List UInt8 → Nat) (s : List UInt8) (k : Nat) (odd : Bool) : SVal × Nat × Bool × Nat :=
 let w1 := wordAt s k odd
 if w1.1 = [116,114,117,101] then (.bool true,w1.2.1,w1.2.2,0)
 else if w1.1 = [102,97,108,115,101] then (.bool false,w1.2.1,w1.2.2,0)
 else if w1.1 = [110,117,108,108] then (.null,w1.2.1,w1.2.2,0)
 else match numM w1.1 with
  | .refused => (.null,w1.2.1,w1.2.2,1)
  | .open_ => (.null,w1.2.1,w1.2.2,2)
  | .real => (.real (pf w1.1),w1.2.1,w1.2.2,0)
  | .int n => match refM s w1.2.1 w1.2.2 n w1.1 with
    | (.int,p) => (.int n,p.1,p.2,0)
    | (.ref g,p) => (.ref n g,p.1,p.2,0)
    | (.zero,p) => (.null,p.1,p.2,2)
def NumbPost (w : World) (r : Nat) (s : List UInt8) (bad deep : Nat) (ends : Bool) (fin : SVal × Nat × Bool × Nat) (e : Ending) (w' : World) : Prop :=
 e = .returned (.agg fin.1.flat) ∧ fin.2.1 ≤ s.length ∧ Rd w' r s fin.2.1 (badOf bad fin.2.2.2) deep fin.2.2.1 ends ∧ Only w w' r
theorem numM_bound {t : List UInt8} {n : Int} (h : numM t = .int n) : -2147483648 ≤ n ∧ n ≤ 2147483647 := by
 unfold numM at h;split at h
 · cases h
 split at h
 · cases h
 split at h
 · cases h
 split at h
 · cases h
 split at h
 · split at h
   · cases h
   injection h with h;subst h;omega
 cases h
theorem numb_any (pf : List UInt8 → Nat) (W0 : World) (hpf : PFSaid pf W0) (r : Nat) (s : List UInt8) (k bad deep : Nat) (odd ends : Bool) (w : World)
 (hk : k ≤ s.length) (hs : s.length ≤ 268435456) (hr0 : W0.heap.size ≤ r) (hW : Below W0.heap.size W0 w) (hR0 : Rd w r s k bad deep odd ends) :
 Calls Tryz.prog 49 #[.pointer (some ⟨r,0,none⟩)] w (NumbPost w r s bad deep ends (numF pf s k odd)) := by
 obtain ⟨fin,hfin⟩ : ∃ fin,fin = numF pf s k odd := ⟨_,rfl⟩;rw [← hfin];have Hf := Lib.hid hfin;clear hfin;have Hpf := Lib.hid hpf;have HW := Lib.hid hW;clear hpf hW;have hrB : r < w.heap.size := Blk.lt hR0;go_enter Tryz.func49,Tryz.ntmps49;go_wp2_with fail;refine calls_gen (fun wo => Blk wo w.heap.size 34 vZero ∧ Rd wo r s k bad deep odd ends ∧ Only w wo r) ⟨Blk.newAt _ 34 vZero _ (by simp),Blk.alloc hR0 _,only_alloc (only_refl _ _) _⟩ ?_;clear hR0;rintro wo ⟨hz,hR,hO⟩;refine (word_any r s k bad deep odd ends wo hk hs hR).mono ?_;rintro e w2 ⟨rfl,hA,hO1⟩;have hz1 := Blk.grown hz hO1 (fun e => by injection e with e;omega);have hO2 := only_trans hO hO1;clear hR hO hO1 hz;obtain ⟨⟨x1,k2,o2⟩,hx1⟩ : ∃ a,a = wordAt s k odd := ⟨_,rfl⟩;have hk2 : k2 ≤ s.length := by have := wordAt_le (o := odd) hk;rw [← hx1] at this;exact this
 have hxl : x1.length ≤ s.length := by have := wordAt_len (s := s) (k := k) (o := odd);rw [← hx1] at this;exact this
 have Hx1 := Lib.hid hx1;injection hx1 with e1 e2;injection e2 with e2 e3;rw [← e3,← e2] at hA;rw [← e1];clear e1 e2 e3;obtain ⟨z0,z1,z2,z3,z4,z5,z6⟩ := res_cells hz1 rfl;have y0 := hz1.frozen 0;have y1 := hz1.frozen 1;have y2 := hz1.frozen 2;have y3 := hz1.frozen 3;have y4 := hz1.frozen 4;have y5 := hz1.frozen 5;have y6 := hz1.frozen 6;have l1 := Blk.lt hz1;generalize hb1 : w.heap.size = b1 at *;by_cases t1 : x1 = [116,114,117,101]
 · subst t1;have E : Hid (fin = (.bool true,k2,o2,0)) := Lib.hid (by rw [Hf.out,numF];simp only [← Hx1.out];rfl);go_wp2_with fail;refine bodyPost_ret (v := .agg (vBool 1)) (by simp [results,Tryz.results49,go_sem,vInt,vZero,vRef,vBool,vReal,S,l1,z0,z1,z2,z3,z4,z5,z6,y0,y1,y2,y3,y4,y5,y6]) rfl ?_;unfold NumbPost;rw [E.out];refine ⟨rfl,by first | exact hk2 | exact hk3,?_,?_⟩
   · have h := hA;unfold Rd at h ⊢
     repeat first | with_reducible refine Blk.alloc ?_ _ | with_reducible refine Blk.far ?_ (show ¬ r = b1 from by omega) _
     exact h
   have h := hO2
   repeat first | with_reducible exact h | with_reducible refine only_alloc ?_ _ | with_reducible refine only_setCell ?_ (.inr (show w.heap.size ≤ b1 by omega)) _
 by_cases t2 : x1 = [102,97,108,115,101]
 · subst t2;have E : Hid (fin = (.bool false,k2,o2,0)) := Lib.hid (by rw [Hf.out,numF];simp only [← Hx1.out];rfl);go_wp2_with fail;refine bodyPost_ret (v := .agg (vBool 0)) (by simp [results,Tryz.results49,go_sem,vInt,vZero,vRef,vBool,vReal,S,l1,z0,z1,z2,z3,z4,z5,z6,y0,y1,y2,y3,y4,y5,y6]) rfl ?_;unfold NumbPost;rw [E.out];refine ⟨rfl,by first | exact hk2 | exact hk3,?_,?_⟩
   · have h := hA;unfold Rd at h ⊢
     repeat first | with_reducible refine Blk.alloc ?_ _ | with_reducible refine Blk.far ?_ (show ¬ r = b1 from by omega) _
     exact h
   have h := hO2
   repeat first | with_reducible exact h | with_reducible refine only_alloc ?_ _ | with_reducible refine only_setCell ?_ (.inr (show w.heap.size ≤ b1 by omega)) _
 by_cases t3 : x1 = [110,117,108,108]
 · subst t3;have E : Hid (fin = (.null,k2,o2,0)) := Lib.hid (by rw [Hf.out,numF];simp only [← Hx1.out];rfl);go_wp2_with fail;refine bodyPost_ret (v := .agg (vZero)) (by simp [results,Tryz.results49,go_sem,vInt,vZero,vRef,vBool,vReal,S,l1,z0,z1,z2,z3,z4,z5,z6,y0,y1,y2,y3,y4,y5,y6]) rfl ?_;unfold NumbPost;rw [E.out];refine ⟨rfl,by first | exact hk2 | exact hk3,?_,?_⟩
   · have h := hA;unfold Rd at h ⊢
     repeat first | with_reducible refine Blk.alloc ?_ _ | with_reducible refine Blk.far ?_ (show ¬ r = b1 from by omega) _
     exact h
   have h := hO2
   repeat first | with_reducible exact h | with_reducible refine only_alloc ?_ _ | with_reducible refine only_setCell ?_ (.inr (show w.heap.size ≤ b1 by omega)) _
 have T1 := Lib.hid t1;have T2 := Lib.hid t2;have T3 := Lib.hid t3;have n1 : (x1 == [116,114,117,101]) = false := beq_eq_false_iff_ne.2 t1;have n2 : (x1 == [102,97,108,115,101]) = false := beq_eq_false_iff_ne.2 t2;have n3 : (x1 == [110,117,108,108]) = false := beq_eq_false_iff_ne.2 t3;clear t1 t2 t3;go_wp2_with fail;refine (number_any pf W0 Hpf.out x1 w2 (by omega) (since_only HW.out hO2 hr0)).mono ?_;rintro e w3 ⟨he,hB⟩;have hz3 : Blk w3 b1 34 vZero := Blk.below hz1 hB (Blk.lt hz1);have hA3 : Rd w3 r s k2 bad deep o2 ends := Blk.below hA hB (Blk.lt hA);have hO3 : Only w w3 r := only_below hO2 hB;clear hz1 hA hO2 z0 z1 z2 z3 z4 z5 z6 y0 y1 y2 y3 y4 y5 y6 l1 hB;obtain ⟨nm,hnm⟩ : ∃ nm,nm = numM x1 := ⟨_,rfl⟩;have Hn := Lib.hid hnm;rw [← hnm] at he;clear hnm
 cases nm with
 | refused =>
   subst he;have E : Hid (fin = (.null,k2,o2,1)) := Lib.hid (by rw [Hf.out,numF];simp only [← Hx1.out];rw [if_neg T1.out,if_neg T2.out,if_neg T3.out,← Hn.out]);unfold NumVal vZero;go_wp2_with fail;refine calls_gen (fun wo => Blk wo b1 34 vZero ∧ Rd wo r s k2 bad deep o2 ends ∧ Only w wo r) ⟨Blk.alloc hz3 _,Blk.alloc hA3 _,only_alloc hO3 _⟩ ?_;clear hz3 hA3 hO3;rintro w4 ⟨hz3,hA3,hO3⟩;refine (fail_any r s k2 bad deep 1 o2 ends w4 hA3).mono ?_;rintro e w5 ⟨rfl,hF,hO⟩;have hz5 := Blk.grown hz3 hO (fun e => by injection e with e;omega);have hO5 := only_trans hO3 hO;obtain ⟨z0,z1,z2,z3,z4,z5,z6⟩ := res_cells hz5 rfl;have y0 := hz5.frozen 0;have y1 := hz5.frozen 1;have y2 := hz5.frozen 2;have y3 := hz5.frozen 3;have y4 := hz5.frozen 4;have y5 := hz5.frozen 5;have y6 := hz5.frozen 6;have l1 := Blk.lt hz5;unfold vZero;go_wp2_with fail;refine bodyPost_ret (v := .agg (vZero)) (by simp [results,Tryz.results49,go_sem,vInt,vZero,vRef,vBool,vReal,S,l1,z0,z1,z2,z3,z4,z5,z6,y0,y1,y2,y3,y4,y5,y6]) rfl ?_;unfold NumbPost;rw [E.out];refine ⟨rfl,by first | exact hk2 | exact hk3,?_,?_⟩
   · have h := hF;unfold Rd at h ⊢
     repeat first | with_reducible refine Blk.alloc ?_ _ | with_reducible refine Blk.far ?_ (show ¬ r = b1 from by omega) _
     exact h
   have h := hO5
   repeat first | with_reducible exact h | with_reducible refine only_alloc ?_ _ | with_reducible refine only_setCell ?_ (.inr (show w.heap.size ≤ b1 by omega)) _
 | open_ =>
   subst he;have E : Hid (fin = (.null,k2,o2,2)) := Lib.hid (by rw [Hf.out,numF];simp only [← Hx1.out];rw [if_neg T1.out,if_neg T2.out,if_neg T3.out,← Hn.out]);unfold NumVal vZero;go_wp2_with fail;refine calls_gen (fun wo => Blk wo b1 34 vZero ∧ Rd wo r s k2 bad deep o2 ends ∧ Only w wo r) ⟨Blk.alloc hz3 _,Blk.alloc hA3 _,only_alloc hO3 _⟩ ?_;clear hz3 hA3 hO3;rintro w4 ⟨hz3,hA3,hO3⟩;refine (fail_any r s k2 bad deep 2 o2 ends w4 hA3).mono ?_;rintro e w5 ⟨rfl,hF,hO⟩;have hz5 := Blk.grown hz3 hO (fun e => by injection e with e;omega);have hO5 := only_trans hO3 hO;obtain ⟨z0,z1,z2,z3,z4,z5,z6⟩ := res_cells hz5 rfl;have y0 := hz5.frozen 0;have y1 := hz5.frozen 1;have y2 := hz5.frozen 2;have y3 := hz5.frozen 3;have y4 := hz5.frozen 4;have y5 := hz5.frozen 5;have y6 := hz5.frozen 6;have l1 := Blk.lt hz5;unfold vZero;go_wp2_with fail;refine bodyPost_ret (v := .agg (vZero)) (by simp [results,Tryz.results49,go_sem,vInt,vZero,vRef,vBool,vReal,S,l1,z0,z1,z2,z3,z4,z5,z6,y0,y1,y2,y3,y4,y5,y6]) rfl ?_;unfold NumbPost;rw [E.out];refine ⟨rfl,by first | exact hk2 | exact hk3,?_,?_⟩
   · have h := hF;unfold Rd at h ⊢
     repeat first | with_reducible refine Blk.alloc ?_ _ | with_reducible refine Blk.far ?_ (show ¬ r = b1 from by omega) _
     exact h
   have h := hO5
   repeat first | with_reducible exact h | with_reducible refine only_alloc ?_ _ | with_reducible refine only_setCell ?_ (.inr (show w.heap.size ≤ b1 by omega)) _
 | real =>
   subst he;have E : Hid (fin = (.real (pf x1),k2,o2,0)) := Lib.hid (by rw [Hf.out,numF];simp only [← Hx1.out];rw [if_neg T1.out,if_neg T2.out,if_neg T3.out,← Hn.out]);obtain ⟨z0,z1,z2,z3,z4,z5,z6⟩ := res_cells hz3 rfl;have y0 := hz3.frozen 0;have y1 := hz3.frozen 1;have y2 := hz3.frozen 2;have y3 := hz3.frozen 3;have y4 := hz3.frozen 4;have y5 := hz3.frozen 5;have y6 := hz3.frozen 6;have l1 := Blk.lt hz3;unfold NumVal vReal;go_wp2_with fail;refine bodyPost_ret (v := .agg (vReal (pf x1))) (by simp [results,Tryz.results49,go_sem,vInt,vZero,vRef,vBool,vReal,S,l1,z0,z1,z2,z3,z4,z5,z6,y0,y1,y2,y3,y4,y5,y6]) rfl ?_;unfold NumbPost;rw [E.out];refine ⟨rfl,by first | exact hk2 | exact hk3,?_,?_⟩
   · have h := hA3;unfold Rd at h ⊢
     repeat first | with_reducible refine Blk.alloc ?_ _ | with_reducible refine Blk.far ?_ (show ¬ r = b1 from by omega) _
     exact h
   have h := hO3
   repeat first | with_reducible exact h | with_reducible refine only_alloc ?_ _ | with_reducible refine only_setCell ?_ (.inr (show w.heap.size ≤ b1 by omega)) _
 | int n =>
   subst he
   have hnb : -2147483648 ≤ n ∧ n ≤ 2147483647 := by
    exact numM_bound Hn.out.symm
   have hne : x1 ≠ [] := by
    rintro rfl;exact absurd Hn.out (by unfold numM;simp [cntM,unsign])
   obtain ⟨z0,z1,z2,z3,z4,z5,z6⟩ := res_cells hz3 rfl;have y0 := hz3.frozen 0;have y1 := hz3.frozen 1;have y2 := hz3.frozen 2;have y3 := hz3.frozen 3;have y4 := hz3.frozen 4;have y5 := hz3.frozen 5;have y6 := hz3.frozen 6;have l1 := Blk.lt hz3;unfold NumVal vInt;go_wp2_with fail;refine calls_gen (fun wo => Blk wo b1 34 vZero ∧ Rd wo r s k2 bad deep o2 ends ∧ Only w wo r) ⟨Blk.alloc hz3 _,Blk.alloc hA3 _,only_alloc hO3 _⟩ ?_;clear hz3 hA3 hO3 z0 z1 z2 z3 z4 z5 z6 y0 y1 y2 y3 y4 y5 y6 l1;rintro w4 ⟨hz3,hA3,hO3⟩;refine (reference_any pf W0 Hpf.out r s k2 bad deep o2 ends n x1 w4 hne hk2 hs hnb hr0 (since_only HW.out hO3 hr0) hA3).mono ?_;rintro e w5 ⟨rfl,hk3,hF,hO⟩;have hz5 := Blk.grown hz3 hO (fun e => by injection e with e;omega);have hO5 := only_trans hO3 hO;obtain ⟨z0,z1,z2,z3,z4,z5,z6⟩ := res_cells hz5 rfl;have y0 := hz5.frozen 0;have y1 := hz5.frozen 1;have y2 := hz5.frozen 2;have y3 := hz5.frozen 3;have y4 := hz5.frozen 4;have y5 := hz5.frozen 5;have y6 := hz5.frozen 6;have l1 := Blk.lt hz5;clear hz3 hA3 hO3;obtain ⟨⟨rv,k3,o3⟩,hrm⟩ : ∃ a,a = refM s k2 o2 n x1 := ⟨_,rfl⟩;rw [← hrm] at hF hk3;rw [← hrm];have Hr := Lib.hid hrm;clear hrm;simp only at hk3
   cases rv with
   | int =>
     have E : Hid (fin = (.int n,k3,o3,0)) := Lib.hid (by rw [Hf.out,numF];simp only [← Hx1.out];rw [if_neg T1.out,if_neg T2.out,if_neg T3.out,← Hn.out];simp only [← Hr.out]);unfold RefVal.cells vInt;go_wp2_with fail;refine bodyPost_ret (v := .agg (vInt n)) (by simp [results,Tryz.results49,go_sem,vInt,vZero,vRef,vBool,vReal,S,l1,z0,z1,z2,z3,z4,z5,z6,y0,y1,y2,y3,y4,y5,y6]) rfl ?_;unfold NumbPost;rw [E.out];refine ⟨rfl,by first | exact hk2 | exact hk3,?_,?_⟩
     · have h := hF;unfold Rd at h ⊢
       repeat first | with_reducible refine Blk.alloc ?_ _ | with_reducible refine Blk.far ?_ (show ¬ r = b1 from by omega) _
       exact h
     have h := hO5
     repeat first | with_reducible exact h | with_reducible refine only_alloc ?_ _ | with_reducible refine only_setCell ?_ (.inr (show w.heap.size ≤ b1 by omega)) _
   | ref g =>
     have E : Hid (fin = (.ref n g,k3,o3,0)) := Lib.hid (by rw [Hf.out,numF];simp only [← Hx1.out];rw [if_neg T1.out,if_neg T2.out,if_neg T3.out,← Hn.out];simp only [← Hr.out]);unfold RefVal.cells vRef;go_wp2_with fail;refine bodyPost_ret (v := .agg (vRef n g)) (by simp [results,Tryz.results49,go_sem,vInt,vZero,vRef,vBool,vReal,S,l1,z0,z1,z2,z3,z4,z5,z6,y0,y1,y2,y3,y4,y5,y6]) rfl ?_;unfold NumbPost;rw [E.out];refine ⟨rfl,by first | exact hk2 | exact hk3,?_,?_⟩
     · have h := hF;unfold Rd at h ⊢
       repeat first | with_reducible refine Blk.alloc ?_ _ | with_reducible refine Blk.far ?_ (show ¬ r = b1 from by omega) _
       exact h
     have h := hO5
     repeat first | with_reducible exact h | with_reducible refine only_alloc ?_ _ | with_reducible refine only_setCell ?_ (.inr (show w.heap.size ≤ b1 by omega)) _
   | zero =>
     have E : Hid (fin = (.null,k3,o3,2)) := Lib.hid (by rw [Hf.out,numF];simp only [← Hx1.out];rw [if_neg T1.out,if_neg T2.out,if_neg T3.out,← Hn.out];simp only [← Hr.out]);unfold RefVal.cells vZero;go_wp2_with fail;refine bodyPost_ret (v := .agg (vZero)) (by simp [results,Tryz.results49,go_sem,vInt,vZero,vRef,vBool,vReal,S,l1,z0,z1,z2,z3,z4,z5,z6,y0,y1,y2,y3,y4,y5,y6]) rfl ?_;unfold NumbPost;rw [E.out];refine ⟨rfl,by first | exact hk2 | exact hk3,?_,?_⟩
     · have h := hF;unfold Rd at h ⊢
       repeat first | with_reducible refine Blk.alloc ?_ _ | with_reducible refine Blk.far ?_ (show ¬ r = b1 from by omega) _
       exact h
     have h := hO5
     repeat first | with_reducible exact h | with_reducible refine only_alloc ?_ _ | with_reducible refine only_setCell ?_ (.inr (show w.heap.size ≤ b1 by omega)) _
end Go.Proofs.YtcpijmbdibgdmaaGreatDoor
namespace Go.Proofs.YtcpijmbdibgdmaaGreatDoor
open Go.RowKit
attribute [local go_sem] ba_get store_flt
structure Z where
 k : Nat
 bad : Nat
 odd : Bool
 ends : Bool
abbrev VRel := Nat → Z → SVal → Z → Prop
inductive AOut (V : VRel) (s : List UInt8) (d : Nat) : Z → List SVal → Z → Prop
 | stop {z : Z} (hb : z.bad ≠ 0) : AOut V s d z [] z
 | close {z : Z} {k1 : Nat} {o1 : Bool} (hb : z.bad = 0) (hs : (k1,o1) = skipAt s z.k z.odd) (hc : ([93] : List UInt8).isPrefixOf (s.drop k1) = true) : AOut V s d z [] ⟨k1 + 1,0,o1,z.ends⟩
 | elem {z z' z'' : Z} {k1 : Nat} {o1 : Bool} {v : SVal} {l : List SVal} (hb : z.bad = 0) (hs : (k1,o1) = skipAt s z.k z.odd) (hc : ([93] : List UInt8).isPrefixOf (s.drop k1) = false)
  (hv : V d ⟨k1,0,o1,z.ends || decide (s.length ≤ k1)⟩ v z') (ha : AOut V s d z' l z'') : AOut V s d z (v :: l) z''
def ValPost (V : VRel) (s : List UInt8) (d : Nat) (z : Z) (w : World) (r : Nat) (e : Ending) (w' : World) : Prop :=
 ∃ (v : SVal) (cs : Array Value) (z' : Z),e = .returned (.agg cs) ∧ V d z v z' ∧ VRep w' (fun i => w.heap.size ≤ i) v cs.toList ∧ z.k ≤ z'.k ∧ z'.k ≤ s.length ∧ (z'.bad = 0 → z.k < z'.k) ∧
   Rd w' r s z'.k z'.bad d z'.odd z'.ends ∧ Only w w' r
def ValSaid (V : VRel) (W0 : World) (s : List UInt8) (m : Nat) : Prop :=
 ∀ (r d : Nat) (z : Z) (w : World),z.k ≤ s.length → s.length - z.k < m → d ≤ 60 → W0.heap.size ≤ r → Below W0.heap.size W0 w → Rd w r s z.k z.bad d z.odd z.ends →
   Calls Tryz.prog 20 #[.pointer (some ⟨r,0,none⟩)] w (ValPost V s d z w r)
theorem dec_any (bb r : Nat) (s : List UInt8) (k bad deep : Nat) (odd ends : Bool) (u : FrameMode) (w : World) (hd : deep ≤ 60) (hb : w.cell? ⟨bb,0,none⟩ = some (.pointer (some ⟨r,0,none⟩))) (hR : Rd w r s k bad (deep + 1) odd ends) :
 CallsD Tryz.prog 40 #[.pointer (some ⟨bb,0,none⟩)] u w fun e u' w' => u' = u ∧ (e = .returned (.tuple #[]) ∧ Rd w' r s k bad deep odd ends ∧ Only w w' r) := by
 obtain ⟨c0,c1,c2,c3,c4,c5⟩ := hR.cs;obtain ⟨f1,f2,f3,f4,f5⟩ := hR.fs;have e1 : IntKind.i64.wrap ((deep + 1 : Nat) - 1 : Int) = deep := by rw [IntKind.wrap_i64];omega
 go_enter_d Tryz.func40,Tryz.ntmps40
 go_wp2_with fail
 go_end0
 refine ⟨rfl,Rd.deep_ hR deep (by go_num),only_set (only_refl _ _) _ _⟩
end Go.Proofs.YtcpijmbdibgdmaaGreatDoor
namespace Go.Proofs.YtcpijmbdibgdmaaGreatDoor
open Go.RowKit
attribute [local go_sem] ba_get store_flt
theorem Tryz.info34 : (Tryz.prog.info? 34).map (fun i => (i.zero,i.size,i.bytes)) = some (some (.agg vZero),7,96) := by kernel_rfl
def vArr (v : Value) : Array Value := #[.int .i64 6,.int .i64 0,.int .i64 0,.float .f64 0,S [],.slice none 0 0,v]
theorem arr_cells {w : World} {g : Nat} {v : Value} (h : Blk w g 34 (vArr v)) :
 w.cell? ⟨g,0,none⟩ = some (.int .i64 6) ∧ w.cell? ⟨g,1,none⟩ = some (.int .i64 0) ∧ w.cell? ⟨g,2,none⟩ = some (.int .i64 0) ∧ w.cell? ⟨g,3,none⟩ = some (.float .f64 0) ∧
 w.cell? ⟨g,4,none⟩ = some (S []) ∧ w.cell? ⟨g,5,none⟩ = some (.slice none 0 0) ∧ w.cell? ⟨g,6,none⟩ = some v := ⟨h.cell 0,h.cell 1,h.cell 2,h.cell 3,h.cell 4,h.cell 5,h.cell 6⟩
def ArrPost (V : VRel) (s : List UInt8) (d : Nat) (z : Z) (w : World) (r : Nat) (e : Ending) (w' : World) : Prop :=
 ∃ (l : List SVal) (v : Value) (xs : List Value) (z' : Z),e = .returned (.agg (vArr v)) ∧ AOut V s d ⟨z.k + 1,z.bad,z.odd,z.ends⟩ l z' ∧ z.k < z'.k ∧ z'.k ≤ s.length ∧
   w'.ownsRow 0 34 7 v l.length xs ∧ (∀ g,v.ownBlock = some g → w.heap.size ≤ g) ∧ KRep w' (fun i => w.heap.size ≤ i) l xs ∧ Rd w' r s z'.k z'.bad d z'.odd z'.ends ∧ Only w w' r
structure AS (w wr : World) (r b2 b3 : Nat) (s : List UInt8) (d : Nat) (l : List SVal) (v : Value) (xs : List Value) (y : Z) : Prop where
 hz : Blk wr b2 34 vZero
 ha : Blk wr b3 34 (vArr v)
 own : wr.ownsRow (b3 + 1) 34 7 v l.length xs
 kids : KRep wr (fun i => b3 < i ∧ v.ownBlock ≠ some i) l xs
 rd : Rd wr r s y.k y.bad d y.odd y.ends
 oo : Only w wr r
 h0 : w.heap.size ≤ b2
 h1 : b2 < b3
 hr : r < w.heap.size
theorem ownsRow_base {w : World} {base : Nat} {e : TypeId} {size n : Nat} {v : Value} {xs : List Value} (h : w.ownsRow base e size v n xs) : w.ownsRow 0 e size v n xs := by
 refine ⟨h.1,?_⟩;rcases h.2 with hn | ⟨g,cap,cur,hv,hbg,rest⟩
 · exact .inl hn
 exact .inr ⟨g,cap,cur,hv,Nat.zero_le _,rest⟩
theorem ownsRow_keepB {w w' : World} {base : Nat} {e : TypeId} {size n : Nat} {v : Value} {xs : List Value} (h : w.ownsRow base e size v n xs) (hb : ∀ g,v.ownBlock = some g → w'.heap[g]? = w.heap[g]?) : w'.ownsRow base e size v n xs := by
 refine ⟨h.1,?_⟩;rcases h.2 with hn | ⟨g,cap,cur,hv,hbg,hg,rest⟩
 · exact .inl hn
 refine .inr ⟨g,cap,cur,hv,hbg,?_,rest⟩;rw [hb g (by rw [hv];rfl)];exact hg
theorem ownsRow_one {w : World} {base : Nat} {e : TypeId} {size n : Nat} {v : Value} {xs : List Value} (h : w.ownsRow base e size v n xs) : v.oneCell' = true := by
 rcases h.2 with ⟨rfl,_⟩ | ⟨g,cap,cur,rfl,_⟩ <;> rfl
theorem ownsRow_slice {w : World} {base : Nat} {e : TypeId} {size n : Nat} {v : Value} {xs : List Value} (h : w.ownsRow base e size v n xs) : ∃ p a b,v = .slice p a b := by
 rcases h.2 with ⟨rfl,_⟩ | ⟨g,cap,cur,rfl,_⟩
 · exact ⟨_,_,_,rfl⟩
 exact ⟨_,_,_,rfl⟩
theorem sv7_one {kd n g : Int} {x : Nat} {t : List UInt8} {ks vs : Value} (hk : ks.oneCell' = true) (hv : vs.oneCell' = true) : ∀ u ∈ sv7 kd n g x t ks vs,u.oneCell' = true := by
 intro u hu;simp only [sv7,List.mem_cons,List.not_mem_nil,or_false] at hu;rcases hu with rfl | rfl | rfl | rfl | rfl | rfl | rfl <;> first | rfl | assumption
theorem VRep.one {w : World} {F : Nat → Prop} : ∀ (v : SVal) (c : List Value),VRep w F v c → ∀ u ∈ c,u.oneCell' = true := by
 intro v c h;cases v <;> unfold VRep at h <;> first | (rw [h];exact sv7_one rfl rfl) | (obtain ⟨_,_,rfl,h2,_⟩ := h;exact sv7_one rfl (ownsRow_one h2)) | (obtain ⟨_,_,_,rfl,h5,h2,_⟩ := h;obtain ⟨_,_,_,rfl⟩ := KeysAt.slice h5;exact sv7_one rfl (ownsRow_one h2))
theorem seven {w : World} {F : Nat → Prop} {v : SVal} {cs : Array Value} (h : VRep w F v cs.toList) : ∃ q0 q1 q2 q3 q4 q5 q6,cs = #[q0,q1,q2,q3,q4,q5,q6] := by
 have hl := VRep.len v _ h;obtain ⟨c⟩ := cs
 match c,hl with
 | [q0,q1,q2,q3,q4,q5,q6],_ => exact ⟨q0,q1,q2,q3,q4,q5,q6,rfl⟩
theorem news_new {w : World} {cs : Array Value} {g : Nat} (hg : g = w.heap.size) : ∀ (j : Nat) (u : Value),cs.toList[j]? = some u → (w.alloc (.cells cs 34)).cell? ((⟨g,0,none⟩ : Addr).add j) = some u := by
 intro j u hj;subst hg;have := Blk.cell (Blk.new w 34 cs) j
 have e : (⟨w.heap.size,0,none⟩ : Addr).add j = ⟨w.heap.size,j,none⟩ := by
  simp [Addr.add];intro h;rw [h]
 rw [e,this];simpa using hj
section
variable {w wr w1 w2 w' : World} {r b2 b3 : Nat} {s : List UInt8} {d : Nat} {l : List SVal} {v : Value} {xs : List Value} {y y' : Z}
theorem AS.own_ge (h : AS w wr r b2 b3 s d l v xs y) : ∀ g,v.ownBlock = some g → b3 < g ∧ g < wr.heap.size := fun g hg => by
 have := World.ownsRow.lt h.own g hg;omega
theorem AS.call (h : AS w wr r b2 b3 s d l v xs y) (hO : Only wr w' r) (hR : Rd w' r s y'.k y'.bad d y'.odd y'.ends) : AS w w' r b2 b3 s d l v xs y' := by
 have h0 := h.h0;have h1 := h.h1;have hr := h.hr;have hog := h.own_ge;refine ⟨Blk.grown h.hz hO (fun e => by injection e with e;omega),Blk.grown h.ha hO (fun e => by injection e with e;omega),ownsRow_keepB h.own (fun g hg => hO.block g (hog g hg).2 (fun e => by have := hog g hg;injection e with e;omega)),?_,hR,only_trans h.oo hO,h0,h1,hr⟩;exact KRep.mono (fun i hi hlt => ⟨hO.block i hlt (fun e => by injection e with e;omega),hi⟩) l xs h.kids
theorem AS.drewN (h : AS w wr r b2 b3 s d l v xs y) (n : Nat) : AS w (wr.drewN n) r b2 b3 s d l v xs y := h.call (only_drewN (only_refl _ _) n) h.rd
theorem AS.drew (h : AS w wr r b2 b3 s d l v xs y) : AS w wr.drew r b2 b3 s d l v xs y := h.call (only_drew (only_refl _ _)) h.rd
theorem own_base (h : AS w wr r b2 b3 s d l v xs y) {o : Obj} : b3 + 1 ≤ (wr.alloc o).heap.size := by
 have := Blk.lt h.ha;simp;omega
theorem AS.done (h : AS w wr r b2 b3 s d l v xs y) (hO : Only wr w' b2) : w'.ownsRow 0 34 7 v l.length xs ∧ (∀ g,v.ownBlock = some g → w.heap.size ≤ g) ∧ KRep w' (fun i => w.heap.size ≤ i) l xs ∧ Rd w' r s y.k y.bad d y.odd y.ends ∧ Only w w' r := by
 have h0 := h.h0;have h1 := h.h1;have hr := h.hr;have hog := h.own_ge;refine ⟨ownsRow_base (ownsRow_keepB h.own (fun g hg => hO.block g (hog g hg).2 (fun e => by have := hog g hg;injection e with e;omega))),fun g hg => by have := hog g hg;omega,?_,Blk.grown h.rd hO (fun e => by injection e with e;omega),only_grown h.oo hO (fun q e => by injection e with e;omega)⟩;exact KRep.mono (fun i hi hlt => ⟨hO.block i hlt (fun e => by injection e with e;omega),by omega⟩) l xs h.kids
theorem AS.elem (h : AS w wr r b2 b3 s d l v xs y) (hO : Only wr w1 r) (hR : Rd w1 r s y'.k y'.bad d y'.odd y'.ends) {u : SVal} {cs : List Value} (hv : VRep w1 (fun i => wr.heap.size ≤ i) u cs) {o : Obj} {g cap : Nat}
 (happ : w2.ownsRow (b3 + 1) 34 7 (.slice (some ⟨g,0,none⟩) (l.length + 1) cap) (l.length + 1) (xs ++ cs)) (hgr : (w1.alloc o).grownBy w2 v.ownBlock) (hat : v.ownBlock = some g ∨ g = (w1.alloc o).heap.size) :
 AS w (w2.setCell ⟨b3,6,none⟩ (.slice (some ⟨g,0,none⟩) (l.length + 1) cap)) r b2 b3 s d (l ++ [u]) (.slice (some ⟨g,0,none⟩) (l.length + 1) cap) (xs ++ cs) y' := by
 have h0 := h.h0;have h1 := h.h1;have hr := h.hr;have hog := h.own_ge;have hb3 := Blk.lt h.ha;have hsz := hO.size;have hsa : (w1.alloc o).heap.size = w1.heap.size + 1 := by simp
 have hgb : b3 < g := by
  have := World.ownsRow.lt happ g rfl;omega
 have far : ∀ i,i ≠ b3 → (w2.setCell ⟨b3,6,none⟩ (.slice (some ⟨g,0,none⟩) (l.length + 1) cap)).heap[i]? = w2.heap[i]? := fun i hi => Below.heap_setCell _ _ _ _ hi
 have keep : ∀ i,i < w1.heap.size → v.ownBlock ≠ some i → i ≠ b3 → (w2.setCell ⟨b3,6,none⟩ (.slice (some ⟨g,0,none⟩) (l.length + 1) cap)).heap[i]? = w1.heap[i]? := fun i hi hv hb => by
  rw [far i hb,hgr.block i (by omega) (fun e => hv e.symm)];exact Below.heap_alloc w1 o i hi
 refine ⟨?_,?_,?_,?_,?_,?_,h0,h1,hr⟩
 · exact (keep b2 (by have := Blk.lt h.hz;omega) (fun e => by have := hog _ e;omega) (by omega)).trans (Blk.grown h.hz hO (fun e => by injection e with e;omega))
 · have h2 : Blk w2 b3 34 (vArr v) := ((hgr.block b3 (by omega) (fun e => by have := hog _ e.symm;omega)).trans (Below.heap_alloc w1 o b3 (by omega))).trans (Blk.grown h.ha hO (fun e => by injection e with e;omega));exact Blk.set_ h2 6 _
 · refine ownsRow_keepB (by simpa using happ) (fun i hi => far i (by injection hi with hi;simp only at hi;omega))
 · refine KRep.snoc ?_ l xs ?_
   · refine VRep.mono (fun i hi hlt => ⟨keep i hlt (fun e => by have := hog _ e;omega) (by omega),by omega,fun e => ?_⟩) u cs hv;injection e with e;simp only at e;rcases hat with hat | hat
     · have := hog _ hat;omega
     omega
   refine KRep.mono (fun i hi hlt => ⟨(keep i (by omega) hi.2 (by omega)).trans (hO.block i hlt (fun e => by injection e with e;omega)),hi.1,fun e => ?_⟩) l xs h.kids;injection e with e;simp only at e;rcases hat with hat | hat
   · exact hi.2 (by rw [hat,e])
   omega
 · exact (keep r (by omega) (fun e => by have := hog _ e;omega) (by omega)).trans hR
 · exact only_setCell (only_grown (only_alloc (only_trans h.oo hO) o) hgr (fun q e => by have := hog _ e;omega)) (.inr (by simp only;omega)) _
end
theorem arr_any (V : VRel) (W0 : World) (s : List UInt8) (m : Nat) (hV : ValSaid V W0 s m) (r d : Nat) (z : Z) (w : World) (hzb : z.bad = 0) (hk : z.k < s.length) (hm : s.length - z.k ≤ m) (hs : s.length ≤ 268435456) (hd : d ≤ 60)
 (hr0 : W0.heap.size ≤ r) (hW : Below W0.heap.size W0 w) (hR0 : Rd w r s z.k z.bad d z.odd z.ends) : Calls Tryz.prog 47 #[.pointer (some ⟨r,0,none⟩)] w (ArrPost V s d z w r) := by
 have hrB : r < w.heap.size := Blk.lt hR0;have HW := Lib.hid hW;have HV := Lib.hid hV;clear hW hV;obtain ⟨c0,c1,c2,c3,c4,c5⟩ := hR0.cs;obtain ⟨f1,f2,f3,f4,f5⟩ := hR0.fs;obtain ⟨i0,hi,hi0,hi1,hi2⟩ := info_parts Tryz.info34;go_enter Tryz.func47,Tryz.ntmps47;go_wp2_with fail;refine wp_gen (fun wr => AS w wr r w.heap.size (w.heap.size + 1) s d [] (.slice none 0 0) [] ⟨z.k + 1,z.bad,z.odd,z.ends⟩) ?_ ?_
 · refine ⟨?_,?_,?_,?_,?_,?_,Nat.le_refl _,by omega,hrB⟩
   · exact Blk.alloc (Blk.newAt _ 34 vZero _ (by simp)) _
   · exact Blk.newAt _ 34 (vArr (.slice none 0 0)) _ (by simp)
   · exact World.ownsRow_nil _ _ _ _
   · unfold KRep;rfl
   · exact Blk.alloc (Blk.alloc (Rd.at_ hR0 (z.k + 1) (by go_num)) _) _
   exact only_alloc (only_alloc (only_set (only_refl _ _) _ _) _) _
 obtain ⟨b3,hb3⟩ : ∃ b3,b3 = w.heap.size + 1 := ⟨_,rfl⟩;obtain ⟨b2,hb2⟩ : ∃ b2,b2 = w.heap.size := ⟨_,rfl⟩;rw [← hb3,← hb2];clear hb3 hb2 c0 c1 c2 c3 c4 c5 f1 f2 f3 f4 f5 hR0;intro w0 hS0
 go_loopg [] (s.length + 2 - (z.k + 1)) (fun g wr => ∃ l v xs y,g = (if y.bad = 0 then s.length + 2 - y.k else 0) ∧ z.k + 1 ≤ y.k ∧ y.k ≤ s.length ∧ l.length ≤ y.k + (if y.bad = 0 then 0 else 1) ∧ AS w wr r b2 b3 s d l v xs y ∧
  Hid (∀ l' y',AOut V s d y l' y' → AOut V s d ⟨z.k + 1,z.bad,z.odd,z.ends⟩ (l ++ l') y'))
 case atStart => exact ⟨[],_,[],⟨z.k + 1,z.bad,z.odd,z.ends⟩,by simp only [hzb,if_true],Nat.le_refl _,by simp only;omega,by simp,hS0,Lib.hid (fun l' y' hh => hh)⟩
 case round =>
  obtain ⟨l,v,xs,y,hg,hy1,hy2,hll,hS,hcont⟩ := hrel;obtain ⟨vp,va,vb,rfl⟩ := ownsRow_slice hS.own;have hg := Lib.hid hg;rename_i hg0;clear hg0 hS0;obtain ⟨c0,c1,c2,c3,c4,c5⟩ := hS.rd.cs;obtain ⟨f1,f2,f3,f4,f5⟩ := hS.rd.fs;obtain ⟨z0,z1,z2,z3,z4,z5,z6⟩ := res_cells hS.hz rfl;obtain ⟨a0,a1,a2,a3,a4,a5,a6⟩ := arr_cells hS.ha;have y0 := hS.hz.frozen 0;have y1 := hS.hz.frozen 1;have y2 := hS.hz.frozen 2;have y3 := hS.hz.frozen 3;have y4 := hS.hz.frozen 4;have y5 := hS.hz.frozen 5;have y6 := hS.hz.frozen 6;have x6 := hS.ha.frozen 6;have l1 := Blk.lt hS.hz;by_cases hyb : y.bad = 0
  · have tb : ((y.bad : Int) == 0) = true := by rw [beq_iff_eq];omega
    go_wp2_with fail;refine (pass_any r s y.k y.bad d y.odd y.ends wr hy2 hs hS.rd).mono ?_;rintro e w1 ⟨rfl,hA,hO⟩;obtain ⟨⟨k1,o1⟩,ha1⟩ : ∃ a,a = skipAt s y.k y.odd := ⟨_,rfl⟩;have hk1 : k1 ≤ s.length := by have := skipAt_le (o := y.odd) hy2;rw [← ha1] at this;exact this
    have hyk : y.k ≤ k1 := by have := congrArg Prod.fst ha1;unfold skipAt at this;simp only at this;omega
    have Ha1 := Lib.hid ha1;have hS1 : AS w w1 r b2 b3 s d l (.slice vp va vb) xs ⟨k1,y.bad,o1,y.ends⟩ := hS.call hO (by unfold skipAt at ha1;injection ha1 with e1 e2;simp only;rw [e1,e2];exact hA);clear hA hO ha1;clear c0 c1 c2 c3 c4 c5 f1 f2 f3 f4 f5 z0 z1 z2 z3 z4 z5 z6 a0 a1 a2 a3 a4 a5 a6 y0 y1 y2 y3 y4 y5 y6 x6 l1;clear hS;go_wp2_with fail;refine (is_any r s [93] k1 y.bad d o1 y.ends w1 hk1 hs (by simp) hS1.rd).mono ?_;rintro e w2 ⟨rfl,nn,rfl⟩;have hS2 := hS1.drewN nn;clear hS1;generalize w1.drewN nn = w2 at hS2 ⊢;obtain ⟨c0,c1,c2,c3,c4,c5⟩ := hS2.rd.cs;obtain ⟨f1,f2,f3,f4,f5⟩ := hS2.rd.fs;obtain ⟨z0,z1,z2,z3,z4,z5,z6⟩ := res_cells hS2.hz rfl;obtain ⟨a0,a1,a2,a3,a4,a5,a6⟩ := arr_cells hS2.ha;have y0 := hS2.hz.frozen 0;have y1 := hS2.hz.frozen 1;have y2 := hS2.hz.frozen 2;have y3 := hS2.hz.frozen 3;have y4 := hS2.hz.frozen 4;have y5 := hS2.hz.frozen 5;have y6 := hS2.hz.frozen 6;have x6 := hS2.ha.frozen 6;have l1 := Blk.lt hS2.hz;simp only at c1 c2 c4 c5
    cases hc : ([93] : List UInt8).isPrefixOf (s.drop k1) with
    | true =>
      have hlt : k1 < s.length := by
       rcases Nat.lt_or_ge k1 s.length with h | h
       · exact h
       rw [List.drop_eq_nil_of_le h] at hc;cases hc
      have HA : AOut V s d y [] ⟨k1 + 1,0,o1,y.ends⟩ := .close hyb Ha1.out hc;have hS3 : AS w (w2.setCell ⟨r,1,none⟩ (.int .i64 ((k1 : Int) + 1))) r b2 b3 s d l (.slice vp va vb) xs ⟨k1 + 1,0,o1,y.ends⟩ := hS2.call (only_set (only_refl _ _) 1 _) (by have := Rd.at_ hS2.rd (k1 + 1) (v := .int .i64 ((k1 : Int) + 1)) (by go_num);rw [show y.bad = 0 from hyb] at this;exact this);have nb2 : ¬ b3 = r := by have := hS2.h0;have := hS2.h1;have := hS2.hr;omega
      have nb3 : ¬ b2 = r := by have := hS2.h0;have := hS2.h1;have := hS2.hr;omega
      have nb4 : ¬ r = b3 := by have := hS2.h0;have := hS2.h1;have := hS2.hr;omega
      have nb5 : ¬ r = b2 := by have := hS2.h0;have := hS2.h1;have := hS2.hr;omega
      go_wp2_with fail;refine bodyPost_ret (v := .agg (vArr (.slice vp va vb))) (by simp [results,Tryz.results47,go_sem,vArr,S,l1,z0,z1,z2,z3,z4,z5,z6,y0,y1,y2,y3,y4,y5,y6,nb2,nb3,nb4,nb5]) rfl ?_;have hres := hcont.out _ _ HA;rw [List.append_nil] at hres;exact ⟨l,_,xs,_,rfl,hres,by simp only;omega,by simp only;omega,hS3.done (by repeat first | with_reducible exact only_refl _ _ | with_reducible refine only_set ?_ _ _)⟩
    | false =>
      have Hc := Lib.hid hc;clear hc
      cases hye : y.ends with
      | true =>
        rw [hye] at c5;go_wp2_with fail;refine region_tailq 17 (by kernel_rfl) (by kernel_rfl) ?_;intro w3 e3;have hS3 : AS w w3 r b2 b3 s d l (.slice vp va vb) xs ⟨k1,y.bad,o1,y.ends⟩ := by rw [e3];first | exact hS2.drew | exact (hS2.drewN _).drew
        clear e3 hS2;clear c0 c1 c2 c3 c4 c5 f1 f2 f3 f4 f5 z0 z1 z2 z3 z4 z5 z6 a0 a1 a2 a3 a4 a5 a6 y0 y1 y2 y3 y4 y5 y6 x6 l1;obtain ⟨c0,c1,c2,c3,c4,c5⟩ := hS3.rd.cs;obtain ⟨f1,f2,f3,f4,f5⟩ := hS3.rd.fs;obtain ⟨z0,z1,z2,z3,z4,z5,z6⟩ := res_cells hS3.hz rfl;obtain ⟨a0,a1,a2,a3,a4,a5,a6⟩ := arr_cells hS3.ha;have y0 := hS3.hz.frozen 0;have y1 := hS3.hz.frozen 1;have y2 := hS3.hz.frozen 2;have y3 := hS3.hz.frozen 3;have y4 := hS3.hz.frozen 4;have y5 := hS3.hz.frozen 5;have y6 := hS3.hz.frozen 6;have x6 := hS3.ha.frozen 6;have l1 := Blk.lt hS3.hz;simp only at c1 c2 c4 c5;rw [hye] at c5;simp only [List.take_succ_cons,List.take_zero,List.drop_succ_cons,List.drop_zero]
        repeat (go_big_quiet_step (fail))
        refine wpQuiet_nil ?_;go_wp2_with fail;have hE : (y.ends || decide (s.length ≤ k1)) = true := by simp [hye]
        refine wp_gen (fun wx => AS w wx r b2 b3 s d l (.slice vp va vb) xs ⟨k1,0,o1,y.ends || decide (s.length ≤ k1)⟩) (hS3.call (only_set (only_refl _ _) 5 _) (by have := Rd.ends_ hS3.rd true rfl;rw [show y.bad = 0 from hyb] at this;rw [hE];exact this)) ?_;clear c0 c1 c2 c3 c4 c5 f1 f2 f3 f4 f5 z0 z1 z2 z3 z4 z5 z6 a0 a1 a2 a3 a4 a5 a6 y0 y1 y2 y3 y4 y5 y6 x6 l1;clear hS3;intro w4 hS4;obtain ⟨a0,a1,a2,a3,a4,a5,a6⟩ := arr_cells hS4.ha;have hcall := HV.out r d ⟨k1,0,o1,y.ends || decide (s.length ≤ k1)⟩ w4.drew hk1 (by simp only;omega) hd hr0 (since_only HW.out hS4.drew.oo hr0) hS4.drew.rd
        have hcall2 : Calls Tryz.prog 20 #[.pointer (some ⟨r,0,none⟩)] w4.drew fun e w5 => ∃ (u : SVal) (q0 q1 q2 q3 q4 q5 q6 : Value) (y' : Z),e = .returned (.agg #[q0,q1,q2,q3,q4,q5,q6]) ∧ V d ⟨k1,0,o1,y.ends || decide (s.length ≤ k1)⟩ u y' ∧ VRep w5 (fun i => w4.heap.size ≤ i) u [q0,q1,q2,q3,q4,q5,q6] ∧ k1 ≤ y'.k ∧ y'.k ≤ s.length ∧ (y'.bad = 0 → k1 < y'.k) ∧
         Rd w5 r s y'.k y'.bad d y'.odd y'.ends ∧ Only w4 w5 r ∧ (∀ u ∈ [q0,q1,q2,q3,q4,q5,q6],u.oneCell' = true) ∧ AS w w5 r b2 b3 s d l (.slice vp va vb) xs y' ∧ w5.cell? ⟨b3,6,none⟩ = some (.slice vp va vb) ∧ (∀ o : Obj,b3 + 1 ≤ (w5.alloc o).heap.size) ∧ (∀ o : Obj,(w5.alloc o).cell? ⟨b3,6,none⟩ = some (.slice vp va vb)) := by
         refine hcall.mono ?_;rintro e w5 ⟨u,cs,y',rfl,hVu,hRep,hk',hk'',hprog,hR5,hO5⟩;obtain ⟨q0,q1,q2,q3,q4,q5,q6,rfl⟩ := seven hRep;have hS6 := hS4.drew.call hO5 hR5;exact ⟨u,q0,q1,q2,q3,q4,q5,q6,y',rfl,hVu,hRep,hk',hk'',hprog,hR5,only_trans (only_drew (only_refl _ _)) hO5,VRep.one _ _ hRep,hS6,(arr_cells hS6.ha).2.2.2.2.2.2,fun o => own_base hS6,fun o => (arr_cells (Blk.alloc hS6.ha o)).2.2.2.2.2.2⟩
        clear hcall;have hmax : l.length + 1 ≤ maxLen := by rw [if_pos hyb] at hll;unfold maxLen;omega
        have hbyt : (l.length + 1) * 96 ≤ 140737488355328 := by rw [if_pos hyb] at hll;omega
        go_region_law (first | (go_simp;go_at_call 20;refine hcall2.mono ?_;rintro e w5 ⟨u,q0,q1,q2,q3,q4,q5,q6,y',rfl,hVu,hRep,hk',hk'',hprog,hR5,hO5,hone,hS6,a6',hbase6,a6b⟩;dsimp only) | (refine step_append_lies _ rfl (.tmp 49) (.tmp 52) 32 rfl (b3 + 1) 34 i0 (.agg vZero) 7 96 Tryz.underlying32 hi hi0 hi1 hi2 rfl (by decide) (.slice vp va vb) l.length xs (by simp [Act.eval,Act.put]) (World.ownsRow.alloc hS6.own _) ⟨_,0,none⟩ 1 1 [q0,q1,q2,q3,q4,q5,q6] (by simp [Act.eval,Act.put]) rfl (news_new rfl) hone (by decide) hmax hbyt (hbase6 _) _ rfl ?_;intro g cap w6 hown6 hgrow hat hlt6;have hb6 := Blk.grown (Blk.alloc hS6.ha _) hgrow (fun e => by have := hS6.own_ge _ e.symm;omega);have k6 := (arr_cells hb6).2.2.2.2.2.2;have kf6 := hb6.frozen 6))
        all_goals
         go_wp2_with fail
         go_roundg (if y'.bad = 0 then s.length + 2 - y'.k else 0)
         case measure =>
          have h1 := hg.out;rw [if_pos hyb] at h1;by_cases h2 : y'.bad = 0
          · have := hprog h2;rw [if_pos h2];omega
          rw [if_neg h2];omega
         case rel =>
          refine ⟨l ++ [u],_,xs ++ [q0,q1,q2,q3,q4,q5,q6],y',rfl,by omega,hk'',?_,AS.elem hS4 hO5 hR5 hRep hown6 hgrow hat,Lib.hid (fun l' y'' hh => by rw [List.append_assoc];exact hcont.out _ _ (AOut.elem hyb Ha1.out Hc.out hVu hh))⟩;rw [if_pos hyb] at hll;by_cases h2 : y'.bad = 0
          · have := hprog h2;rw [if_pos h2];simp;omega
          rw [if_neg h2];simp;omega
      | false =>
        by_cases hge : s.length ≤ k1
        · have tge : decide ((s.length : Int) ≤ (k1 : Int)) = true := by rw [decide_eq_true_eq];omega
          rw [hye] at c5;go_wp2_with fail;refine region_tailq 17 (by kernel_rfl) (by kernel_rfl) ?_;intro w3 e3;have hS3 : AS w w3 r b2 b3 s d l (.slice vp va vb) xs ⟨k1,y.bad,o1,y.ends⟩ := by rw [e3];first | exact hS2.drew | exact (hS2.drewN _).drew
          clear e3 hS2;clear c0 c1 c2 c3 c4 c5 f1 f2 f3 f4 f5 z0 z1 z2 z3 z4 z5 z6 a0 a1 a2 a3 a4 a5 a6 y0 y1 y2 y3 y4 y5 y6 x6 l1;obtain ⟨c0,c1,c2,c3,c4,c5⟩ := hS3.rd.cs;obtain ⟨f1,f2,f3,f4,f5⟩ := hS3.rd.fs;obtain ⟨z0,z1,z2,z3,z4,z5,z6⟩ := res_cells hS3.hz rfl;obtain ⟨a0,a1,a2,a3,a4,a5,a6⟩ := arr_cells hS3.ha;have y0 := hS3.hz.frozen 0;have y1 := hS3.hz.frozen 1;have y2 := hS3.hz.frozen 2;have y3 := hS3.hz.frozen 3;have y4 := hS3.hz.frozen 4;have y5 := hS3.hz.frozen 5;have y6 := hS3.hz.frozen 6;have x6 := hS3.ha.frozen 6;have l1 := Blk.lt hS3.hz;simp only at c1 c2 c4 c5;rw [hye] at c5;simp only [List.take_succ_cons,List.take_zero,List.drop_succ_cons,List.drop_zero]
          repeat (go_big_quiet_step (fail))
          refine wpQuiet_nil ?_;go_wp2_with fail;have hE : (y.ends || decide (s.length ≤ k1)) = true := by simp [hye,hge]
          refine wp_gen (fun wx => AS w wx r b2 b3 s d l (.slice vp va vb) xs ⟨k1,0,o1,y.ends || decide (s.length ≤ k1)⟩) (hS3.call (only_set (only_refl _ _) 5 _) (by have := Rd.ends_ hS3.rd true rfl;rw [show y.bad = 0 from hyb] at this;rw [hE];exact this)) ?_;clear c0 c1 c2 c3 c4 c5 f1 f2 f3 f4 f5 z0 z1 z2 z3 z4 z5 z6 a0 a1 a2 a3 a4 a5 a6 y0 y1 y2 y3 y4 y5 y6 x6 l1;clear hS3;intro w4 hS4;obtain ⟨a0,a1,a2,a3,a4,a5,a6⟩ := arr_cells hS4.ha;have hcall := HV.out r d ⟨k1,0,o1,y.ends || decide (s.length ≤ k1)⟩ w4.drew hk1 (by simp only;omega) hd hr0 (since_only HW.out hS4.drew.oo hr0) hS4.drew.rd
          have hcall2 : Calls Tryz.prog 20 #[.pointer (some ⟨r,0,none⟩)] w4.drew fun e w5 => ∃ (u : SVal) (q0 q1 q2 q3 q4 q5 q6 : Value) (y' : Z),e = .returned (.agg #[q0,q1,q2,q3,q4,q5,q6]) ∧ V d ⟨k1,0,o1,y.ends || decide (s.length ≤ k1)⟩ u y' ∧ VRep w5 (fun i => w4.heap.size ≤ i) u [q0,q1,q2,q3,q4,q5,q6] ∧ k1 ≤ y'.k ∧ y'.k ≤ s.length ∧ (y'.bad = 0 → k1 < y'.k) ∧
           Rd w5 r s y'.k y'.bad d y'.odd y'.ends ∧ Only w4 w5 r ∧ (∀ u ∈ [q0,q1,q2,q3,q4,q5,q6],u.oneCell' = true) ∧ AS w w5 r b2 b3 s d l (.slice vp va vb) xs y' ∧ w5.cell? ⟨b3,6,none⟩ = some (.slice vp va vb) ∧ (∀ o : Obj,b3 + 1 ≤ (w5.alloc o).heap.size) ∧ (∀ o : Obj,(w5.alloc o).cell? ⟨b3,6,none⟩ = some (.slice vp va vb)) := by
           refine hcall.mono ?_;rintro e w5 ⟨u,cs,y',rfl,hVu,hRep,hk',hk'',hprog,hR5,hO5⟩;obtain ⟨q0,q1,q2,q3,q4,q5,q6,rfl⟩ := seven hRep;have hS6 := hS4.drew.call hO5 hR5;exact ⟨u,q0,q1,q2,q3,q4,q5,q6,y',rfl,hVu,hRep,hk',hk'',hprog,hR5,only_trans (only_drew (only_refl _ _)) hO5,VRep.one _ _ hRep,hS6,(arr_cells hS6.ha).2.2.2.2.2.2,fun o => own_base hS6,fun o => (arr_cells (Blk.alloc hS6.ha o)).2.2.2.2.2.2⟩
          clear hcall;have hmax : l.length + 1 ≤ maxLen := by rw [if_pos hyb] at hll;unfold maxLen;omega
          have hbyt : (l.length + 1) * 96 ≤ 140737488355328 := by rw [if_pos hyb] at hll;omega
          go_region_law (first | (go_simp;go_at_call 20;refine hcall2.mono ?_;rintro e w5 ⟨u,q0,q1,q2,q3,q4,q5,q6,y',rfl,hVu,hRep,hk',hk'',hprog,hR5,hO5,hone,hS6,a6',hbase6,a6b⟩;dsimp only) | (refine step_append_lies _ rfl (.tmp 49) (.tmp 52) 32 rfl (b3 + 1) 34 i0 (.agg vZero) 7 96 Tryz.underlying32 hi hi0 hi1 hi2 rfl (by decide) (.slice vp va vb) l.length xs (by simp [Act.eval,Act.put]) (World.ownsRow.alloc hS6.own _) ⟨_,0,none⟩ 1 1 [q0,q1,q2,q3,q4,q5,q6] (by simp [Act.eval,Act.put]) rfl (news_new rfl) hone (by decide) hmax hbyt (hbase6 _) _ rfl ?_;intro g cap w6 hown6 hgrow hat hlt6;have hb6 := Blk.grown (Blk.alloc hS6.ha _) hgrow (fun e => by have := hS6.own_ge _ e.symm;omega);have k6 := (arr_cells hb6).2.2.2.2.2.2;have kf6 := hb6.frozen 6))
          all_goals
           go_wp2_with fail
           go_roundg (if y'.bad = 0 then s.length + 2 - y'.k else 0)
           case measure =>
            have h1 := hg.out;rw [if_pos hyb] at h1;by_cases h2 : y'.bad = 0
            · have := hprog h2;rw [if_pos h2];omega
            rw [if_neg h2];omega
           case rel =>
            refine ⟨l ++ [u],_,xs ++ [q0,q1,q2,q3,q4,q5,q6],y',rfl,by omega,hk'',?_,AS.elem hS4 hO5 hR5 hRep hown6 hgrow hat,Lib.hid (fun l' y'' hh => by rw [List.append_assoc];exact hcont.out _ _ (AOut.elem hyb Ha1.out Hc.out hVu hh))⟩;rw [if_pos hyb] at hll;by_cases h2 : y'.bad = 0
            · have := hprog h2;rw [if_pos h2];simp;omega
            rw [if_neg h2];simp;omega
        have tge : decide ((s.length : Int) ≤ (k1 : Int)) = false := by rw [decide_eq_false_iff_not];omega
        rw [hye] at c5;go_wp2_with fail;refine region_tailq 17 (by kernel_rfl) (by kernel_rfl) ?_;intro w3 e3;have hS3 : AS w w3 r b2 b3 s d l (.slice vp va vb) xs ⟨k1,y.bad,o1,y.ends⟩ := by rw [e3];first | exact hS2.drew | exact (hS2.drewN _).drew
        clear e3 hS2;clear c0 c1 c2 c3 c4 c5 f1 f2 f3 f4 f5 z0 z1 z2 z3 z4 z5 z6 a0 a1 a2 a3 a4 a5 a6 y0 y1 y2 y3 y4 y5 y6 x6 l1;obtain ⟨c0,c1,c2,c3,c4,c5⟩ := hS3.rd.cs;obtain ⟨f1,f2,f3,f4,f5⟩ := hS3.rd.fs;obtain ⟨z0,z1,z2,z3,z4,z5,z6⟩ := res_cells hS3.hz rfl;obtain ⟨a0,a1,a2,a3,a4,a5,a6⟩ := arr_cells hS3.ha;have y0 := hS3.hz.frozen 0;have y1 := hS3.hz.frozen 1;have y2 := hS3.hz.frozen 2;have y3 := hS3.hz.frozen 3;have y4 := hS3.hz.frozen 4;have y5 := hS3.hz.frozen 5;have y6 := hS3.hz.frozen 6;have x6 := hS3.ha.frozen 6;have l1 := Blk.lt hS3.hz;simp only at c1 c2 c4 c5;rw [hye] at c5;simp only [List.take_succ_cons,List.take_zero,List.drop_succ_cons,List.drop_zero]
        repeat (go_big_quiet_step (fail))
        refine wpQuiet_nil ?_;go_wp2_with fail;have hE : (y.ends || decide (s.length ≤ k1)) = false := by simp [hye,hge]
        refine wp_gen (fun wx => AS w wx r b2 b3 s d l (.slice vp va vb) xs ⟨k1,0,o1,y.ends || decide (s.length ≤ k1)⟩) (hS3.call (only_set (only_refl _ _) 5 _) (by have := Rd.ends_ hS3.rd false rfl;rw [show y.bad = 0 from hyb] at this;rw [hE];exact this)) ?_;clear c0 c1 c2 c3 c4 c5 f1 f2 f3 f4 f5 z0 z1 z2 z3 z4 z5 z6 a0 a1 a2 a3 a4 a5 a6 y0 y1 y2 y3 y4 y5 y6 x6 l1;clear hS3;intro w4 hS4;obtain ⟨a0,a1,a2,a3,a4,a5,a6⟩ := arr_cells hS4.ha;have hcall := HV.out r d ⟨k1,0,o1,y.ends || decide (s.length ≤ k1)⟩ w4.drew hk1 (by simp only;omega) hd hr0 (since_only HW.out hS4.drew.oo hr0) hS4.drew.rd
        have hcall2 : Calls Tryz.prog 20 #[.pointer (some ⟨r,0,none⟩)] w4.drew fun e w5 => ∃ (u : SVal) (q0 q1 q2 q3 q4 q5 q6 : Value) (y' : Z),e = .returned (.agg #[q0,q1,q2,q3,q4,q5,q6]) ∧ V d ⟨k1,0,o1,y.ends || decide (s.length ≤ k1)⟩ u y' ∧ VRep w5 (fun i => w4.heap.size ≤ i) u [q0,q1,q2,q3,q4,q5,q6] ∧ k1 ≤ y'.k ∧ y'.k ≤ s.length ∧ (y'.bad = 0 → k1 < y'.k) ∧
         Rd w5 r s y'.k y'.bad d y'.odd y'.ends ∧ Only w4 w5 r ∧ (∀ u ∈ [q0,q1,q2,q3,q4,q5,q6],u.oneCell' = true) ∧ AS w w5 r b2 b3 s d l (.slice vp va vb) xs y' ∧ w5.cell? ⟨b3,6,none⟩ = some (.slice vp va vb) ∧ (∀ o : Obj,b3 + 1 ≤ (w5.alloc o).heap.size) ∧ (∀ o : Obj,(w5.alloc o).cell? ⟨b3,6,none⟩ = some (.slice vp va vb)) := by
         refine hcall.mono ?_;rintro e w5 ⟨u,cs,y',rfl,hVu,hRep,hk',hk'',hprog,hR5,hO5⟩;obtain ⟨q0,q1,q2,q3,q4,q5,q6,rfl⟩ := seven hRep;have hS6 := hS4.drew.call hO5 hR5;exact ⟨u,q0,q1,q2,q3,q4,q5,q6,y',rfl,hVu,hRep,hk',hk'',hprog,hR5,only_trans (only_drew (only_refl _ _)) hO5,VRep.one _ _ hRep,hS6,(arr_cells hS6.ha).2.2.2.2.2.2,fun o => own_base hS6,fun o => (arr_cells (Blk.alloc hS6.ha o)).2.2.2.2.2.2⟩
        clear hcall;have hmax : l.length + 1 ≤ maxLen := by rw [if_pos hyb] at hll;unfold maxLen;omega
        have hbyt : (l.length + 1) * 96 ≤ 140737488355328 := by rw [if_pos hyb] at hll;omega
        go_region_law (first | (go_simp;go_at_call 20;refine hcall2.mono ?_;rintro e w5 ⟨u,q0,q1,q2,q3,q4,q5,q6,y',rfl,hVu,hRep,hk',hk'',hprog,hR5,hO5,hone,hS6,a6',hbase6,a6b⟩;dsimp only) | (refine step_append_lies _ rfl (.tmp 49) (.tmp 52) 32 rfl (b3 + 1) 34 i0 (.agg vZero) 7 96 Tryz.underlying32 hi hi0 hi1 hi2 rfl (by decide) (.slice vp va vb) l.length xs (by simp [Act.eval,Act.put]) (World.ownsRow.alloc hS6.own _) ⟨_,0,none⟩ 1 1 [q0,q1,q2,q3,q4,q5,q6] (by simp [Act.eval,Act.put]) rfl (news_new rfl) hone (by decide) hmax hbyt (hbase6 _) _ rfl ?_;intro g cap w6 hown6 hgrow hat hlt6;have hb6 := Blk.grown (Blk.alloc hS6.ha _) hgrow (fun e => by have := hS6.own_ge _ e.symm;omega);have k6 := (arr_cells hb6).2.2.2.2.2.2;have kf6 := hb6.frozen 6))
        all_goals
         go_wp2_with fail
         go_roundg (if y'.bad = 0 then s.length + 2 - y'.k else 0)
         case measure =>
          have h1 := hg.out;rw [if_pos hyb] at h1;by_cases h2 : y'.bad = 0
          · have := hprog h2;rw [if_pos h2];omega
          rw [if_neg h2];omega
         case rel =>
          refine ⟨l ++ [u],_,xs ++ [q0,q1,q2,q3,q4,q5,q6],y',rfl,by omega,hk'',?_,AS.elem hS4 hO5 hR5 hRep hown6 hgrow hat,Lib.hid (fun l' y'' hh => by rw [List.append_assoc];exact hcont.out _ _ (AOut.elem hyb Ha1.out Hc.out hVu hh))⟩;rw [if_pos hyb] at hll;by_cases h2 : y'.bad = 0
          · have := hprog h2;rw [if_pos h2];simp;omega
          rw [if_neg h2];simp;omega
  have tb : ((y.bad : Int) == 0) = false := by rw [beq_eq_false_iff_ne];omega
  have HA : AOut V s d y [] y := .stop hyb;go_wp2_with fail;refine bodyPost_ret (v := .agg (vArr (.slice vp va vb))) (by simp [results,Tryz.results47,go_sem,vArr,S,l1,z0,z1,z2,z3,z4,z5,z6,y0,y1,y2,y3,y4,y5,y6]) rfl ?_;have hres := hcont.out _ _ HA;rw [List.append_nil] at hres;exact ⟨l,_,xs,_,rfl,hres,by omega,by omega,hS.done (by repeat first | with_reducible exact only_refl _ _ | with_reducible refine only_set ?_ _ _)⟩
end Go.Proofs.YtcpijmbdibgdmaaGreatDoor
