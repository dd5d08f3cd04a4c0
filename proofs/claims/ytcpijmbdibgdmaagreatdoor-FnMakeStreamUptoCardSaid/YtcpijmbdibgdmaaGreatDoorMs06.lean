/-
  spec.reader.reference: what stands behind an integer, if it is the rest of a reference.
-/
import Derived.Test.YtcpijmbdibgdmaaGreatDoorMs03
import Derived.Test.YtcpijmbdibgdmaaGreatDoorMs05
set_option linter.all false
set_option maxHeartbeats 16000000
set_option maxRecDepth 100000
namespace Go.Proofs.YtcpijmbdibgdmaaGreatDoor
open Go.RowKit
theorem calls_gen {P : Program} {f : FuncId} {args : Array Value} {R : Ending → World → Prop} {w : World} (C : World → Prop) (hC : C w) (h : ∀ w,C w → Calls P f args w R) : Calls P f args w R := h w hC
attribute [local go_sem] ba_get store_flt
def skipAt (s : List UInt8) (k : Nat) (o : Bool) : Nat × Bool := (k + (passM false (s.drop k) o).1,(passM false (s.drop k) o).2)
def wordAt (s : List UInt8) (k : Nat) (o : Bool) : List UInt8 × Nat × Bool :=
 ((s.drop k).take (wordR (s.drop k) o).1,k + (wordR (s.drop k) o).1,(wordR (s.drop k) o).2 || shutAt (s.drop (k + (wordR (s.drop k) o).1)))
theorem passM_le : ∀ (c : Bool) (l : List UInt8) (o : Bool),(passM c l o).1 ≤ l.length
 | c,[],o => by cases c <;> simp [passM]
 | true,b :: l,o => by
   rw [passM];have h1 := passM_le false l o;have h2 := passM_le true l (o || !plainB b);split <;> simp <;> omega
 | false,b :: l,o => by
   rw [passM];have h1 := passM_le false l o;have h2 := passM_le true l o;split
   · simp;omega
   split <;> simp <;> omega
theorem skipAt_le {s : List UInt8} {k : Nat} {o : Bool} (h : k ≤ s.length) : (skipAt s k o).1 ≤ s.length := by
 have := passM_le false (s.drop k) o;rw [List.length_drop] at this;unfold skipAt;simp only;omega
theorem wordAt_le {s : List UInt8} {k : Nat} {o : Bool} (h : k ≤ s.length) : (wordAt s k o).2.1 ≤ s.length := by
 have := wordR_le (s.drop k) o;rw [List.length_drop] at this;unfold wordAt;simp only;omega
theorem wordAt_len {s : List UInt8} {k : Nat} {o : Bool} : (wordAt s k o).1.length ≤ s.length := by
 unfold wordAt;simp only [List.length_take,List.length_drop];omega
inductive RefVal where
 | int
 | ref (g : Int)
 | zero
def vRef (n g : Int) : Array Value := #[.int .i64 8,.int .i64 n,.int .i64 g,.float .f64 0,S [],.slice none 0 0,.slice none 0 0]
def RefVal.cells (n : Int) : RefVal → Array Value
 | .int => vInt n
 | .ref g => vRef n g
 | .zero => vZero
def firstDigit : List UInt8 → Bool
 | b :: _ => digitB b
 | [] => false
def firstR : List UInt8 → Bool
 | b :: _ => b.toNat == 82
 | [] => false
def refM (s : List UInt8) (k : Nat) (odd : Bool) (n : Int) (t : List UInt8) : RefVal × Nat × Bool :=
 let a1 := skipAt s k odd;let w1 := wordAt s a1.1 a1.2
 match numM w1.1 with
 | .refused => (.int,k,odd || w1.2.2)
 | num =>
   let a2 := skipAt s w1.2.1 w1.2.2;let w2 := wordAt s a2.1 a2.2
   match num with
   | .int g =>
     if w2.1 = [82] ∧ firstDigit w1.1 = true ∧ firstDigit t = true then
      if n = 0 ∨ 65535 < g then (.zero,k,odd || w2.2.2)
      else (.ref g,w2.2.1,w2.2.2 || ((s.drop k).take (w2.2.1 - k)).any (fun b => b.toNat == 37))
     else (.int,k,odd || w2.2.2 || firstR w2.1)
   | _ => (.int,k,odd || w2.2.2 || firstR w2.1)
def RefPost (w : World) (r : Nat) (s : List UInt8) (bad deep : Nat) (ends : Bool) (n : Int) (fin : RefVal × Nat × Bool) (e : Ending) (w' : World) : Prop :=
 e = .returned (.agg (fin.1.cells n)) ∧ fin.2.1 ≤ s.length ∧ Rd w' r s fin.2.1 (match fin.1 with | .zero => (if bad = 0 then 2 else bad) | _ => bad) deep fin.2.2 ends ∧ Only w w' r
structure RS (w wo : World) (r b0 b1 b2 : Nat) (n : Int) (s : List UInt8) (k bad deep : Nat) (odd ends : Bool) (k2 : Nat) (odd2 : Bool) : Prop where
 bv : Blk wo b0 34 (vInt n)
 bz : Blk wo b1 34 vZero
 ra : Rd wo b2 s k2 bad deep odd2 ends
 rr : Rd wo r s k bad deep odd ends
 oo : Only w wo r
 h0 : w.heap.size ≤ b0
 h1 : b0 < b1
 h2 : b1 < b2
 hlr : r < w.heap.size
section
variable {w wo w1 : World} {r b0 b1 b2 : Nat} {n : Int} {s : List UInt8} {k bad deep : Nat} {odd ends : Bool} {k2 : Nat} {odd2 : Bool}
theorem RS.call (h : RS w wo r b0 b1 b2 n s k bad deep odd ends k2 odd2) {k3 : Nat} {odd3 : Bool} (ha : Rd w1 b2 s k3 bad deep odd3 ends) (ho : Only wo w1 b2) : RS w w1 r b0 b1 b2 n s k bad deep odd ends k3 odd3 := by
 have h0 := h.h0;have h1 := h.h1;have h2 := h.h2;have hr := h.hlr;refine ⟨Blk.grown h.bv ho ?_,Blk.grown h.bz ho ?_,ha,Blk.grown h.rr ho ?_,only_grown h.oo ho ?_,h0,h1,h2,hr⟩
 · intro e;injection e with e;omega
 · intro e;injection e with e;omega
 · intro e;injection e with e;omega
 intro q e;injection e with e;omega
theorem RS.below (h : RS w wo r b0 b1 b2 n s k bad deep odd ends k2 odd2) (hb : Below wo.heap.size wo w1) : RS w w1 r b0 b1 b2 n s k bad deep odd ends k2 odd2 :=
 ⟨Blk.below h.bv hb (Blk.lt h.bv),Blk.below h.bz hb (Blk.lt h.bz),Blk.below h.ra hb (Blk.lt h.ra),Blk.below h.rr hb (Blk.lt h.rr),only_below h.oo hb,h.h0,h.h1,h.h2,h.hlr⟩
theorem RS.alloc (h : RS w wo r b0 b1 b2 n s k bad deep odd ends k2 odd2) (o : Obj) : RS w (wo.alloc o) r b0 b1 b2 n s k bad deep odd ends k2 odd2 :=
 ⟨h.bv.alloc o,h.bz.alloc o,Blk.alloc h.ra o,Blk.alloc h.rr o,only_alloc h.oo o,h.h0,h.h1,h.h2,h.hlr⟩
theorem RS.odd_ (h : RS w wo r b0 b1 b2 n s k bad deep odd ends k2 odd2) (b : Bool) {v : Value} (hv : v = .bool b) : RS w (wo.setCell ⟨r,4,none⟩ v) r b0 b1 b2 n s k bad deep b ends k2 odd2 := by
 have h0 := h.h0;have h1 := h.h1;have h2 := h.h2;have hr := h.hlr;exact ⟨h.bv.far (by simp;omega) _,h.bz.far (by simp;omega) _,Blk.far h.ra (by simp;omega) _,Rd.odd_ h.rr b hv,only_set h.oo _ _,h0,h1,h2,hr⟩
theorem RS.aodd_ (h : RS w wo r b0 b1 b2 n s k bad deep odd ends k2 odd2) (b : Bool) {v : Value} (hv : v = .bool b) : RS w (wo.setCell ⟨b2,4,none⟩ v) r b0 b1 b2 n s k bad deep odd ends k2 b := by
 have h0 := h.h0;have h1 := h.h1;have h2 := h.h2;have hr := h.hlr;exact ⟨h.bv.far (by simp;omega) _,h.bz.far (by simp;omega) _,Rd.odd_ h.ra b hv,Blk.far h.rr (by simp;omega) _,only_setCell h.oo (.inr (by simp;omega)) _,h0,h1,h2,hr⟩
end
theorem vcells {w : World} {g : Nat} {n : Int} (h : Blk w g 34 (vInt n)) :
 w.cell? ⟨g,0,none⟩ = some (.int .i64 2) ∧ w.cell? ⟨g,1,none⟩ = some (.int .i64 n) ∧ w.cell? ⟨g,2,none⟩ = some (.int .i64 0) ∧ w.cell? ⟨g,3,none⟩ = some (.float .f64 0) ∧
 w.cell? ⟨g,4,none⟩ = some (S []) ∧ w.cell? ⟨g,5,none⟩ = some (.slice none 0 0) ∧ w.cell? ⟨g,6,none⟩ = some (.slice none 0 0) := ⟨h.cell 0,h.cell 1,h.cell 2,h.cell 3,h.cell 4,h.cell 5,h.cell 6⟩
theorem since_only {W0 w w' : World} {r : Nat} (h : Below W0.heap.size W0 w) (ho : Only w w' r) (hr : W0.heap.size ≤ r) : Below W0.heap.size W0 w' :=
 h.trans ⟨ho.os,ho.tape,ho.output,ho.size,fun i hi => ho.block i (Nat.lt_of_lt_of_le hi h.size) (fun e => by injection e with e;omega)⟩
def vGen (kd gv : Int) (x : Nat) : Array Value := #[.int .i64 kd,.int .i64 gv,.int .i64 0,.float .f64 x,S [],.slice none 0 0,.slice none 0 0]
theorem gcells {w : World} {g : Nat} {kd gv : Int} {x : Nat} (h : Blk w g 34 (vGen kd gv x)) : w.cell? ⟨g,0,none⟩ = some (.int .i64 kd) ∧ w.cell? ⟨g,1,none⟩ = some (.int .i64 gv) := ⟨h.cell 0,h.cell 1⟩
def refN (s : List UInt8) (k : Nat) (odd : Bool) (n : Int) (t x1 x2 : List UInt8) (k4 : Nat) (o4 : Bool) : NumOut → RefVal × Nat × Bool
 | .int g => if x2 = [82] ∧ firstDigit x1 = true ∧ firstDigit t = true then (if n = 0 ∨ 65535 < g then (.zero,k,odd || o4) else (.ref g,k4,o4 || ((s.drop k).take (k4 - k)).any (fun b => b.toNat == 37))) else (.int,k,odd || o4 || firstR x2)
 | _ => (.int,k,odd || o4 || firstR x2)
theorem refM_next {s : List UInt8} {k : Nat} {odd : Bool} {n : Int} {t : List UInt8} {k1 k2 k3 k4 : Nat} {o1 o2 o3 o4 : Bool} {x1 x2 : List UInt8} {nm : NumOut} (ha : (k1,o1) = skipAt s k odd) (hx : (x1,k2,o2) = wordAt s k1 o1)
 (hn : nm = numM x1) (hr : nm ≠ .refused) (hb : (k3,o3) = skipAt s k2 o2) (hy : (x2,k4,o4) = wordAt s k3 o3) :
 refM s k odd n t = refN s k odd n t x1 x2 k4 o4 nm := by
 unfold refM;simp only [← ha,← hx,← hn,← hb,← hy]
 cases nm with
 | refused => exact absurd rfl hr
 | open_ => rfl
 | real => rfl
 | int g => rfl
theorem le_k4 {s : List UInt8} {k k1 k2 k3 k4 : Nat} {o o1 o2 o3 o4 : Bool} {x1 x2 : List UInt8} (ha : (k1,o1) = skipAt s k o) (hx : (x1,k2,o2) = wordAt s k1 o1) (hb : (k3,o3) = skipAt s k2 o2) (hy : (x2,k4,o4) = wordAt s k3 o3) : k ≤ k4 := by
 unfold skipAt at ha hb;unfold wordAt at hx hy;simp only [Prod.mk.injEq] at ha hb hx hy;have := ha.1;have := hb.1;have := hx.2.1;have := hy.2.1;omega
theorem reference_any (pf : List UInt8 → Nat) (W0 : World) (hpf : PFSaid pf W0) (r : Nat) (s : List UInt8) (k bad deep : Nat) (odd ends : Bool) (n : Int) (t : List UInt8) (w : World)
 (ht : t ≠ []) (hk : k ≤ s.length) (hs : s.length ≤ 268435456) (hn : -2147483648 ≤ n ∧ n ≤ 2147483647) (hr0 : W0.heap.size ≤ r) (hW : Below W0.heap.size W0 w) (hR0 : Rd w r s k bad deep odd ends) :
 Calls Tryz.prog 76 #[.pointer (some ⟨r,0,none⟩),.agg (vInt n),S t] w (RefPost w r s bad deep ends n (refM s k odd n t)) := by
 obtain ⟨fin,hfin⟩ : ∃ fin,fin = refM s k odd n t := ⟨_,rfl⟩;rw [← hfin];have Hf := Lib.hid hfin;clear hfin;have Hpf := Lib.hid hpf;have HW := Lib.hid hW;have Ht := Lib.hid ht;clear hpf hW ht;have hrB : r < w.heap.size := Blk.lt hR0;obtain ⟨c0,c1,c2,c3,c4,c5⟩ := hR0.cs;unfold vInt;go_enter Tryz.func76,Tryz.ntmps76;go_wp2_with fail;refine calls_gen (fun wo => RS w wo r w.heap.size (w.heap.size + 1) (w.heap.size + 1 + 1) n s k bad deep odd ends k odd) ?_ ?_
 · refine ⟨((Blk.new w 34 (vInt n)).alloc _).alloc _,(Blk.newAt _ 34 vZero _ (by simp)).alloc _,Blk.newAt _ 54 _ _ (by simp),((Blk.alloc hR0 _).alloc _).alloc _,only_alloc (only_alloc (only_alloc (only_refl _ _) _) _) _,Nat.le_refl _,by omega,by omega,hrB⟩
 clear c0 c1 c2 c3 c4 c5 hR0;obtain ⟨b2,hb2⟩ : ∃ b2,b2 = w.heap.size + 1 + 1 := ⟨_,rfl⟩;obtain ⟨b1,hb1⟩ : ∃ b1,b1 = w.heap.size + 1 := ⟨_,rfl⟩;obtain ⟨b0,hb0⟩ : ∃ b0,b0 = w.heap.size := ⟨_,rfl⟩;rw [← hb1] at hb2;rw [← hb1,← hb2,← hb0];clear hb0 hb1 hb2;intro wo hS;refine (pass_any b2 s k bad deep odd ends wo hk hs hS.ra).mono ?_;rintro e w1 ⟨rfl,hA,hO⟩;have hS1 := hS.call hA hO;clear hS hA hO;obtain ⟨⟨k1,o1⟩,ha1⟩ : ∃ a,a = skipAt s k odd := ⟨_,rfl⟩;have hk1 : k1 ≤ s.length := by have := skipAt_le (o := odd) hk;rw [← ha1] at this;exact this
 have Ha1 := Lib.hid ha1;have hS : RS w w1 r b0 b1 b2 n s k bad deep odd ends k1 o1 := by injection ha1 with e1 e2;rw [e1,e2];exact hS1
 clear hS1 ha1;go_wp2_with fail;refine (word_any b2 s k1 bad deep o1 ends w1 hk1 hs hS.ra).mono ?_;rintro e w2 ⟨rfl,hA,hO⟩;have hS1 := hS.call hA hO;clear hS hA hO;obtain ⟨⟨x1,k2,o2⟩,hx1⟩ : ∃ a,a = wordAt s k1 o1 := ⟨_,rfl⟩;have hk2 : k2 ≤ s.length := by have := wordAt_le (o := o1) hk1;rw [← hx1] at this;exact this
 have hxl : x1.length ≤ s.length := by have := wordAt_len (s := s) (k := k1) (o := o1);rw [← hx1] at this;exact this
 have Hx1 := Lib.hid hx1;injection hx1 with e1 e2;injection e2 with e2 e3;rw [← e3,← e2] at hS1;rw [← e1];have hS := hS1;clear hS1 e1 e2 e3;go_wp2_with fail;refine (number_any pf W0 Hpf.out x1 w2 (by omega) (since_only HW.out hS.oo hr0)).mono ?_;rintro e w3 ⟨he,hB⟩;have hS1 := hS.below hB;clear hS hB;have hS := hS1;clear hS1;obtain ⟨nm,hnm⟩ : ∃ nm,nm = numM x1 := ⟨_,rfl⟩;have Hn := Lib.hid hnm;rw [← hnm] at he;clear hnm;by_cases hrf : nm = .refused
 · subst hrf;subst he;obtain ⟨c0,c1,c2,c3,c4,c5⟩ := hS.rr.cs;obtain ⟨f1,f2,f3,f4,f5⟩ := hS.rr.fs;obtain ⟨d0,d1,d2,d3,d4,d5⟩ := hS.ra.cs;obtain ⟨e1,e2,e3,e4,e5⟩ := hS.ra.fs;obtain ⟨v0,v1,v2,v3,v4,v5,v6⟩ := vcells hS.bv;obtain ⟨z0,z1,z2,z3,z4,z5,z6⟩ := res_cells hS.bz rfl;have y0 := hS.bz.frozen 0;have y1 := hS.bz.frozen 1;have y2 := hS.bz.frozen 2;have y3 := hS.bz.frozen 3;have y4 := hS.bz.frozen 4;have y5 := hS.bz.frozen 5;have y6 := hS.bz.frozen 6;have lr := Blk.lt hS.rr;have l0 := Blk.lt hS.bv;have l1 := Blk.lt hS.bz;have l2 := Blk.lt hS.ra;have q0 : ¬ r = b0 := by have := hS.h0;have := hS.h1;have := hS.h2;have := hS.hlr;omega
   have q0r : ¬ b0 = r := by have := hS.h0;have := hS.h1;have := hS.h2;have := hS.hlr;omega
   have q1 : ¬ r = b1 := by have := hS.h0;have := hS.h1;have := hS.h2;have := hS.hlr;omega
   have q1r : ¬ b1 = r := by have := hS.h0;have := hS.h1;have := hS.h2;have := hS.hlr;omega
   have q2 : ¬ r = b2 := by have := hS.h0;have := hS.h1;have := hS.h2;have := hS.hlr;omega
   have q2r : ¬ b2 = r := by have := hS.h0;have := hS.h1;have := hS.h2;have := hS.hlr;omega
   have q01 : ¬ b0 = b1 := by have := hS.h0;have := hS.h1;have := hS.h2;have := hS.hlr;omega
   have q10 : ¬ b1 = b0 := by have := hS.h0;have := hS.h1;have := hS.h2;have := hS.hlr;omega
   have q02 : ¬ b0 = b2 := by have := hS.h0;have := hS.h1;have := hS.h2;have := hS.hlr;omega
   have q20 : ¬ b2 = b0 := by have := hS.h0;have := hS.h1;have := hS.h2;have := hS.hlr;omega
   have q12 : ¬ b1 = b2 := by have := hS.h0;have := hS.h1;have := hS.h2;have := hS.hlr;omega
   have q21 : ¬ b2 = b1 := by have := hS.h0;have := hS.h1;have := hS.h2;have := hS.hlr;omega
   have E : Hid (fin = (.int,k,odd || o2)) := Lib.hid (by
    rw [Hf.out,refM]
    simp only [← Ha1.out,← Hx1.out,← Hn.out])
   unfold NumVal vZero
   cases odd with
   | true =>
     go_wp2_with fail;refine bodyPost_ret (v := .agg (vInt n)) (by simp [results,Tryz.results76,go_sem,vInt,vZero,vRef,l1,z0,z1,z2,z3,z4,z5,z6,y0]) rfl ?_;have hr1 := hS.h0;have hr2 := hS.h1;have hr3 := hS.hlr;unfold RefPost;rw [E.out];refine ⟨rfl,hk,?_,?_⟩
     · have h := (hS.odd_ (true) rfl).rr;unfold Rd at h ⊢
       repeat first | with_reducible refine Blk.alloc ?_ _ | with_reducible refine Blk.far ?_ (show ¬ r = b1 from q1) _
       exact h
     have h := (hS.odd_ (true) rfl).oo
     repeat first | with_reducible exact h | with_reducible refine only_alloc ?_ _ | with_reducible refine only_setCell ?_ (.inr (show w.heap.size ≤ b1 by omega)) _
   | false =>
     go_wp2_with fail;refine bodyPost_ret (v := .agg (vInt n)) (by simp [results,Tryz.results76,go_sem,vInt,vZero,vRef,l1,z0,z1,z2,z3,z4,z5,z6,y0]) rfl ?_;have hr1 := hS.h0;have hr2 := hS.h1;have hr3 := hS.hlr;unfold RefPost;rw [E.out];refine ⟨rfl,hk,?_,?_⟩
     · have h := (hS.odd_ (o2) rfl).rr;unfold Rd at h ⊢
       repeat first | with_reducible refine Blk.alloc ?_ _ | with_reducible refine Blk.far ?_ (show ¬ r = b1 from q1) _
       exact h
     have h := (hS.odd_ (o2) rfl).oo
     repeat first | with_reducible exact h | with_reducible refine only_alloc ?_ _ | with_reducible refine only_setCell ?_ (.inr (show w.heap.size ≤ b1 by omega)) _
 obtain ⟨kd,gv,xr,st,he2,hst,hcase⟩ : ∃ (kd gv : Int) (xr : Nat) (st : Int),NumVal pf x1 nm = .tuple #[.agg (vGen kd gv xr),.int .i64 st] ∧ st ≠ 1 ∧ Hid ((nm = .open_ ∧ st = 2) ∨ (nm = .real ∧ st = 0 ∧ kd = 3) ∨ (nm = .int gv ∧ st = 0 ∧ kd = 2)) := by
  cases nm with
  | refused => exact absurd rfl hrf
  | open_ => exact ⟨0,0,0,2,rfl,by decide,.inl ⟨rfl,rfl⟩⟩
  | real => exact ⟨3,0,pf x1,0,rfl,by decide,.inr (.inl ⟨rfl,rfl,rfl⟩)⟩
  | int g => exact ⟨2,g,0,0,rfl,by decide,.inr (.inr ⟨rfl,rfl,rfl⟩)⟩
 rw [he2] at he;subst he;have Hrf := Lib.hid hrf;clear he2 hrf;have ts : (st == 1) = false := by rw [beq_eq_false_iff_ne];exact hst
 unfold vGen;go_wp2_with fail;refine calls_gen (fun wo => RS w wo r b0 b1 b2 n s k bad deep odd ends k2 o2 ∧ Blk wo w3.heap.size 34 (vGen kd gv xr)) ?_ ?_
 · exact ⟨hS.alloc _,Blk.new _ _ _⟩
 have h23 : b2 < w3.heap.size := Blk.lt hS.ra;generalize w3.heap.size = b3 at h23 ⊢;clear hS;rintro w4 ⟨hS,hG⟩;refine (pass_any b2 s k2 bad deep o2 ends w4 hk2 hs hS.ra).mono ?_;rintro e w5 ⟨rfl,hA,hO⟩;have hS1 := hS.call hA hO;have hG1 : Blk w5 b3 34 (vGen kd gv xr) := Blk.grown hG hO (fun e => by injection e with e;omega);clear hS hA hO hG;obtain ⟨⟨k3,o3⟩,ha1⟩ : ∃ a,a = skipAt s k2 o2 := ⟨_,rfl⟩;have hk3 : k3 ≤ s.length := by have := skipAt_le (o := o2) hk2;rw [← ha1] at this;exact this
 have Ha3 := Lib.hid ha1;have hS : RS w w5 r b0 b1 b2 n s k bad deep odd ends k3 o3 := by injection ha1 with e1 e2;rw [e1,e2];exact hS1
 clear hS1 ha1;go_wp2_with fail;refine (word_any b2 s k3 bad deep o3 ends w5 hk3 hs hS.ra).mono ?_;rintro e w6 ⟨rfl,hA,hO⟩;have hS1 := hS.call hA hO;have hG := Blk.grown hG1 hO (fun e => by injection e with e;omega);clear hS hA hO hG1;obtain ⟨⟨x2,k4,o4⟩,hx1⟩ : ∃ a,a = wordAt s k3 o3 := ⟨_,rfl⟩;have hk4 : k4 ≤ s.length := by have := wordAt_le (o := o3) hk3;rw [← hx1] at this;exact this
 have hxl2 : x2.length ≤ s.length := by have := wordAt_len (s := s) (k := k3) (o := o3);rw [← hx1] at this;exact this
 have Hx2 := Lib.hid hx1;injection hx1 with e1 e2;injection e2 with e2 e3;rw [← e3,← e2] at hS1;rw [← e1];have hS := hS1;clear hS1 e1 e2 e3;obtain ⟨c0,c1,c2,c3,c4,c5⟩ := hS.rr.cs;obtain ⟨f1,f2,f3,f4,f5⟩ := hS.rr.fs;obtain ⟨d0,d1,d2,d3,d4,d5⟩ := hS.ra.cs;obtain ⟨e1,e2,e3,e4,e5⟩ := hS.ra.fs;obtain ⟨v0,v1,v2,v3,v4,v5,v6⟩ := vcells hS.bv;obtain ⟨z0,z1,z2,z3,z4,z5,z6⟩ := res_cells hS.bz rfl;have y0 := hS.bz.frozen 0;have y1 := hS.bz.frozen 1;have y2 := hS.bz.frozen 2;have y3 := hS.bz.frozen 3;have y4 := hS.bz.frozen 4;have y5 := hS.bz.frozen 5;have y6 := hS.bz.frozen 6;have lr := Blk.lt hS.rr;have l0 := Blk.lt hS.bv;have l1 := Blk.lt hS.bz;have l2 := Blk.lt hS.ra;have q0 : ¬ r = b0 := by have := hS.h0;have := hS.h1;have := hS.h2;have := hS.hlr;omega
 have q0r : ¬ b0 = r := by have := hS.h0;have := hS.h1;have := hS.h2;have := hS.hlr;omega
 have q1 : ¬ r = b1 := by have := hS.h0;have := hS.h1;have := hS.h2;have := hS.hlr;omega
 have q1r : ¬ b1 = r := by have := hS.h0;have := hS.h1;have := hS.h2;have := hS.hlr;omega
 have q2 : ¬ r = b2 := by have := hS.h0;have := hS.h1;have := hS.h2;have := hS.hlr;omega
 have q2r : ¬ b2 = r := by have := hS.h0;have := hS.h1;have := hS.h2;have := hS.hlr;omega
 have q01 : ¬ b0 = b1 := by have := hS.h0;have := hS.h1;have := hS.h2;have := hS.hlr;omega
 have q10 : ¬ b1 = b0 := by have := hS.h0;have := hS.h1;have := hS.h2;have := hS.hlr;omega
 have q02 : ¬ b0 = b2 := by have := hS.h0;have := hS.h1;have := hS.h2;have := hS.hlr;omega
 have q20 : ¬ b2 = b0 := by have := hS.h0;have := hS.h1;have := hS.h2;have := hS.hlr;omega
 have q12 : ¬ b1 = b2 := by have := hS.h0;have := hS.h1;have := hS.h2;have := hS.hlr;omega
 have q21 : ¬ b2 = b1 := by have := hS.h0;have := hS.h1;have := hS.h2;have := hS.hlr;omega
 obtain ⟨g0,g1⟩ := gcells hG
 obtain ⟨dg,r1,rfl⟩ : ∃ dg r1,x1 = dg :: r1 := by
  cases x1 with
  | nil => exact absurd (Hn.out.trans rfl) Hrf.out
  | cons a l => exact ⟨a,l,rfl⟩
 obtain ⟨t1,tr,rfl⟩ : ∃ t1 tr,t = t1 :: tr := by
  cases t with
  | nil => exact absurd rfl Ht.out
  | cons a l => exact ⟨a,l,rfl⟩
 cases odd with
 | true =>
   rcases x2 with _ | ⟨c,_ | ⟨c2,r2⟩⟩
   · have E : Hid (fin = (.int,k,true)) := Lib.hid (by
    rw [Hf.out,refM_next Ha1.out Hx1.out Hn.out Hrf.out Ha3.out Hx2.out]
    rcases hcase.out with ⟨h,_⟩ | ⟨h,_⟩ | ⟨h,_⟩ <;> rw [h] <;> simp [refN,firstR])
     go_wp2_with fail;refine bodyPost_ret (v := .agg (vInt n)) (by simp [results,Tryz.results76,go_sem,vInt,vZero,vRef,l1,z0,z1,z2,z3,z4,z5,z6,y0]) rfl ?_;have hr1 := hS.h0;have hr2 := hS.h1;have hr3 := hS.hlr;unfold RefPost;rw [E.out];refine ⟨rfl,hk,?_,?_⟩
     · have h := ((hS.odd_ (true) rfl).odd_ (true) rfl).rr;unfold Rd at h ⊢
       repeat first | with_reducible refine Blk.alloc ?_ _ | with_reducible refine Blk.far ?_ (show ¬ r = b1 from q1) _
       exact h
     have h := ((hS.odd_ (true) rfl).odd_ (true) rfl).oo
     repeat first | with_reducible exact h | with_reducible refine only_alloc ?_ _ | with_reducible refine only_setCell ?_ (.inr (show w.heap.size ≤ b1 by omega)) _
   · by_cases hc : c = 82
     · subst hc;by_cases hst0 : st = 0
       · have ts0 : (st != 0) = false := by rw [bne,beq_iff_eq.2 hst0];rfl
         by_cases hkd : kd = 2
         · have tk : (kd != 2) = false := by rw [bne,beq_iff_eq.2 hkd];rfl
           have hnm : nm = .int gv := by
            rcases hcase.out with ⟨_,h⟩ | ⟨_,_,h⟩ | ⟨h,_⟩
            · omega
            · omega
            exact h
           have Hnm := Lib.hid hnm;clear hnm;have HST := Lib.hid hst0;have HKD := Lib.hid hkd;clear hst0 hkd
           cases hd1 : digitB dg with
           | false =>
             have HD1 := Lib.hid hd1;clear hd1
             have E : Hid (fin = (.int,k,true)) := Lib.hid (by
              rw [Hf.out,refM_next Ha1.out Hx1.out Hn.out Hrf.out Ha3.out Hx2.out]
              rw [Hnm.out];simp [refN,firstR,firstDigit,HD1.out])
             go_wp2_with fail;refine (digit_any dg _).mono ?_;rintro e w7 ⟨rfl,rfl⟩;simp only [HD1.out];go_wp2_with fail;refine bodyPost_ret (v := .agg (vInt n)) (by simp [results,Tryz.results76,go_sem,vInt,vZero,vRef,l1,z0,z1,z2,z3,z4,z5,z6,y0]) rfl ?_;have hr1 := hS.h0;have hr2 := hS.h1;have hr3 := hS.hlr;unfold RefPost;rw [E.out];refine ⟨rfl,hk,?_,?_⟩
             · have h := ((hS.odd_ (true) rfl).odd_ (true) rfl).rr;unfold Rd at h ⊢
               repeat first | with_reducible refine Blk.alloc ?_ _ | with_reducible refine Blk.far ?_ (show ¬ r = b1 from q1) _
               exact h
             have h := ((hS.odd_ (true) rfl).odd_ (true) rfl).oo
             repeat first | with_reducible exact h | with_reducible refine only_alloc ?_ _ | with_reducible refine only_setCell ?_ (.inr (show w.heap.size ≤ b1 by omega)) _
           | true =>
             have HD1 := Lib.hid hd1;clear hd1
             cases hd2 : digitB t1 with
             | false =>
               have HD2 := Lib.hid hd2;clear hd2
               have E : Hid (fin = (.int,k,true)) := Lib.hid (by
                rw [Hf.out,refM_next Ha1.out Hx1.out Hn.out Hrf.out Ha3.out Hx2.out]
                rw [Hnm.out];simp [refN,firstR,firstDigit,HD1.out,HD2.out])
               go_wp2_with fail;refine (digit_any dg _).mono ?_;rintro e w7 ⟨rfl,rfl⟩;simp only [HD1.out];go_wp2_with fail;refine (digit_any t1 _).mono ?_;rintro e w7 ⟨rfl,rfl⟩;simp only [HD2.out];go_wp2_with fail;refine bodyPost_ret (v := .agg (vInt n)) (by simp [results,Tryz.results76,go_sem,vInt,vZero,vRef,l1,z0,z1,z2,z3,z4,z5,z6,y0]) rfl ?_;have hr1 := hS.h0;have hr2 := hS.h1;have hr3 := hS.hlr;unfold RefPost;rw [E.out];refine ⟨rfl,hk,?_,?_⟩
               · have h := ((hS.odd_ (true) rfl).odd_ (true) rfl).rr;unfold Rd at h ⊢
                 repeat first | with_reducible refine Blk.alloc ?_ _ | with_reducible refine Blk.far ?_ (show ¬ r = b1 from q1) _
                 exact h
               have h := ((hS.odd_ (true) rfl).odd_ (true) rfl).oo
               repeat first | with_reducible exact h | with_reducible refine only_alloc ?_ _ | with_reducible refine only_setCell ?_ (.inr (show w.heap.size ≤ b1 by omega)) _
             | true =>
               have HD2 := Lib.hid hd2;clear hd2;by_cases hn0 : n = 0
               · have tn : (n == 0) = true := by rw [beq_iff_eq];exact hn0
                 have E : Hid (fin = (.zero,k,true)) := Lib.hid (by
                  rw [Hf.out,refM_next Ha1.out Hx1.out Hn.out Hrf.out Ha3.out Hx2.out]
                  rw [Hnm.out];simp [refN,firstR,firstDigit,HD1.out,HD2.out,hn0])
                 have HN0 := Lib.hid hn0;clear hn0;go_wp2_with fail;refine (digit_any dg _).mono ?_;rintro e w7 ⟨rfl,rfl⟩;simp only [HD1.out];go_wp2_with fail;refine (digit_any t1 _).mono ?_;rintro e w7 ⟨rfl,rfl⟩;simp only [HD2.out];go_wp2_with fail;refine calls_gen (fun wo => RS w wo r b0 b1 b2 n s k bad deep true ends k4 o4) (by first | exact (hS.odd_ true rfl) | exact ((hS.odd_ true rfl).odd_ true rfl)) ?_;intro w8 hS8;have u0 := hS8.h0;have u1 := hS8.h1;have u3 := hS8.hlr;clear c0 c1 c2 c3 c4 c5 d0 d1 d2 d3 d4 d5 z0 z1 z2 z3 z4 z5 z6 y0 y1 y2 y3 y4 y5 y6 l1 lr;refine (fail_any r s k bad deep 2 true ends w8 hS8.rr).mono ?_;rintro e w9 ⟨rfl,hF,hO⟩;have hZ : Blk w9 b1 34 vZero := hS8.bz.grown hO (fun e => by injection e with e;omega);have hO9 : Only w w9 r := only_trans hS8.oo hO;obtain ⟨z0,z1,z2,z3,z4,z5,z6⟩ := res_cells hZ rfl;have y0 := hZ.frozen 0;have y1 := hZ.frozen 1;have y2 := hZ.frozen 2;have y3 := hZ.frozen 3;have y4 := hZ.frozen 4;have y5 := hZ.frozen 5;have y6 := hZ.frozen 6;have l1 := Blk.lt hZ;unfold vZero;go_wp2_with fail;refine bodyPost_ret (v := .agg (vZero)) (by simp [results,Tryz.results76,go_sem,vInt,vZero,vRef,l1,z0,z1,z2,z3,z4,z5,z6,y0,y1,y2,y3,y4,y5,y6]) rfl ?_;unfold RefPost;rw [E.out];refine ⟨rfl,hk,?_,?_⟩
                 · have h := hF;unfold Rd at h ⊢
                   repeat first | with_reducible refine Blk.alloc ?_ _ | with_reducible refine Blk.far ?_ (show ¬ r = b1 from q1) _
                   exact h
                 have h := hO9
                 repeat first | with_reducible exact h | with_reducible refine only_alloc ?_ _ | with_reducible refine only_setCell ?_ (.inr (show w.heap.size ≤ b1 by omega)) _
               have tn : (n == 0) = false := by rw [beq_eq_false_iff_ne];exact hn0
               by_cases hg : 65535 < gv
               · have tg : decide (65535 < gv) = true := by rw [decide_eq_true_eq];exact hg
                 have E : Hid (fin = (.zero,k,true)) := Lib.hid (by
                  rw [Hf.out,refM_next Ha1.out Hx1.out Hn.out Hrf.out Ha3.out Hx2.out]
                  rw [Hnm.out];simp [refN,firstR,firstDigit,HD1.out,HD2.out,hg])
                 have HG := Lib.hid hg;clear hg;go_wp2_with fail;refine (digit_any dg _).mono ?_;rintro e w7 ⟨rfl,rfl⟩;simp only [HD1.out];go_wp2_with fail;refine (digit_any t1 _).mono ?_;rintro e w7 ⟨rfl,rfl⟩;simp only [HD2.out];go_wp2_with fail;refine calls_gen (fun wo => RS w wo r b0 b1 b2 n s k bad deep true ends k4 o4) (by first | exact (hS.odd_ true rfl) | exact ((hS.odd_ true rfl).odd_ true rfl)) ?_;intro w8 hS8;have u0 := hS8.h0;have u1 := hS8.h1;have u3 := hS8.hlr;clear c0 c1 c2 c3 c4 c5 d0 d1 d2 d3 d4 d5 z0 z1 z2 z3 z4 z5 z6 y0 y1 y2 y3 y4 y5 y6 l1 lr;refine (fail_any r s k bad deep 2 true ends w8 hS8.rr).mono ?_;rintro e w9 ⟨rfl,hF,hO⟩;have hZ : Blk w9 b1 34 vZero := hS8.bz.grown hO (fun e => by injection e with e;omega);have hO9 : Only w w9 r := only_trans hS8.oo hO;obtain ⟨z0,z1,z2,z3,z4,z5,z6⟩ := res_cells hZ rfl;have y0 := hZ.frozen 0;have y1 := hZ.frozen 1;have y2 := hZ.frozen 2;have y3 := hZ.frozen 3;have y4 := hZ.frozen 4;have y5 := hZ.frozen 5;have y6 := hZ.frozen 6;have l1 := Blk.lt hZ;unfold vZero;go_wp2_with fail;refine bodyPost_ret (v := .agg (vZero)) (by simp [results,Tryz.results76,go_sem,vInt,vZero,vRef,l1,z0,z1,z2,z3,z4,z5,z6,y0,y1,y2,y3,y4,y5,y6]) rfl ?_;unfold RefPost;rw [E.out];refine ⟨rfl,hk,?_,?_⟩
                 · have h := hF;unfold Rd at h ⊢
                   repeat first | with_reducible refine Blk.alloc ?_ _ | with_reducible refine Blk.far ?_ (show ¬ r = b1 from q1) _
                   exact h
                 have h := hO9
                 repeat first | with_reducible exact h | with_reducible refine only_alloc ?_ _ | with_reducible refine only_setCell ?_ (.inr (show w.heap.size ≤ b1 by omega)) _
               have tg : decide (65535 < gv) = false := by rw [decide_eq_false_iff_not];exact hg
               have E : Hid (fin = (.ref gv,k4,o4 || ((s.drop k).take (k4 - k)).any (fun b => b.toNat == 37))) := Lib.hid (by
                rw [Hf.out,refM_next Ha1.out Hx1.out Hn.out Hrf.out Ha3.out Hx2.out]
                rw [Hnm.out];simp [refN,firstR,firstDigit,HD1.out,HD2.out,hg,hn0])
               have q3 : ¬ b3 = r := by have := hS.h0;have := hS.h1;have := hS.h2;have := hS.hlr;omega
               have hkk : k ≤ k4 := le_k4 Ha1.out Hx1.out Ha3.out Hx2.out;have HG := Lib.hid hg;have HN0 := Lib.hid hn0;clear hg hn0;go_wp2_with fail;refine (digit_any dg _).mono ?_;rintro e w7 ⟨rfl,rfl⟩;simp only [HD1.out];go_wp2_with fail;refine (digit_any t1 _).mono ?_;rintro e w7 ⟨rfl,rfl⟩;simp only [HD2.out];go_wp2_with fail
               go_loopg [12] (k4 - k) (fun g v wr => ∃ j o,v = .int .i64 ((j : Nat) : Int) ∧ k ≤ j ∧ j ≤ k4 ∧ g = k4 - j ∧ RS w wr r b0 b1 b2 n s k bad deep true ends k4 o ∧ Blk wr b3 34 (vGen kd gv xr) ∧ (o || ((s.drop j).take (k4 - j)).any (fun b => b.toNat == 37)) = (o4 || ((s.drop k).take (k4 - k)).any (fun b => b.toNat == 37)))
               case atStart => exact ⟨k,o4,rfl,Nat.le_refl _,hkk,rfl,(by first | exact (hS.odd_ true rfl) | exact ((hS.odd_ true rfl).odd_ true rfl)),(by repeat first | exact hG | refine Blk.far ?_ q3 _),rfl⟩
               case round =>
                obtain ⟨j,o,rfl,hj1,hj2,hgj,hS8,hG8,A⟩ := hrel;have A := Lib.hid A;rename_i A0;clear A0;have hgj := Lib.hid hgj;rename_i hgj0;clear hgj0;clear c0 c1 c2 c3 c4 c5 d0 d1 d2 d3 d4 d5 v0 v1 v2 v3 v4 v5 v6 z0 z1 z2 z3 z4 z5 z6 y0 y1 y2 y3 y4 y5 y6 l1 lr g0 g1;obtain ⟨c0,c1,c2,c3,c4,c5⟩ := hS8.rr.cs;obtain ⟨f1,f2,f3,f4,f5⟩ := hS8.rr.fs;obtain ⟨d0,d1,d2,d3,d4,d5⟩ := hS8.ra.cs;obtain ⟨e1,e2,e3,e4,e5⟩ := hS8.ra.fs;obtain ⟨v0,v1,v2,v3,v4,v5,v6⟩ := vcells hS8.bv;obtain ⟨z0,z1,z2,z3,z4,z5,z6⟩ := res_cells hS8.bz rfl;have y0 := hS8.bz.frozen 0;have y1 := hS8.bz.frozen 1;have y2 := hS8.bz.frozen 2;have y3 := hS8.bz.frozen 3;have y4 := hS8.bz.frozen 4;have y5 := hS8.bz.frozen 5;have y6 := hS8.bz.frozen 6;have l1 := Blk.lt hS8.bz;have lr := Blk.lt hS8.rr;obtain ⟨g0,g1⟩ := gcells hG8;by_cases hlt : j < k4
                · have tlt : decide ((j : Int) < (k4 : Int)) = true := by rw [decide_eq_true_eq];omega
                  have hjs : j < s.length := by omega
                  have A1 : ((o || (s[j].toNat == 37)) || ((s.drop (j + 1)).take (k4 - (j + 1))).any (fun b => b.toNat == 37)) = (o4 || ((s.drop k).take (k4 - k)).any (fun b => b.toNat == 37)) := by
                   have A2 := A.out;rw [drop_at hjs,(show k4 - j = (k4 - (j + 1)) + 1 by omega),List.take_succ_cons,List.any_cons,← Bool.or_assoc] at A2;exact A2
                  have A1 := Lib.hid A1;rename_i A10;clear A10 A
                  cases o with
                  | true =>
                    go_wp2_with fail
                    go_roundg (k4 - (j + 1))
                    case measure => have := hgj.out;omega
                    case rel => exact ⟨j + 1,true,by go_num,by omega,by omega,rfl,hS8.aodd_ true rfl,hG8.far (by simp;omega) _,by have := A1.out;simpa using this⟩
                  | false =>
                    by_cases h37 : s[j].toNat = 37
                    · have t37 : ((s[j].toNat : Int) == 37) = true := by rw [beq_iff_eq];omega
                      have h37 := Lib.hid h37;rename_i h370;clear h370;go_wp2_with fail
                      go_roundg (k4 - (j + 1))
                      case measure => have := hgj.out;omega
                      case rel => exact ⟨j + 1,true,by go_num,by omega,by omega,rfl,hS8.aodd_ true rfl,hG8.far (by simp;omega) _,by have := A1.out;simpa [h37.out] using this⟩
                    have t37 : ((s[j].toNat : Int) == 37) = false := by rw [beq_eq_false_iff_ne];omega
                    go_wp2_with fail
                    go_roundg (k4 - (j + 1))
                    case measure => have := hgj.out;omega
                    case rel => exact ⟨j + 1,false,by go_num,by omega,by omega,rfl,hS8.aodd_ false rfl,hG8.far (by simp;omega) _,by have := A1.out;rw [beq_eq_false_iff_ne.2 h37] at this;exact this⟩
                have tlt : decide ((j : Int) < (k4 : Int)) = false := by rw [decide_eq_false_iff_not];omega
                have E2 : Hid (fin = (.ref gv,k4,o)) := Lib.hid (by
                 rw [E.out,← A.out,(show k4 - j = 0 by omega)];simp)
                clear E A;have E := E2;clear E2;have u0 := hS8.h0;have u1 := hS8.h1;have u3 := hS8.hlr;go_wp2_with fail;refine bodyPost_ret (v := .agg (vRef n gv)) (by simp [results,Tryz.results76,go_sem,vInt,vZero,vRef,l1,z0,z1,z2,z3,z4,z5,z6,y0,y1,y2,y3,y4,y5,y6]) rfl ?_;unfold RefPost;rw [E.out];refine ⟨rfl,hk4,?_,?_⟩
                · have h := (hS8.rr.at_ k4 rfl).odd_ o rfl;unfold Rd at h ⊢
                  repeat first | with_reducible refine Blk.alloc ?_ _ | with_reducible refine Blk.far ?_ (show ¬ r = b1 from q1) _
                  exact h
                have h := only_set (only_set hS8.oo 1 (.int .i64 k4)) 4 (.bool o)
                repeat first | with_reducible exact h | with_reducible refine only_alloc ?_ _ | with_reducible refine only_setCell ?_ (.inr (show w.heap.size ≤ b1 by omega)) _
         have tk : (kd != 2) = true := by rw [bne,beq_eq_false_iff_ne.2 hkd];rfl
         have E : Hid (fin = (.int,k,true)) := Lib.hid (by
          rw [Hf.out,refM_next Ha1.out Hx1.out Hn.out Hrf.out Ha3.out Hx2.out]
          rcases hcase.out with ⟨h,h2⟩ | ⟨h,_,h2⟩ | ⟨h,_,h2⟩ <;> first | omega | (rw [h];simp [refN,firstR]))
         go_wp2_with fail;refine bodyPost_ret (v := .agg (vInt n)) (by simp [results,Tryz.results76,go_sem,vInt,vZero,vRef,l1,z0,z1,z2,z3,z4,z5,z6,y0]) rfl ?_;have hr1 := hS.h0;have hr2 := hS.h1;have hr3 := hS.hlr;unfold RefPost;rw [E.out];refine ⟨rfl,hk,?_,?_⟩
         · have h := ((hS.odd_ (true) rfl).odd_ (true) rfl).rr;unfold Rd at h ⊢
           repeat first | with_reducible refine Blk.alloc ?_ _ | with_reducible refine Blk.far ?_ (show ¬ r = b1 from q1) _
           exact h
         have h := ((hS.odd_ (true) rfl).odd_ (true) rfl).oo
         repeat first | with_reducible exact h | with_reducible refine only_alloc ?_ _ | with_reducible refine only_setCell ?_ (.inr (show w.heap.size ≤ b1 by omega)) _
       have ts0 : (st != 0) = true := by rw [bne,beq_eq_false_iff_ne.2 hst0];rfl
       have E : Hid (fin = (.int,k,true)) := Lib.hid (by
        rw [Hf.out,refM_next Ha1.out Hx1.out Hn.out Hrf.out Ha3.out Hx2.out]
        rcases hcase.out with ⟨h,h2⟩ | ⟨h,h2,_⟩ | ⟨h,h2,_⟩ <;> first | omega | (rw [h];simp [refN,firstR]))
       go_wp2_with fail;refine bodyPost_ret (v := .agg (vInt n)) (by simp [results,Tryz.results76,go_sem,vInt,vZero,vRef,l1,z0,z1,z2,z3,z4,z5,z6,y0]) rfl ?_;have hr1 := hS.h0;have hr2 := hS.h1;have hr3 := hS.hlr;unfold RefPost;rw [E.out];refine ⟨rfl,hk,?_,?_⟩
       · have h := ((hS.odd_ (true) rfl).odd_ (true) rfl).rr;unfold Rd at h ⊢
         repeat first | with_reducible refine Blk.alloc ?_ _ | with_reducible refine Blk.far ?_ (show ¬ r = b1 from q1) _
         exact h
       have h := ((hS.odd_ (true) rfl).odd_ (true) rfl).oo
       repeat first | with_reducible exact h | with_reducible refine only_alloc ?_ _ | with_reducible refine only_setCell ?_ (.inr (show w.heap.size ≤ b1 by omega)) _
     have hcn : c.toNat ≠ 82 := fun h => hc (UInt8.toNat_inj.1 h)
     have tc : ((c.toNat : Int) == 82) = false := by rw [beq_eq_false_iff_ne];omega
     have E : Hid (fin = (.int,k,true)) := Lib.hid (by
      rw [Hf.out,refM_next Ha1.out Hx1.out Hn.out Hrf.out Ha3.out Hx2.out]
      rcases hcase.out with ⟨h,_⟩ | ⟨h,_⟩ | ⟨h,_⟩ <;> rw [h] <;> simp [refN,firstR,hc,hcn])
     go_wp2_with fail;refine bodyPost_ret (v := .agg (vInt n)) (by simp [results,Tryz.results76,go_sem,vInt,vZero,vRef,l1,z0,z1,z2,z3,z4,z5,z6,y0]) rfl ?_;have hr1 := hS.h0;have hr2 := hS.h1;have hr3 := hS.hlr;unfold RefPost;rw [E.out];refine ⟨rfl,hk,?_,?_⟩
     · have h := ((hS.odd_ (true) rfl).odd_ (true) rfl).rr;unfold Rd at h ⊢
       repeat first | with_reducible refine Blk.alloc ?_ _ | with_reducible refine Blk.far ?_ (show ¬ r = b1 from q1) _
       exact h
     have h := ((hS.odd_ (true) rfl).odd_ (true) rfl).oo
     repeat first | with_reducible exact h | with_reducible refine only_alloc ?_ _ | with_reducible refine only_setCell ?_ (.inr (show w.heap.size ≤ b1 by omega)) _
   by_cases hc : c = 82
   · subst hc
     have E : Hid (fin = (.int,k,true)) := Lib.hid (by
      rw [Hf.out,refM_next Ha1.out Hx1.out Hn.out Hrf.out Ha3.out Hx2.out]
      rcases hcase.out with ⟨h,_⟩ | ⟨h,_⟩ | ⟨h,_⟩ <;> rw [h] <;> simp [refN,firstR])
     go_wp2_with fail;refine bodyPost_ret (v := .agg (vInt n)) (by simp [results,Tryz.results76,go_sem,vInt,vZero,vRef,l1,z0,z1,z2,z3,z4,z5,z6,y0]) rfl ?_;have hr1 := hS.h0;have hr2 := hS.h1;have hr3 := hS.hlr;unfold RefPost;rw [E.out];refine ⟨rfl,hk,?_,?_⟩
     · have h := ((hS.odd_ (true) rfl).odd_ (true) rfl).rr;unfold Rd at h ⊢
       repeat first | with_reducible refine Blk.alloc ?_ _ | with_reducible refine Blk.far ?_ (show ¬ r = b1 from q1) _
       exact h
     have h := ((hS.odd_ (true) rfl).odd_ (true) rfl).oo
     repeat first | with_reducible exact h | with_reducible refine only_alloc ?_ _ | with_reducible refine only_setCell ?_ (.inr (show w.heap.size ≤ b1 by omega)) _
   have hcn : c.toNat ≠ 82 := fun h => hc (UInt8.toNat_inj.1 h)
   have tc : ((c.toNat : Int) == 82) = false := by rw [beq_eq_false_iff_ne];omega
   have E : Hid (fin = (.int,k,true)) := Lib.hid (by
    rw [Hf.out,refM_next Ha1.out Hx1.out Hn.out Hrf.out Ha3.out Hx2.out]
    rcases hcase.out with ⟨h,_⟩ | ⟨h,_⟩ | ⟨h,_⟩ <;> rw [h] <;> simp [refN,firstR,hc,hcn])
   go_wp2_with fail;refine bodyPost_ret (v := .agg (vInt n)) (by simp [results,Tryz.results76,go_sem,vInt,vZero,vRef,l1,z0,z1,z2,z3,z4,z5,z6,y0]) rfl ?_;have hr1 := hS.h0;have hr2 := hS.h1;have hr3 := hS.hlr;unfold RefPost;rw [E.out];refine ⟨rfl,hk,?_,?_⟩
   · have h := ((hS.odd_ (true) rfl).odd_ (true) rfl).rr;unfold Rd at h ⊢
     repeat first | with_reducible refine Blk.alloc ?_ _ | with_reducible refine Blk.far ?_ (show ¬ r = b1 from q1) _
     exact h
   have h := ((hS.odd_ (true) rfl).odd_ (true) rfl).oo
   repeat first | with_reducible exact h | with_reducible refine only_alloc ?_ _ | with_reducible refine only_setCell ?_ (.inr (show w.heap.size ≤ b1 by omega)) _
 | false =>
   cases o4 with
   | true =>
     rcases x2 with _ | ⟨c,_ | ⟨c2,r2⟩⟩
     · have E : Hid (fin = (.int,k,true)) := Lib.hid (by
      rw [Hf.out,refM_next Ha1.out Hx1.out Hn.out Hrf.out Ha3.out Hx2.out]
      rcases hcase.out with ⟨h,_⟩ | ⟨h,_⟩ | ⟨h,_⟩ <;> rw [h] <;> simp [refN,firstR])
       go_wp2_with fail;refine bodyPost_ret (v := .agg (vInt n)) (by simp [results,Tryz.results76,go_sem,vInt,vZero,vRef,l1,z0,z1,z2,z3,z4,z5,z6,y0]) rfl ?_;have hr1 := hS.h0;have hr2 := hS.h1;have hr3 := hS.hlr;unfold RefPost;rw [E.out];refine ⟨rfl,hk,?_,?_⟩
       · have h := ((hS.odd_ (true) rfl).odd_ (true) rfl).rr;unfold Rd at h ⊢
         repeat first | with_reducible refine Blk.alloc ?_ _ | with_reducible refine Blk.far ?_ (show ¬ r = b1 from q1) _
         exact h
       have h := ((hS.odd_ (true) rfl).odd_ (true) rfl).oo
       repeat first | with_reducible exact h | with_reducible refine only_alloc ?_ _ | with_reducible refine only_setCell ?_ (.inr (show w.heap.size ≤ b1 by omega)) _
     · by_cases hc : c = 82
       · subst hc;by_cases hst0 : st = 0
         · have ts0 : (st != 0) = false := by rw [bne,beq_iff_eq.2 hst0];rfl
           by_cases hkd : kd = 2
           · have tk : (kd != 2) = false := by rw [bne,beq_iff_eq.2 hkd];rfl
             have hnm : nm = .int gv := by
              rcases hcase.out with ⟨_,h⟩ | ⟨_,_,h⟩ | ⟨h,_⟩
              · omega
              · omega
              exact h
             have Hnm := Lib.hid hnm;clear hnm;have HST := Lib.hid hst0;have HKD := Lib.hid hkd;clear hst0 hkd
             cases hd1 : digitB dg with
             | false =>
               have HD1 := Lib.hid hd1;clear hd1
               have E : Hid (fin = (.int,k,true)) := Lib.hid (by
                rw [Hf.out,refM_next Ha1.out Hx1.out Hn.out Hrf.out Ha3.out Hx2.out]
                rw [Hnm.out];simp [refN,firstR,firstDigit,HD1.out])
               go_wp2_with fail;refine (digit_any dg _).mono ?_;rintro e w7 ⟨rfl,rfl⟩;simp only [HD1.out];go_wp2_with fail;refine bodyPost_ret (v := .agg (vInt n)) (by simp [results,Tryz.results76,go_sem,vInt,vZero,vRef,l1,z0,z1,z2,z3,z4,z5,z6,y0]) rfl ?_;have hr1 := hS.h0;have hr2 := hS.h1;have hr3 := hS.hlr;unfold RefPost;rw [E.out];refine ⟨rfl,hk,?_,?_⟩
               · have h := ((hS.odd_ (true) rfl).odd_ (true) rfl).rr;unfold Rd at h ⊢
                 repeat first | with_reducible refine Blk.alloc ?_ _ | with_reducible refine Blk.far ?_ (show ¬ r = b1 from q1) _
                 exact h
               have h := ((hS.odd_ (true) rfl).odd_ (true) rfl).oo
               repeat first | with_reducible exact h | with_reducible refine only_alloc ?_ _ | with_reducible refine only_setCell ?_ (.inr (show w.heap.size ≤ b1 by omega)) _
             | true =>
               have HD1 := Lib.hid hd1;clear hd1
               cases hd2 : digitB t1 with
               | false =>
                 have HD2 := Lib.hid hd2;clear hd2
                 have E : Hid (fin = (.int,k,true)) := Lib.hid (by
                  rw [Hf.out,refM_next Ha1.out Hx1.out Hn.out Hrf.out Ha3.out Hx2.out]
                  rw [Hnm.out];simp [refN,firstR,firstDigit,HD1.out,HD2.out])
                 go_wp2_with fail;refine (digit_any dg _).mono ?_;rintro e w7 ⟨rfl,rfl⟩;simp only [HD1.out];go_wp2_with fail;refine (digit_any t1 _).mono ?_;rintro e w7 ⟨rfl,rfl⟩;simp only [HD2.out];go_wp2_with fail;refine bodyPost_ret (v := .agg (vInt n)) (by simp [results,Tryz.results76,go_sem,vInt,vZero,vRef,l1,z0,z1,z2,z3,z4,z5,z6,y0]) rfl ?_;have hr1 := hS.h0;have hr2 := hS.h1;have hr3 := hS.hlr;unfold RefPost;rw [E.out];refine ⟨rfl,hk,?_,?_⟩
                 · have h := ((hS.odd_ (true) rfl).odd_ (true) rfl).rr;unfold Rd at h ⊢
                   repeat first | with_reducible refine Blk.alloc ?_ _ | with_reducible refine Blk.far ?_ (show ¬ r = b1 from q1) _
                   exact h
                 have h := ((hS.odd_ (true) rfl).odd_ (true) rfl).oo
                 repeat first | with_reducible exact h | with_reducible refine only_alloc ?_ _ | with_reducible refine only_setCell ?_ (.inr (show w.heap.size ≤ b1 by omega)) _
               | true =>
                 have HD2 := Lib.hid hd2;clear hd2;by_cases hn0 : n = 0
                 · have tn : (n == 0) = true := by rw [beq_iff_eq];exact hn0
                   have E : Hid (fin = (.zero,k,true)) := Lib.hid (by
                    rw [Hf.out,refM_next Ha1.out Hx1.out Hn.out Hrf.out Ha3.out Hx2.out]
                    rw [Hnm.out];simp [refN,firstR,firstDigit,HD1.out,HD2.out,hn0])
                   have HN0 := Lib.hid hn0;clear hn0;go_wp2_with fail;refine (digit_any dg _).mono ?_;rintro e w7 ⟨rfl,rfl⟩;simp only [HD1.out];go_wp2_with fail;refine (digit_any t1 _).mono ?_;rintro e w7 ⟨rfl,rfl⟩;simp only [HD2.out];go_wp2_with fail;refine calls_gen (fun wo => RS w wo r b0 b1 b2 n s k bad deep true ends k4 true) (by first | exact (hS.odd_ true rfl) | exact ((hS.odd_ true rfl).odd_ true rfl)) ?_;intro w8 hS8;have u0 := hS8.h0;have u1 := hS8.h1;have u3 := hS8.hlr;clear c0 c1 c2 c3 c4 c5 d0 d1 d2 d3 d4 d5 z0 z1 z2 z3 z4 z5 z6 y0 y1 y2 y3 y4 y5 y6 l1 lr;refine (fail_any r s k bad deep 2 true ends w8 hS8.rr).mono ?_;rintro e w9 ⟨rfl,hF,hO⟩;have hZ : Blk w9 b1 34 vZero := hS8.bz.grown hO (fun e => by injection e with e;omega);have hO9 : Only w w9 r := only_trans hS8.oo hO;obtain ⟨z0,z1,z2,z3,z4,z5,z6⟩ := res_cells hZ rfl;have y0 := hZ.frozen 0;have y1 := hZ.frozen 1;have y2 := hZ.frozen 2;have y3 := hZ.frozen 3;have y4 := hZ.frozen 4;have y5 := hZ.frozen 5;have y6 := hZ.frozen 6;have l1 := Blk.lt hZ;unfold vZero;go_wp2_with fail;refine bodyPost_ret (v := .agg (vZero)) (by simp [results,Tryz.results76,go_sem,vInt,vZero,vRef,l1,z0,z1,z2,z3,z4,z5,z6,y0,y1,y2,y3,y4,y5,y6]) rfl ?_;unfold RefPost;rw [E.out];refine ⟨rfl,hk,?_,?_⟩
                   · have h := hF;unfold Rd at h ⊢
                     repeat first | with_reducible refine Blk.alloc ?_ _ | with_reducible refine Blk.far ?_ (show ¬ r = b1 from q1) _
                     exact h
                   have h := hO9
                   repeat first | with_reducible exact h | with_reducible refine only_alloc ?_ _ | with_reducible refine only_setCell ?_ (.inr (show w.heap.size ≤ b1 by omega)) _
                 have tn : (n == 0) = false := by rw [beq_eq_false_iff_ne];exact hn0
                 by_cases hg : 65535 < gv
                 · have tg : decide (65535 < gv) = true := by rw [decide_eq_true_eq];exact hg
                   have E : Hid (fin = (.zero,k,true)) := Lib.hid (by
                    rw [Hf.out,refM_next Ha1.out Hx1.out Hn.out Hrf.out Ha3.out Hx2.out]
                    rw [Hnm.out];simp [refN,firstR,firstDigit,HD1.out,HD2.out,hg])
                   have HG := Lib.hid hg;clear hg;go_wp2_with fail;refine (digit_any dg _).mono ?_;rintro e w7 ⟨rfl,rfl⟩;simp only [HD1.out];go_wp2_with fail;refine (digit_any t1 _).mono ?_;rintro e w7 ⟨rfl,rfl⟩;simp only [HD2.out];go_wp2_with fail;refine calls_gen (fun wo => RS w wo r b0 b1 b2 n s k bad deep true ends k4 true) (by first | exact (hS.odd_ true rfl) | exact ((hS.odd_ true rfl).odd_ true rfl)) ?_;intro w8 hS8;have u0 := hS8.h0;have u1 := hS8.h1;have u3 := hS8.hlr;clear c0 c1 c2 c3 c4 c5 d0 d1 d2 d3 d4 d5 z0 z1 z2 z3 z4 z5 z6 y0 y1 y2 y3 y4 y5 y6 l1 lr;refine (fail_any r s k bad deep 2 true ends w8 hS8.rr).mono ?_;rintro e w9 ⟨rfl,hF,hO⟩;have hZ : Blk w9 b1 34 vZero := hS8.bz.grown hO (fun e => by injection e with e;omega);have hO9 : Only w w9 r := only_trans hS8.oo hO;obtain ⟨z0,z1,z2,z3,z4,z5,z6⟩ := res_cells hZ rfl;have y0 := hZ.frozen 0;have y1 := hZ.frozen 1;have y2 := hZ.frozen 2;have y3 := hZ.frozen 3;have y4 := hZ.frozen 4;have y5 := hZ.frozen 5;have y6 := hZ.frozen 6;have l1 := Blk.lt hZ;unfold vZero;go_wp2_with fail;refine bodyPost_ret (v := .agg (vZero)) (by simp [results,Tryz.results76,go_sem,vInt,vZero,vRef,l1,z0,z1,z2,z3,z4,z5,z6,y0,y1,y2,y3,y4,y5,y6]) rfl ?_;unfold RefPost;rw [E.out];refine ⟨rfl,hk,?_,?_⟩
                   · have h := hF;unfold Rd at h ⊢
                     repeat first | with_reducible refine Blk.alloc ?_ _ | with_reducible refine Blk.far ?_ (show ¬ r = b1 from q1) _
                     exact h
                   have h := hO9
                   repeat first | with_reducible exact h | with_reducible refine only_alloc ?_ _ | with_reducible refine only_setCell ?_ (.inr (show w.heap.size ≤ b1 by omega)) _
                 have tg : decide (65535 < gv) = false := by rw [decide_eq_false_iff_not];exact hg
                 have E : Hid (fin = (.ref gv,k4,true || ((s.drop k).take (k4 - k)).any (fun b => b.toNat == 37))) := Lib.hid (by
                  rw [Hf.out,refM_next Ha1.out Hx1.out Hn.out Hrf.out Ha3.out Hx2.out]
                  rw [Hnm.out];simp [refN,firstR,firstDigit,HD1.out,HD2.out,hg,hn0])
                 have q3 : ¬ b3 = r := by have := hS.h0;have := hS.h1;have := hS.h2;have := hS.hlr;omega
                 have hkk : k ≤ k4 := le_k4 Ha1.out Hx1.out Ha3.out Hx2.out;have HG := Lib.hid hg;have HN0 := Lib.hid hn0;clear hg hn0;go_wp2_with fail;refine (digit_any dg _).mono ?_;rintro e w7 ⟨rfl,rfl⟩;simp only [HD1.out];go_wp2_with fail;refine (digit_any t1 _).mono ?_;rintro e w7 ⟨rfl,rfl⟩;simp only [HD2.out];go_wp2_with fail
                 go_loopg [12] (k4 - k) (fun g v wr => ∃ j o,v = .int .i64 ((j : Nat) : Int) ∧ k ≤ j ∧ j ≤ k4 ∧ g = k4 - j ∧ RS w wr r b0 b1 b2 n s k bad deep true ends k4 o ∧ Blk wr b3 34 (vGen kd gv xr) ∧ (o || ((s.drop j).take (k4 - j)).any (fun b => b.toNat == 37)) = (true || ((s.drop k).take (k4 - k)).any (fun b => b.toNat == 37)))
                 case atStart => exact ⟨k,true,rfl,Nat.le_refl _,hkk,rfl,(by first | exact (hS.odd_ true rfl) | exact ((hS.odd_ true rfl).odd_ true rfl)),(by repeat first | exact hG | refine Blk.far ?_ q3 _),rfl⟩
                 case round =>
                  obtain ⟨j,o,rfl,hj1,hj2,hgj,hS8,hG8,A⟩ := hrel;have A := Lib.hid A;rename_i A0;clear A0;have hgj := Lib.hid hgj;rename_i hgj0;clear hgj0;clear c0 c1 c2 c3 c4 c5 d0 d1 d2 d3 d4 d5 v0 v1 v2 v3 v4 v5 v6 z0 z1 z2 z3 z4 z5 z6 y0 y1 y2 y3 y4 y5 y6 l1 lr g0 g1;obtain ⟨c0,c1,c2,c3,c4,c5⟩ := hS8.rr.cs;obtain ⟨f1,f2,f3,f4,f5⟩ := hS8.rr.fs;obtain ⟨d0,d1,d2,d3,d4,d5⟩ := hS8.ra.cs;obtain ⟨e1,e2,e3,e4,e5⟩ := hS8.ra.fs;obtain ⟨v0,v1,v2,v3,v4,v5,v6⟩ := vcells hS8.bv;obtain ⟨z0,z1,z2,z3,z4,z5,z6⟩ := res_cells hS8.bz rfl;have y0 := hS8.bz.frozen 0;have y1 := hS8.bz.frozen 1;have y2 := hS8.bz.frozen 2;have y3 := hS8.bz.frozen 3;have y4 := hS8.bz.frozen 4;have y5 := hS8.bz.frozen 5;have y6 := hS8.bz.frozen 6;have l1 := Blk.lt hS8.bz;have lr := Blk.lt hS8.rr;obtain ⟨g0,g1⟩ := gcells hG8;by_cases hlt : j < k4
                  · have tlt : decide ((j : Int) < (k4 : Int)) = true := by rw [decide_eq_true_eq];omega
                    have hjs : j < s.length := by omega
                    have A1 : ((o || (s[j].toNat == 37)) || ((s.drop (j + 1)).take (k4 - (j + 1))).any (fun b => b.toNat == 37)) = (true || ((s.drop k).take (k4 - k)).any (fun b => b.toNat == 37)) := by
                     have A2 := A.out;rw [drop_at hjs,(show k4 - j = (k4 - (j + 1)) + 1 by omega),List.take_succ_cons,List.any_cons,← Bool.or_assoc] at A2;exact A2
                    have A1 := Lib.hid A1;rename_i A10;clear A10 A
                    cases o with
                    | true =>
                      go_wp2_with fail
                      go_roundg (k4 - (j + 1))
                      case measure => have := hgj.out;omega
                      case rel => exact ⟨j + 1,true,by go_num,by omega,by omega,rfl,hS8.aodd_ true rfl,hG8.far (by simp;omega) _,by have := A1.out;simpa using this⟩
                    | false =>
                      by_cases h37 : s[j].toNat = 37
                      · have t37 : ((s[j].toNat : Int) == 37) = true := by rw [beq_iff_eq];omega
                        have h37 := Lib.hid h37;rename_i h370;clear h370;go_wp2_with fail
                        go_roundg (k4 - (j + 1))
                        case measure => have := hgj.out;omega
                        case rel => exact ⟨j + 1,true,by go_num,by omega,by omega,rfl,hS8.aodd_ true rfl,hG8.far (by simp;omega) _,by have := A1.out;simpa [h37.out] using this⟩
                      have t37 : ((s[j].toNat : Int) == 37) = false := by rw [beq_eq_false_iff_ne];omega
                      go_wp2_with fail
                      go_roundg (k4 - (j + 1))
                      case measure => have := hgj.out;omega
                      case rel => exact ⟨j + 1,false,by go_num,by omega,by omega,rfl,hS8.aodd_ false rfl,hG8.far (by simp;omega) _,by have := A1.out;rw [beq_eq_false_iff_ne.2 h37] at this;exact this⟩
                  have tlt : decide ((j : Int) < (k4 : Int)) = false := by rw [decide_eq_false_iff_not];omega
                  have E2 : Hid (fin = (.ref gv,k4,o)) := Lib.hid (by
                   rw [E.out,← A.out,(show k4 - j = 0 by omega)];simp)
                  clear E A;have E := E2;clear E2;have u0 := hS8.h0;have u1 := hS8.h1;have u3 := hS8.hlr;go_wp2_with fail;refine bodyPost_ret (v := .agg (vRef n gv)) (by simp [results,Tryz.results76,go_sem,vInt,vZero,vRef,l1,z0,z1,z2,z3,z4,z5,z6,y0,y1,y2,y3,y4,y5,y6]) rfl ?_;unfold RefPost;rw [E.out];refine ⟨rfl,hk4,?_,?_⟩
                  · have h := (hS8.rr.at_ k4 rfl).odd_ o rfl;unfold Rd at h ⊢
                    repeat first | with_reducible refine Blk.alloc ?_ _ | with_reducible refine Blk.far ?_ (show ¬ r = b1 from q1) _
                    exact h
                  have h := only_set (only_set hS8.oo 1 (.int .i64 k4)) 4 (.bool o)
                  repeat first | with_reducible exact h | with_reducible refine only_alloc ?_ _ | with_reducible refine only_setCell ?_ (.inr (show w.heap.size ≤ b1 by omega)) _
           have tk : (kd != 2) = true := by rw [bne,beq_eq_false_iff_ne.2 hkd];rfl
           have E : Hid (fin = (.int,k,true)) := Lib.hid (by
            rw [Hf.out,refM_next Ha1.out Hx1.out Hn.out Hrf.out Ha3.out Hx2.out]
            rcases hcase.out with ⟨h,h2⟩ | ⟨h,_,h2⟩ | ⟨h,_,h2⟩ <;> first | omega | (rw [h];simp [refN,firstR]))
           go_wp2_with fail;refine bodyPost_ret (v := .agg (vInt n)) (by simp [results,Tryz.results76,go_sem,vInt,vZero,vRef,l1,z0,z1,z2,z3,z4,z5,z6,y0]) rfl ?_;have hr1 := hS.h0;have hr2 := hS.h1;have hr3 := hS.hlr;unfold RefPost;rw [E.out];refine ⟨rfl,hk,?_,?_⟩
           · have h := ((hS.odd_ (true) rfl).odd_ (true) rfl).rr;unfold Rd at h ⊢
             repeat first | with_reducible refine Blk.alloc ?_ _ | with_reducible refine Blk.far ?_ (show ¬ r = b1 from q1) _
             exact h
           have h := ((hS.odd_ (true) rfl).odd_ (true) rfl).oo
           repeat first | with_reducible exact h | with_reducible refine only_alloc ?_ _ | with_reducible refine only_setCell ?_ (.inr (show w.heap.size ≤ b1 by omega)) _
         have ts0 : (st != 0) = true := by rw [bne,beq_eq_false_iff_ne.2 hst0];rfl
         have E : Hid (fin = (.int,k,true)) := Lib.hid (by
          rw [Hf.out,refM_next Ha1.out Hx1.out Hn.out Hrf.out Ha3.out Hx2.out]
          rcases hcase.out with ⟨h,h2⟩ | ⟨h,h2,_⟩ | ⟨h,h2,_⟩ <;> first | omega | (rw [h];simp [refN,firstR]))
         go_wp2_with fail;refine bodyPost_ret (v := .agg (vInt n)) (by simp [results,Tryz.results76,go_sem,vInt,vZero,vRef,l1,z0,z1,z2,z3,z4,z5,z6,y0]) rfl ?_;have hr1 := hS.h0;have hr2 := hS.h1;have hr3 := hS.hlr;unfold RefPost;rw [E.out];refine ⟨rfl,hk,?_,?_⟩
         · have h := ((hS.odd_ (true) rfl).odd_ (true) rfl).rr;unfold Rd at h ⊢
           repeat first | with_reducible refine Blk.alloc ?_ _ | with_reducible refine Blk.far ?_ (show ¬ r = b1 from q1) _
           exact h
         have h := ((hS.odd_ (true) rfl).odd_ (true) rfl).oo
         repeat first | with_reducible exact h | with_reducible refine only_alloc ?_ _ | with_reducible refine only_setCell ?_ (.inr (show w.heap.size ≤ b1 by omega)) _
       have hcn : c.toNat ≠ 82 := fun h => hc (UInt8.toNat_inj.1 h)
       have tc : ((c.toNat : Int) == 82) = false := by rw [beq_eq_false_iff_ne];omega
       have E : Hid (fin = (.int,k,true)) := Lib.hid (by
        rw [Hf.out,refM_next Ha1.out Hx1.out Hn.out Hrf.out Ha3.out Hx2.out]
        rcases hcase.out with ⟨h,_⟩ | ⟨h,_⟩ | ⟨h,_⟩ <;> rw [h] <;> simp [refN,firstR,hc,hcn])
       go_wp2_with fail;refine bodyPost_ret (v := .agg (vInt n)) (by simp [results,Tryz.results76,go_sem,vInt,vZero,vRef,l1,z0,z1,z2,z3,z4,z5,z6,y0]) rfl ?_;have hr1 := hS.h0;have hr2 := hS.h1;have hr3 := hS.hlr;unfold RefPost;rw [E.out];refine ⟨rfl,hk,?_,?_⟩
       · have h := ((hS.odd_ (true) rfl).odd_ (true) rfl).rr;unfold Rd at h ⊢
         repeat first | with_reducible refine Blk.alloc ?_ _ | with_reducible refine Blk.far ?_ (show ¬ r = b1 from q1) _
         exact h
       have h := ((hS.odd_ (true) rfl).odd_ (true) rfl).oo
       repeat first | with_reducible exact h | with_reducible refine only_alloc ?_ _ | with_reducible refine only_setCell ?_ (.inr (show w.heap.size ≤ b1 by omega)) _
     by_cases hc : c = 82
     · subst hc
       have E : Hid (fin = (.int,k,true)) := Lib.hid (by
        rw [Hf.out,refM_next Ha1.out Hx1.out Hn.out Hrf.out Ha3.out Hx2.out]
        rcases hcase.out with ⟨h,_⟩ | ⟨h,_⟩ | ⟨h,_⟩ <;> rw [h] <;> simp [refN,firstR])
       go_wp2_with fail;refine bodyPost_ret (v := .agg (vInt n)) (by simp [results,Tryz.results76,go_sem,vInt,vZero,vRef,l1,z0,z1,z2,z3,z4,z5,z6,y0]) rfl ?_;have hr1 := hS.h0;have hr2 := hS.h1;have hr3 := hS.hlr;unfold RefPost;rw [E.out];refine ⟨rfl,hk,?_,?_⟩
       · have h := ((hS.odd_ (true) rfl).odd_ (true) rfl).rr;unfold Rd at h ⊢
         repeat first | with_reducible refine Blk.alloc ?_ _ | with_reducible refine Blk.far ?_ (show ¬ r = b1 from q1) _
         exact h
       have h := ((hS.odd_ (true) rfl).odd_ (true) rfl).oo
       repeat first | with_reducible exact h | with_reducible refine only_alloc ?_ _ | with_reducible refine only_setCell ?_ (.inr (show w.heap.size ≤ b1 by omega)) _
     have hcn : c.toNat ≠ 82 := fun h => hc (UInt8.toNat_inj.1 h)
     have tc : ((c.toNat : Int) == 82) = false := by rw [beq_eq_false_iff_ne];omega
     have E : Hid (fin = (.int,k,true)) := Lib.hid (by
      rw [Hf.out,refM_next Ha1.out Hx1.out Hn.out Hrf.out Ha3.out Hx2.out]
      rcases hcase.out with ⟨h,_⟩ | ⟨h,_⟩ | ⟨h,_⟩ <;> rw [h] <;> simp [refN,firstR,hc,hcn])
     go_wp2_with fail;refine bodyPost_ret (v := .agg (vInt n)) (by simp [results,Tryz.results76,go_sem,vInt,vZero,vRef,l1,z0,z1,z2,z3,z4,z5,z6,y0]) rfl ?_;have hr1 := hS.h0;have hr2 := hS.h1;have hr3 := hS.hlr;unfold RefPost;rw [E.out];refine ⟨rfl,hk,?_,?_⟩
     · have h := ((hS.odd_ (true) rfl).odd_ (true) rfl).rr;unfold Rd at h ⊢
       repeat first | with_reducible refine Blk.alloc ?_ _ | with_reducible refine Blk.far ?_ (show ¬ r = b1 from q1) _
       exact h
     have h := ((hS.odd_ (true) rfl).odd_ (true) rfl).oo
     repeat first | with_reducible exact h | with_reducible refine only_alloc ?_ _ | with_reducible refine only_setCell ?_ (.inr (show w.heap.size ≤ b1 by omega)) _
   | false =>
     rcases x2 with _ | ⟨c,_ | ⟨c2,r2⟩⟩
     · have E : Hid (fin = (.int,k,false)) := Lib.hid (by
      rw [Hf.out,refM_next Ha1.out Hx1.out Hn.out Hrf.out Ha3.out Hx2.out]
      rcases hcase.out with ⟨h,_⟩ | ⟨h,_⟩ | ⟨h,_⟩ <;> rw [h] <;> simp [refN,firstR])
       go_wp2_with fail;refine bodyPost_ret (v := .agg (vInt n)) (by simp [results,Tryz.results76,go_sem,vInt,vZero,vRef,l1,z0,z1,z2,z3,z4,z5,z6,y0]) rfl ?_;have hr1 := hS.h0;have hr2 := hS.h1;have hr3 := hS.hlr;unfold RefPost;rw [E.out];refine ⟨rfl,hk,?_,?_⟩
       · have h := ((hS.odd_ (false) rfl).odd_ (false) rfl).rr;unfold Rd at h ⊢
         repeat first | with_reducible refine Blk.alloc ?_ _ | with_reducible refine Blk.far ?_ (show ¬ r = b1 from q1) _
         exact h
       have h := ((hS.odd_ (false) rfl).odd_ (false) rfl).oo
       repeat first | with_reducible exact h | with_reducible refine only_alloc ?_ _ | with_reducible refine only_setCell ?_ (.inr (show w.heap.size ≤ b1 by omega)) _
     · by_cases hc : c = 82
       · subst hc;by_cases hst0 : st = 0
         · have ts0 : (st != 0) = false := by rw [bne,beq_iff_eq.2 hst0];rfl
           by_cases hkd : kd = 2
           · have tk : (kd != 2) = false := by rw [bne,beq_iff_eq.2 hkd];rfl
             have hnm : nm = .int gv := by
              rcases hcase.out with ⟨_,h⟩ | ⟨_,_,h⟩ | ⟨h,_⟩
              · omega
              · omega
              exact h
             have Hnm := Lib.hid hnm;clear hnm;have HST := Lib.hid hst0;have HKD := Lib.hid hkd;clear hst0 hkd
             cases hd1 : digitB dg with
             | false =>
               have HD1 := Lib.hid hd1;clear hd1
               have E : Hid (fin = (.int,k,true)) := Lib.hid (by
                rw [Hf.out,refM_next Ha1.out Hx1.out Hn.out Hrf.out Ha3.out Hx2.out]
                rw [Hnm.out];simp [refN,firstR,firstDigit,HD1.out])
               go_wp2_with fail;refine (digit_any dg _).mono ?_;rintro e w7 ⟨rfl,rfl⟩;simp only [HD1.out];go_wp2_with fail;refine bodyPost_ret (v := .agg (vInt n)) (by simp [results,Tryz.results76,go_sem,vInt,vZero,vRef,l1,z0,z1,z2,z3,z4,z5,z6,y0]) rfl ?_;have hr1 := hS.h0;have hr2 := hS.h1;have hr3 := hS.hlr;unfold RefPost;rw [E.out];refine ⟨rfl,hk,?_,?_⟩
               · have h := ((hS.odd_ (false) rfl).odd_ (true) rfl).rr;unfold Rd at h ⊢
                 repeat first | with_reducible refine Blk.alloc ?_ _ | with_reducible refine Blk.far ?_ (show ¬ r = b1 from q1) _
                 exact h
               have h := ((hS.odd_ (false) rfl).odd_ (true) rfl).oo
               repeat first | with_reducible exact h | with_reducible refine only_alloc ?_ _ | with_reducible refine only_setCell ?_ (.inr (show w.heap.size ≤ b1 by omega)) _
             | true =>
               have HD1 := Lib.hid hd1;clear hd1
               cases hd2 : digitB t1 with
               | false =>
                 have HD2 := Lib.hid hd2;clear hd2
                 have E : Hid (fin = (.int,k,true)) := Lib.hid (by
                  rw [Hf.out,refM_next Ha1.out Hx1.out Hn.out Hrf.out Ha3.out Hx2.out]
                  rw [Hnm.out];simp [refN,firstR,firstDigit,HD1.out,HD2.out])
                 go_wp2_with fail;refine (digit_any dg _).mono ?_;rintro e w7 ⟨rfl,rfl⟩;simp only [HD1.out];go_wp2_with fail;refine (digit_any t1 _).mono ?_;rintro e w7 ⟨rfl,rfl⟩;simp only [HD2.out];go_wp2_with fail;refine bodyPost_ret (v := .agg (vInt n)) (by simp [results,Tryz.results76,go_sem,vInt,vZero,vRef,l1,z0,z1,z2,z3,z4,z5,z6,y0]) rfl ?_;have hr1 := hS.h0;have hr2 := hS.h1;have hr3 := hS.hlr;unfold RefPost;rw [E.out];refine ⟨rfl,hk,?_,?_⟩
                 · have h := ((hS.odd_ (false) rfl).odd_ (true) rfl).rr;unfold Rd at h ⊢
                   repeat first | with_reducible refine Blk.alloc ?_ _ | with_reducible refine Blk.far ?_ (show ¬ r = b1 from q1) _
                   exact h
                 have h := ((hS.odd_ (false) rfl).odd_ (true) rfl).oo
                 repeat first | with_reducible exact h | with_reducible refine only_alloc ?_ _ | with_reducible refine only_setCell ?_ (.inr (show w.heap.size ≤ b1 by omega)) _
               | true =>
                 have HD2 := Lib.hid hd2;clear hd2;by_cases hn0 : n = 0
                 · have tn : (n == 0) = true := by rw [beq_iff_eq];exact hn0
                   have E : Hid (fin = (.zero,k,false)) := Lib.hid (by
                    rw [Hf.out,refM_next Ha1.out Hx1.out Hn.out Hrf.out Ha3.out Hx2.out]
                    rw [Hnm.out];simp [refN,firstR,firstDigit,HD1.out,HD2.out,hn0])
                   have HN0 := Lib.hid hn0;clear hn0;go_wp2_with fail;refine (digit_any dg _).mono ?_;rintro e w7 ⟨rfl,rfl⟩;simp only [HD1.out];go_wp2_with fail;refine (digit_any t1 _).mono ?_;rintro e w7 ⟨rfl,rfl⟩;simp only [HD2.out];go_wp2_with fail;refine calls_gen (fun wo => RS w wo r b0 b1 b2 n s k bad deep false ends k4 false) (by first | exact (hS.odd_ false rfl) | exact ((hS.odd_ false rfl).odd_ false rfl)) ?_;intro w8 hS8;have u0 := hS8.h0;have u1 := hS8.h1;have u3 := hS8.hlr;clear c0 c1 c2 c3 c4 c5 d0 d1 d2 d3 d4 d5 z0 z1 z2 z3 z4 z5 z6 y0 y1 y2 y3 y4 y5 y6 l1 lr;refine (fail_any r s k bad deep 2 false ends w8 hS8.rr).mono ?_;rintro e w9 ⟨rfl,hF,hO⟩;have hZ : Blk w9 b1 34 vZero := hS8.bz.grown hO (fun e => by injection e with e;omega);have hO9 : Only w w9 r := only_trans hS8.oo hO;obtain ⟨z0,z1,z2,z3,z4,z5,z6⟩ := res_cells hZ rfl;have y0 := hZ.frozen 0;have y1 := hZ.frozen 1;have y2 := hZ.frozen 2;have y3 := hZ.frozen 3;have y4 := hZ.frozen 4;have y5 := hZ.frozen 5;have y6 := hZ.frozen 6;have l1 := Blk.lt hZ;unfold vZero;go_wp2_with fail;refine bodyPost_ret (v := .agg (vZero)) (by simp [results,Tryz.results76,go_sem,vInt,vZero,vRef,l1,z0,z1,z2,z3,z4,z5,z6,y0,y1,y2,y3,y4,y5,y6]) rfl ?_;unfold RefPost;rw [E.out];refine ⟨rfl,hk,?_,?_⟩
                   · have h := hF;unfold Rd at h ⊢
                     repeat first | with_reducible refine Blk.alloc ?_ _ | with_reducible refine Blk.far ?_ (show ¬ r = b1 from q1) _
                     exact h
                   have h := hO9
                   repeat first | with_reducible exact h | with_reducible refine only_alloc ?_ _ | with_reducible refine only_setCell ?_ (.inr (show w.heap.size ≤ b1 by omega)) _
                 have tn : (n == 0) = false := by rw [beq_eq_false_iff_ne];exact hn0
                 by_cases hg : 65535 < gv
                 · have tg : decide (65535 < gv) = true := by rw [decide_eq_true_eq];exact hg
                   have E : Hid (fin = (.zero,k,false)) := Lib.hid (by
                    rw [Hf.out,refM_next Ha1.out Hx1.out Hn.out Hrf.out Ha3.out Hx2.out]
                    rw [Hnm.out];simp [refN,firstR,firstDigit,HD1.out,HD2.out,hg])
                   have HG := Lib.hid hg;clear hg;go_wp2_with fail;refine (digit_any dg _).mono ?_;rintro e w7 ⟨rfl,rfl⟩;simp only [HD1.out];go_wp2_with fail;refine (digit_any t1 _).mono ?_;rintro e w7 ⟨rfl,rfl⟩;simp only [HD2.out];go_wp2_with fail;refine calls_gen (fun wo => RS w wo r b0 b1 b2 n s k bad deep false ends k4 false) (by first | exact (hS.odd_ false rfl) | exact ((hS.odd_ false rfl).odd_ false rfl)) ?_;intro w8 hS8;have u0 := hS8.h0;have u1 := hS8.h1;have u3 := hS8.hlr;clear c0 c1 c2 c3 c4 c5 d0 d1 d2 d3 d4 d5 z0 z1 z2 z3 z4 z5 z6 y0 y1 y2 y3 y4 y5 y6 l1 lr;refine (fail_any r s k bad deep 2 false ends w8 hS8.rr).mono ?_;rintro e w9 ⟨rfl,hF,hO⟩;have hZ : Blk w9 b1 34 vZero := hS8.bz.grown hO (fun e => by injection e with e;omega);have hO9 : Only w w9 r := only_trans hS8.oo hO;obtain ⟨z0,z1,z2,z3,z4,z5,z6⟩ := res_cells hZ rfl;have y0 := hZ.frozen 0;have y1 := hZ.frozen 1;have y2 := hZ.frozen 2;have y3 := hZ.frozen 3;have y4 := hZ.frozen 4;have y5 := hZ.frozen 5;have y6 := hZ.frozen 6;have l1 := Blk.lt hZ;unfold vZero;go_wp2_with fail;refine bodyPost_ret (v := .agg (vZero)) (by simp [results,Tryz.results76,go_sem,vInt,vZero,vRef,l1,z0,z1,z2,z3,z4,z5,z6,y0,y1,y2,y3,y4,y5,y6]) rfl ?_;unfold RefPost;rw [E.out];refine ⟨rfl,hk,?_,?_⟩
                   · have h := hF;unfold Rd at h ⊢
                     repeat first | with_reducible refine Blk.alloc ?_ _ | with_reducible refine Blk.far ?_ (show ¬ r = b1 from q1) _
                     exact h
                   have h := hO9
                   repeat first | with_reducible exact h | with_reducible refine only_alloc ?_ _ | with_reducible refine only_setCell ?_ (.inr (show w.heap.size ≤ b1 by omega)) _
                 have tg : decide (65535 < gv) = false := by rw [decide_eq_false_iff_not];exact hg
                 have E : Hid (fin = (.ref gv,k4,false || ((s.drop k).take (k4 - k)).any (fun b => b.toNat == 37))) := Lib.hid (by
                  rw [Hf.out,refM_next Ha1.out Hx1.out Hn.out Hrf.out Ha3.out Hx2.out]
                  rw [Hnm.out];simp [refN,firstR,firstDigit,HD1.out,HD2.out,hg,hn0])
                 have q3 : ¬ b3 = r := by have := hS.h0;have := hS.h1;have := hS.h2;have := hS.hlr;omega
                 have hkk : k ≤ k4 := le_k4 Ha1.out Hx1.out Ha3.out Hx2.out;have HG := Lib.hid hg;have HN0 := Lib.hid hn0;clear hg hn0;go_wp2_with fail;refine (digit_any dg _).mono ?_;rintro e w7 ⟨rfl,rfl⟩;simp only [HD1.out];go_wp2_with fail;refine (digit_any t1 _).mono ?_;rintro e w7 ⟨rfl,rfl⟩;simp only [HD2.out];go_wp2_with fail
                 go_loopg [12] (k4 - k) (fun g v wr => ∃ j o,v = .int .i64 ((j : Nat) : Int) ∧ k ≤ j ∧ j ≤ k4 ∧ g = k4 - j ∧ RS w wr r b0 b1 b2 n s k bad deep false ends k4 o ∧ Blk wr b3 34 (vGen kd gv xr) ∧ (o || ((s.drop j).take (k4 - j)).any (fun b => b.toNat == 37)) = (false || ((s.drop k).take (k4 - k)).any (fun b => b.toNat == 37)))
                 case atStart => exact ⟨k,false,rfl,Nat.le_refl _,hkk,rfl,(by first | exact (hS.odd_ false rfl) | exact ((hS.odd_ false rfl).odd_ false rfl)),(by repeat first | exact hG | refine Blk.far ?_ q3 _),rfl⟩
                 case round =>
                  obtain ⟨j,o,rfl,hj1,hj2,hgj,hS8,hG8,A⟩ := hrel;have A := Lib.hid A;rename_i A0;clear A0;have hgj := Lib.hid hgj;rename_i hgj0;clear hgj0;clear c0 c1 c2 c3 c4 c5 d0 d1 d2 d3 d4 d5 v0 v1 v2 v3 v4 v5 v6 z0 z1 z2 z3 z4 z5 z6 y0 y1 y2 y3 y4 y5 y6 l1 lr g0 g1;obtain ⟨c0,c1,c2,c3,c4,c5⟩ := hS8.rr.cs;obtain ⟨f1,f2,f3,f4,f5⟩ := hS8.rr.fs;obtain ⟨d0,d1,d2,d3,d4,d5⟩ := hS8.ra.cs;obtain ⟨e1,e2,e3,e4,e5⟩ := hS8.ra.fs;obtain ⟨v0,v1,v2,v3,v4,v5,v6⟩ := vcells hS8.bv;obtain ⟨z0,z1,z2,z3,z4,z5,z6⟩ := res_cells hS8.bz rfl;have y0 := hS8.bz.frozen 0;have y1 := hS8.bz.frozen 1;have y2 := hS8.bz.frozen 2;have y3 := hS8.bz.frozen 3;have y4 := hS8.bz.frozen 4;have y5 := hS8.bz.frozen 5;have y6 := hS8.bz.frozen 6;have l1 := Blk.lt hS8.bz;have lr := Blk.lt hS8.rr;obtain ⟨g0,g1⟩ := gcells hG8;by_cases hlt : j < k4
                  · have tlt : decide ((j : Int) < (k4 : Int)) = true := by rw [decide_eq_true_eq];omega
                    have hjs : j < s.length := by omega
                    have A1 : ((o || (s[j].toNat == 37)) || ((s.drop (j + 1)).take (k4 - (j + 1))).any (fun b => b.toNat == 37)) = (false || ((s.drop k).take (k4 - k)).any (fun b => b.toNat == 37)) := by
                     have A2 := A.out;rw [drop_at hjs,(show k4 - j = (k4 - (j + 1)) + 1 by omega),List.take_succ_cons,List.any_cons,← Bool.or_assoc] at A2;exact A2
                    have A1 := Lib.hid A1;rename_i A10;clear A10 A
                    cases o with
                    | true =>
                      go_wp2_with fail
                      go_roundg (k4 - (j + 1))
                      case measure => have := hgj.out;omega
                      case rel => exact ⟨j + 1,true,by go_num,by omega,by omega,rfl,hS8.aodd_ true rfl,hG8.far (by simp;omega) _,by have := A1.out;simpa using this⟩
                    | false =>
                      by_cases h37 : s[j].toNat = 37
                      · have t37 : ((s[j].toNat : Int) == 37) = true := by rw [beq_iff_eq];omega
                        have h37 := Lib.hid h37;rename_i h370;clear h370;go_wp2_with fail
                        go_roundg (k4 - (j + 1))
                        case measure => have := hgj.out;omega
                        case rel => exact ⟨j + 1,true,by go_num,by omega,by omega,rfl,hS8.aodd_ true rfl,hG8.far (by simp;omega) _,by have := A1.out;simpa [h37.out] using this⟩
                      have t37 : ((s[j].toNat : Int) == 37) = false := by rw [beq_eq_false_iff_ne];omega
                      go_wp2_with fail
                      go_roundg (k4 - (j + 1))
                      case measure => have := hgj.out;omega
                      case rel => exact ⟨j + 1,false,by go_num,by omega,by omega,rfl,hS8.aodd_ false rfl,hG8.far (by simp;omega) _,by have := A1.out;rw [beq_eq_false_iff_ne.2 h37] at this;exact this⟩
                  have tlt : decide ((j : Int) < (k4 : Int)) = false := by rw [decide_eq_false_iff_not];omega
                  have E2 : Hid (fin = (.ref gv,k4,o)) := Lib.hid (by
                   rw [E.out,← A.out,(show k4 - j = 0 by omega)];simp)
                  clear E A;have E := E2;clear E2;have u0 := hS8.h0;have u1 := hS8.h1;have u3 := hS8.hlr;go_wp2_with fail;refine bodyPost_ret (v := .agg (vRef n gv)) (by simp [results,Tryz.results76,go_sem,vInt,vZero,vRef,l1,z0,z1,z2,z3,z4,z5,z6,y0,y1,y2,y3,y4,y5,y6]) rfl ?_;unfold RefPost;rw [E.out];refine ⟨rfl,hk4,?_,?_⟩
                  · have h := (hS8.rr.at_ k4 rfl).odd_ o rfl;unfold Rd at h ⊢
                    repeat first | with_reducible refine Blk.alloc ?_ _ | with_reducible refine Blk.far ?_ (show ¬ r = b1 from q1) _
                    exact h
                  have h := only_set (only_set hS8.oo 1 (.int .i64 k4)) 4 (.bool o)
                  repeat first | with_reducible exact h | with_reducible refine only_alloc ?_ _ | with_reducible refine only_setCell ?_ (.inr (show w.heap.size ≤ b1 by omega)) _
           have tk : (kd != 2) = true := by rw [bne,beq_eq_false_iff_ne.2 hkd];rfl
           have E : Hid (fin = (.int,k,true)) := Lib.hid (by
            rw [Hf.out,refM_next Ha1.out Hx1.out Hn.out Hrf.out Ha3.out Hx2.out]
            rcases hcase.out with ⟨h,h2⟩ | ⟨h,_,h2⟩ | ⟨h,_,h2⟩ <;> first | omega | (rw [h];simp [refN,firstR]))
           go_wp2_with fail;refine bodyPost_ret (v := .agg (vInt n)) (by simp [results,Tryz.results76,go_sem,vInt,vZero,vRef,l1,z0,z1,z2,z3,z4,z5,z6,y0]) rfl ?_;have hr1 := hS.h0;have hr2 := hS.h1;have hr3 := hS.hlr;unfold RefPost;rw [E.out];refine ⟨rfl,hk,?_,?_⟩
           · have h := ((hS.odd_ (false) rfl).odd_ (true) rfl).rr;unfold Rd at h ⊢
             repeat first | with_reducible refine Blk.alloc ?_ _ | with_reducible refine Blk.far ?_ (show ¬ r = b1 from q1) _
             exact h
           have h := ((hS.odd_ (false) rfl).odd_ (true) rfl).oo
           repeat first | with_reducible exact h | with_reducible refine only_alloc ?_ _ | with_reducible refine only_setCell ?_ (.inr (show w.heap.size ≤ b1 by omega)) _
         have ts0 : (st != 0) = true := by rw [bne,beq_eq_false_iff_ne.2 hst0];rfl
         have E : Hid (fin = (.int,k,true)) := Lib.hid (by
          rw [Hf.out,refM_next Ha1.out Hx1.out Hn.out Hrf.out Ha3.out Hx2.out]
          rcases hcase.out with ⟨h,h2⟩ | ⟨h,h2,_⟩ | ⟨h,h2,_⟩ <;> first | omega | (rw [h];simp [refN,firstR]))
         go_wp2_with fail;refine bodyPost_ret (v := .agg (vInt n)) (by simp [results,Tryz.results76,go_sem,vInt,vZero,vRef,l1,z0,z1,z2,z3,z4,z5,z6,y0]) rfl ?_;have hr1 := hS.h0;have hr2 := hS.h1;have hr3 := hS.hlr;unfold RefPost;rw [E.out];refine ⟨rfl,hk,?_,?_⟩
         · have h := ((hS.odd_ (false) rfl).odd_ (true) rfl).rr;unfold Rd at h ⊢
           repeat first | with_reducible refine Blk.alloc ?_ _ | with_reducible refine Blk.far ?_ (show ¬ r = b1 from q1) _
           exact h
         have h := ((hS.odd_ (false) rfl).odd_ (true) rfl).oo
         repeat first | with_reducible exact h | with_reducible refine only_alloc ?_ _ | with_reducible refine only_setCell ?_ (.inr (show w.heap.size ≤ b1 by omega)) _
       have hcn : c.toNat ≠ 82 := fun h => hc (UInt8.toNat_inj.1 h)
       have tc : ((c.toNat : Int) == 82) = false := by rw [beq_eq_false_iff_ne];omega
       have E : Hid (fin = (.int,k,false)) := Lib.hid (by
        rw [Hf.out,refM_next Ha1.out Hx1.out Hn.out Hrf.out Ha3.out Hx2.out]
        rcases hcase.out with ⟨h,_⟩ | ⟨h,_⟩ | ⟨h,_⟩ <;> rw [h] <;> simp [refN,firstR,hc,hcn])
       go_wp2_with fail;refine bodyPost_ret (v := .agg (vInt n)) (by simp [results,Tryz.results76,go_sem,vInt,vZero,vRef,l1,z0,z1,z2,z3,z4,z5,z6,y0]) rfl ?_;have hr1 := hS.h0;have hr2 := hS.h1;have hr3 := hS.hlr;unfold RefPost;rw [E.out];refine ⟨rfl,hk,?_,?_⟩
       · have h := ((hS.odd_ (false) rfl).odd_ (false) rfl).rr;unfold Rd at h ⊢
         repeat first | with_reducible refine Blk.alloc ?_ _ | with_reducible refine Blk.far ?_ (show ¬ r = b1 from q1) _
         exact h
       have h := ((hS.odd_ (false) rfl).odd_ (false) rfl).oo
       repeat first | with_reducible exact h | with_reducible refine only_alloc ?_ _ | with_reducible refine only_setCell ?_ (.inr (show w.heap.size ≤ b1 by omega)) _
     by_cases hc : c = 82
     · subst hc
       have E : Hid (fin = (.int,k,true)) := Lib.hid (by
        rw [Hf.out,refM_next Ha1.out Hx1.out Hn.out Hrf.out Ha3.out Hx2.out]
        rcases hcase.out with ⟨h,_⟩ | ⟨h,_⟩ | ⟨h,_⟩ <;> rw [h] <;> simp [refN,firstR])
       go_wp2_with fail;refine bodyPost_ret (v := .agg (vInt n)) (by simp [results,Tryz.results76,go_sem,vInt,vZero,vRef,l1,z0,z1,z2,z3,z4,z5,z6,y0]) rfl ?_;have hr1 := hS.h0;have hr2 := hS.h1;have hr3 := hS.hlr;unfold RefPost;rw [E.out];refine ⟨rfl,hk,?_,?_⟩
       · have h := ((hS.odd_ (false) rfl).odd_ (true) rfl).rr;unfold Rd at h ⊢
         repeat first | with_reducible refine Blk.alloc ?_ _ | with_reducible refine Blk.far ?_ (show ¬ r = b1 from q1) _
         exact h
       have h := ((hS.odd_ (false) rfl).odd_ (true) rfl).oo
       repeat first | with_reducible exact h | with_reducible refine only_alloc ?_ _ | with_reducible refine only_setCell ?_ (.inr (show w.heap.size ≤ b1 by omega)) _
     have hcn : c.toNat ≠ 82 := fun h => hc (UInt8.toNat_inj.1 h)
     have tc : ((c.toNat : Int) == 82) = false := by rw [beq_eq_false_iff_ne];omega
     have E : Hid (fin = (.int,k,false)) := Lib.hid (by
      rw [Hf.out,refM_next Ha1.out Hx1.out Hn.out Hrf.out Ha3.out Hx2.out]
      rcases hcase.out with ⟨h,_⟩ | ⟨h,_⟩ | ⟨h,_⟩ <;> rw [h] <;> simp [refN,firstR,hc,hcn])
     go_wp2_with fail;refine bodyPost_ret (v := .agg (vInt n)) (by simp [results,Tryz.results76,go_sem,vInt,vZero,vRef,l1,z0,z1,z2,z3,z4,z5,z6,y0]) rfl ?_;have hr1 := hS.h0;have hr2 := hS.h1;have hr3 := hS.hlr;unfold RefPost;rw [E.out];refine ⟨rfl,hk,?_,?_⟩
     · have h := ((hS.odd_ (false) rfl).odd_ (false) rfl).rr;unfold Rd at h ⊢
       repeat first | with_reducible refine Blk.alloc ?_ _ | with_reducible refine Blk.far ?_ (show ¬ r = b1 from q1) _
       exact h
     have h := ((hS.odd_ (false) rfl).odd_ (false) rfl).oo
     repeat first | with_reducible exact h | with_reducible refine only_alloc ?_ _ | with_reducible refine only_setCell ?_ (.inr (show w.heap.size ≤ b1 by omega)) _
end Go.Proofs.YtcpijmbdibgdmaaGreatDoor
