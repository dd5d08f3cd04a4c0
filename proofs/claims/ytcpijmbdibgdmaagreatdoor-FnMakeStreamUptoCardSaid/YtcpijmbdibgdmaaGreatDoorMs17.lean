/-
  spec.reader.value: what it says, and the walk.
-/
import Derived.Test.YtcpijmbdibgdmaaGreatDoorMs07
set_option linter.all false
set_option maxHeartbeats 16000000
set_option maxRecDepth 100000
namespace Go.Proofs.YtcpijmbdibgdmaaGreatDoor
open Go.RowKit
attribute [local go_sem] ba_get store_flt
inductive VStep (pf : List UInt8 → Nat) (s : List UInt8) (A : Nat → Z → List SVal → Z → Prop) (D : VRel) (d : Nat) (z : Z) (k1 : Nat) (o1 : Bool) : SVal → Z → Prop
 | bad (hb : z.bad ≠ 0) : VStep pf s A D d z k1 o1 .null ⟨k1,z.bad,o1,z.ends⟩
 | deep (hb : z.bad = 0) (hd : 50 < d + 1) : VStep pf s A D d z k1 o1 .null ⟨k1,2,o1,z.ends⟩
 | over (hb : z.bad = 0) (hd : d + 1 ≤ 50) (hk : s.length ≤ k1) : VStep pf s A D d z k1 o1 .null ⟨k1,1,o1,z.ends || decide (0 < d)⟩
 | lit (hb : z.bad = 0) (hd : d + 1 ≤ 50) (hk : k1 < s.length) (hc : s[k1].toNat = 40) {out : List UInt8} {q : Nat} (hl : litAt s k1 = some (out,q)) : VStep pf s A D d z k1 o1 (.str out) ⟨q,0,o1,z.ends⟩
 | litOpen (hb : z.bad = 0) (hd : d + 1 ≤ 50) (hk : k1 < s.length) (hc : s[k1].toNat = 40) (hl : litAt s k1 = none) : VStep pf s A D d z k1 o1 (.str []) ⟨s.length,1,o1,true⟩
 | dict (hb : z.bad = 0) (hd : d + 1 ≤ 50) (hk : k1 < s.length) (hc : ([60,60] : List UInt8).isPrefixOf (s.drop k1) = true) {v : SVal} {z' : Z} (hD : D (d + 1) ⟨k1,0,o1,z.ends⟩ v z') : VStep pf s A D d z k1 o1 v z'
 | hex (hb : z.bad = 0) (hd : d + 1 ≤ 50) (hk : k1 < s.length) (hc : s[k1].toNat = 60) (hn : ([60,60] : List UInt8).isPrefixOf (s.drop k1) = false) {x : Nat × List UInt8 × Nat × Bool} (hx : x = hexAt s k1 o1) :
  VStep pf s A D d z k1 o1 (.str (if x.1 = 0 then x.2.1 else [])) ⟨x.2.2.1,x.1,x.2.2.2,z.ends⟩
 | name (hb : z.bad = 0) (hd : d + 1 ≤ 50) (hk : k1 < s.length) (hc : s[k1].toNat = 47) {x : Option (List UInt8) × Nat × Bool} (hx : x = nameAt s k1 o1) :
  VStep pf s A D d z k1 o1 (.name (x.1.getD [])) ⟨x.2.1,if x.1.isSome = true then 0 else 2,x.2.2,z.ends⟩
 | arr (hb : z.bad = 0) (hd : d + 1 ≤ 50) (hk : k1 < s.length) (hc : s[k1].toNat = 91) {l : List SVal} {z' : Z} (hA : A (d + 1) ⟨k1 + 1,0,o1,z.ends⟩ l z') : VStep pf s A D d z k1 o1 (.arr l) z'
 | delim (hb : z.bad = 0) (hd : d + 1 ≤ 50) (hk : k1 < s.length) (hc : s[k1].toNat ≠ 40 ∧ s[k1].toNat ≠ 60 ∧ s[k1].toNat ≠ 47 ∧ s[k1].toNat ≠ 91) (hdl : delimB s[k1] = true) : VStep pf s A D d z k1 o1 .null ⟨k1,1,o1,z.ends⟩
 | num (hb : z.bad = 0) (hd : d + 1 ≤ 50) (hk : k1 < s.length) (hdl : delimB s[k1] = false) {x : SVal × Nat × Bool × Nat} (hx : x = numF pf s k1 o1) : VStep pf s A D d z k1 o1 x.1 ⟨x.2.1,x.2.2.2,x.2.2.1,z.ends⟩
def VOne (pf : List UInt8 → Nat) (s : List UInt8) (A : Nat → Z → List SVal → Z → Prop) (D : VRel) : VRel := fun d z v z' => VStep pf s A D d z (skipAt s z.k z.odd).1 (skipAt s z.k z.odd).2 v z'
def DSaid (D : VRel) (W0 : World) (s : List UInt8) (m : Nat) : Prop :=
 ∀ (r d : Nat) (z : Z) (w : World),z.bad = 0 → z.k < s.length → ([60,60] : List UInt8).isPrefixOf (s.drop z.k) = true → s.length - z.k ≤ m → d ≤ 60 → W0.heap.size ≤ r → Below W0.heap.size W0 w → Rd w r s z.k z.bad d z.odd z.ends →
   Calls Tryz.prog 44 #[.pointer (some ⟨r,0,none⟩)] w (ValPost D s d z w r)
structure QS (w wr : World) (r b b2 : Nat) (s : List UInt8) (dp : Nat) (y : Z) (out : Array Value) : Prop where
 box : Blk wr b 52 #[.pointer (some ⟨r,0,none⟩)]
 res : Blk wr b2 34 out
 rd : Rd wr r s y.k y.bad dp y.odd y.ends
 oo : Only w wr r
 h0 : w.heap.size ≤ b
 h2 : w.heap.size ≤ b2
 hne : b ≠ b2
 hr : r < w.heap.size
section
variable {w wr w' : World} {r b b2 dp dp' : Nat} {s : List UInt8} {y y' : Z} {out : Array Value}
theorem QS.call (h : QS w wr r b b2 s dp y out) (hO : Only wr w' r) (hR : Rd w' r s y'.k y'.bad dp' y'.odd y'.ends) : QS w w' r b b2 s dp' y' out := by
 have h0 := h.h0;have h2 := h.h2;have hr := h.hr;exact ⟨Blk.grown h.box hO (fun e => by injection e with e;omega),Blk.grown h.res hO (fun e => by injection e with e;omega),hR,only_trans h.oo hO,h0,h2,h.hne,hr⟩
theorem QS.drewN (h : QS w wr r b b2 s dp y out) (n : Nat) : QS w (wr.drewN n) r b b2 s dp y out := h.call (only_drewN (only_refl _ _) n) h.rd
theorem QS.drew (h : QS w wr r b b2 s dp y out) : QS w wr.drew r b b2 s dp y out := h.call (only_drew (only_refl _ _)) h.rd
theorem QS.put (h : QS w wr r b b2 s dp y out) {new : Array Value} (hb : Blk w' b2 34 new) (hO : Only wr w' b2) : QS w w' r b b2 s dp y new := by
 have h0 := h.h0;have h2 := h.h2;have hr := h.hr;have hne := h.hne;exact ⟨Blk.grown h.box hO (fun e => by injection e with e;omega),hb,Blk.grown h.rd hO (fun e => by injection e with e;omega),only_grown h.oo hO (fun q e => by injection e with e;omega),h0,h2,hne,hr⟩
end
theorem Blk.put7 {w : World} {g : Nat} {a0 a1 a2 a3 a4 a5 a6 : Value} (h : Blk w g 34 #[a0,a1,a2,a3,a4,a5,a6]) (c0 c1 c2 c3 c4 c5 c6 : Value) :
 Blk (((((((w.setCell ⟨g,0,none⟩ c0).setCell ⟨g,1,none⟩ c1).setCell ⟨g,2,none⟩ c2).setCell ⟨g,3,none⟩ c3).setCell ⟨g,4,none⟩ c4).setCell ⟨g,5,none⟩ c5).setCell ⟨g,6,none⟩ c6) g 34 #[c0,c1,c2,c3,c4,c5,c6] := by
 have r0 := Blk.set_ h 0 c0;rw [show (#[a0,a1,a2,a3,a4,a5,a6] : Array Value).setIfInBounds 0 c0 = #[c0,a1,a2,a3,a4,a5,a6] by simp] at r0;have r1 := Blk.set_ r0 1 c1;rw [show (#[c0,a1,a2,a3,a4,a5,a6] : Array Value).setIfInBounds 1 c1 = #[c0,c1,a2,a3,a4,a5,a6] by simp] at r1;have r2 := Blk.set_ r1 2 c2;rw [show (#[c0,c1,a2,a3,a4,a5,a6] : Array Value).setIfInBounds 2 c2 = #[c0,c1,c2,a3,a4,a5,a6] by simp] at r2;have r3 := Blk.set_ r2 3 c3;rw [show (#[c0,c1,c2,a3,a4,a5,a6] : Array Value).setIfInBounds 3 c3 = #[c0,c1,c2,c3,a4,a5,a6] by simp] at r3;have r4 := Blk.set_ r3 4 c4;rw [show (#[c0,c1,c2,c3,a4,a5,a6] : Array Value).setIfInBounds 4 c4 = #[c0,c1,c2,c3,c4,a5,a6] by simp] at r4;have r5 := Blk.set_ r4 5 c5;rw [show (#[c0,c1,c2,c3,c4,a5,a6] : Array Value).setIfInBounds 5 c5 = #[c0,c1,c2,c3,c4,c5,a6] by simp] at r5;have r6 := Blk.set_ r5 6 c6;rw [show (#[c0,c1,c2,c3,c4,c5,a6] : Array Value).setIfInBounds 6 c6 = #[c0,c1,c2,c3,c4,c5,c6] by simp] at r6;exact r6
theorem VRep.shape {w : World} {F : Nat → Prop} {v : SVal} {cs : Array Value} (h : VRep w F v cs.toList) : ∃ (kd n g : Int) (x : Nat) (t : List UInt8) (kp : Option Addr) (ka kb : Nat) (vp : Option Addr) (va vb : Nat),
 cs = #[.int .i64 kd,.int .i64 n,.int .i64 g,.float .f64 x,S t,.slice kp ka kb,.slice vp va vb] := by
 obtain ⟨c⟩ := cs;cases v <;> unfold VRep at h <;> simp only [sv7,sNil] at h
 case arr l =>
  obtain ⟨v,xs,rfl,h2,_⟩ := h;obtain ⟨p,a,b,rfl⟩ := ownsRow_slice h2;exact ⟨_,_,_,_,_,_,_,_,_,_,_,rfl⟩
 case dict ks l =>
  obtain ⟨k,v,xs,rfl,h1,h2,_⟩ := h;obtain ⟨p,a,b,rfl⟩ := ownsRow_slice h2;obtain ⟨p',a',b',rfl⟩ := KeysAt.slice h1;exact ⟨_,_,_,_,_,_,_,_,_,_,_,rfl⟩
 all_goals (subst h;exact ⟨_,_,_,_,_,_,_,_,_,_,_,rfl⟩)
theorem VRep.after {w w' : World} {B B' : Nat} {v : SVal} {cs : List Value} (h : VRep w (fun i => B ≤ i) v cs) (hk : ∀ i,B ≤ i → i < w.heap.size → w'.heap[i]? = w.heap[i]?) (hB : B' ≤ B) : VRep w' (fun i => B' ≤ i) v cs :=
 VRep.mono (fun i hi hlt => ⟨hk i hi hlt,by omega⟩) v cs h
theorem hexAt_le (s : List UInt8) (k : Nat) (o : Bool) : k + 1 ≤ (hexAt s k o).2.2.1 := by unfold hexAt;simp only;omega
theorem nameAt_lt (s : List UInt8) (k : Nat) (o : Bool) : k < (nameAt s k o).2.1 := by unfold nameAt;simp only;omega
theorem wordAt_ge (s : List UInt8) (k : Nat) (o : Bool) : k ≤ (wordAt s k o).2.1 := by unfold wordAt;simp only;omega
theorem numF_flat (pf : List UInt8 → Nat) (s : List UInt8) (k : Nat) (o : Bool) (w : World) (F : Nat → Prop) : VRep w F (numF pf s k o).1 (numF pf s k o).1.flat.toList := by
 unfold numF;simp only
 repeat' split
 all_goals (unfold VRep;rfl)
theorem skipAt_ge (s : List UInt8) (k : Nat) (o : Bool) : k ≤ (skipAt s k o).1 := by unfold skipAt;simp only;omega
theorem refM_ge (s : List UInt8) (k : Nat) (odd : Bool) (n : Int) (t : List UInt8) : k ≤ (refM s k odd n t).2.1 := by
 have h1 := skipAt_ge s k odd;have h2 := wordAt_ge s (skipAt s k odd).1 (skipAt s k odd).2;have h3 := skipAt_ge s (wordAt s (skipAt s k odd).1 (skipAt s k odd).2).2.1 (wordAt s (skipAt s k odd).1 (skipAt s k odd).2).2.2;have h4 := wordAt_ge s (skipAt s (wordAt s (skipAt s k odd).1 (skipAt s k odd).2).2.1 (wordAt s (skipAt s k odd).1 (skipAt s k odd).2).2.2).1 (skipAt s (wordAt s (skipAt s k odd).1 (skipAt s k odd).2).2.1 (wordAt s (skipAt s k odd).1 (skipAt s k odd).2).2.2).2;unfold refM;simp only
 repeat' split
 all_goals first | exact Nat.le_refl _ | (simp only;omega)
theorem numF_gt (pf : List UInt8 → Nat) {s : List UInt8} {k : Nat} {o : Bool} (hk : k < s.length) (hd : delimB (s[k]'hk) = false) : k ≤ (numF pf s k o).2.1 ∧ ((numF pf s k o).2.2.2 = 0 → k < (numF pf s k o).2.1) := by
 have h1 := wordAt_ge s k o
 have hw : (wordAt s k o).1 ≠ [] → k < (wordAt s k o).2.1 := by
  intro h;unfold wordAt at h ⊢;simp only at h ⊢;rcases Nat.eq_zero_or_pos (wordR (s.drop k) o).1 with e | e
  · rw [e] at h;simp at h
  omega
 unfold numF;simp only;by_cases he : (wordAt s k o).1 = []
 · rw [he,if_neg (by simp),if_neg (by simp),if_neg (by simp),show numM [] = .refused from by simp [numM,cntM,unsign]];exact ⟨h1,fun h => by cases h⟩
 have h2 := hw he;have h3 : ∀ n,(wordAt s k o).2.1 ≤ (refM s (wordAt s k o).2.1 (wordAt s k o).2.2 n (wordAt s k o).1).2.1 := fun n => refM_ge _ _ _ _ _
 split
 · exact ⟨h1,fun _ => h2⟩
 split
 · exact ⟨h1,fun _ => h2⟩
 split
 · exact ⟨h1,fun _ => h2⟩
 split
 · exact ⟨h1,fun _ => h2⟩
 · exact ⟨h1,fun _ => h2⟩
 · exact ⟨h1,fun _ => h2⟩
 rename_i n _;have h4 := h3 n;split
 all_goals (rename_i heq;rw [heq] at h4;simp only at h4 ⊢;exact ⟨by omega,fun _ => by omega⟩)
theorem litM_pos : ∀ (m : Nat) (l : List UInt8) (o : Nat) (p : List UInt8 × Nat),litM m l o = some p → 1 ≤ p.2 := by
 intro m
 induction m with
 | zero => intro l' o' p hp;cases hp
 | succ m ih =>
   intro l' o' p hp;rcases l' with _ | ⟨c,l'⟩
   · cases hp
   rw [litM] at hp
   repeat' split at hp
   all_goals first | (injection hp with hp;rw [← hp];exact Nat.le_refl _) | (obtain ⟨q,hq,rfl⟩ := Option.map_eq_some_iff.1 hp;simp only;omega)
theorem litAt_lt {s : List UInt8} {k : Nat} {out : List UInt8} {q : Nat} (h : litAt s k = some (out,q)) : k < q := by
 obtain ⟨p,hp,he⟩ := Option.map_eq_some_iff.1 h;have := litM_pos _ _ _ _ hp;injection he with _ he;omega
theorem only_put7 (w : World) (g : Nat) (c0 c1 c2 c3 c4 c5 c6 : Value) : Only w (((((((w.setCell ⟨g,0,none⟩ c0).setCell ⟨g,1,none⟩ c1).setCell ⟨g,2,none⟩ c2).setCell ⟨g,3,none⟩ c3).setCell ⟨g,4,none⟩ c4).setCell ⟨g,5,none⟩ c5).setCell ⟨g,6,none⟩ c6) g :=
 only_set (only_set (only_set (only_set (only_set (only_set (only_set (only_refl _ _) _ _) _ _) _ _) _ _) _ _) _ _) _ _
theorem QS.put7 {w wr : World} {r b b2 dp : Nat} {s : List UInt8} {y : Z} {a0 a1 a2 a3 a4 a5 a6 : Value} (h : QS w wr r b b2 s dp y #[a0,a1,a2,a3,a4,a5,a6]) (c0 c1 c2 c3 c4 c5 c6 : Value) :
 QS w (((((((wr.setCell ⟨b2,0,none⟩ c0).setCell ⟨b2,1,none⟩ c1).setCell ⟨b2,2,none⟩ c2).setCell ⟨b2,3,none⟩ c3).setCell ⟨b2,4,none⟩ c4).setCell ⟨b2,5,none⟩ c5).setCell ⟨b2,6,none⟩ c6) r b b2 s dp y #[c0,c1,c2,c3,c4,c5,c6] :=
 h.put (Blk.put7 h.res _ _ _ _ _ _ _) (only_put7 _ _ _ _ _ _ _ _ _)
theorem QS.res7 {w w' : World} {r b b2 dp : Nat} {s : List UInt8} {y : Z} {q0 q1 q2 q3 q4 q5 q6 : Value} (h : QS w w' r b b2 s dp y #[q0,q1,q2,q3,q4,q5,q6]) (tmps : Array Value) (ht : tmps.getD 2 undef = .pointer (some ⟨b2,0,none⟩)) :
 (results Tryz.f20 tmps).run Tryz.prog w' = .ok (.agg #[q0,q1,q2,q3,q4,q5,q6]) w' := by
 have k0 := h.res.cell 0;have k1 := h.res.cell 1;have k2 := h.res.cell 2;have k3 := h.res.cell 3;have k4 := h.res.cell 4;have k5 := h.res.cell 5;have k6 := h.res.cell 6;simp at k0 k1 k2 k3 k4 k5 k6;simp at ht;simp [results,Tryz.results20,go_sem,ht,k0,k1,k2,k3,k4,k5,k6]
theorem val_leave {w w' : World} {r b b2 d : Nat} {s : List UInt8} {y : Z} {q0 q1 q2 q3 q4 q5 q6 : Value} (R : Ending → World → Prop) (tmps : Array Value) (hQ : QS w w' r b b2 s (d + 1) y #[q0,q1,q2,q3,q4,q5,q6]) (hd : d ≤ 60)
 (ht : tmps.getD 2 undef = .pointer (some ⟨b2,0,none⟩)) (hR : ∀ w2,QS w w2 r b b2 s d y #[q0,q1,q2,q3,q4,q5,q6] → R (.returned (.agg #[q0,q1,q2,q3,q4,q5,q6])) w2) :
 Leaves Tryz.prog Tryz.f20 tmps R [{ target := .fn (.func 40) #[.pointer (some ⟨b,0,none⟩)],args := #[] }] .returning w' := by
 refine leaves_cons (f := 40) (args := #[.pointer (some ⟨b,0,none⟩)]) (by simp) (by simp [go_sem]) ?_;refine (dec_any b r s y.k y.bad d y.odd y.ends .returning w' hd (hQ.box.cell 0) hQ.rd).mono ?_;rintro e u' w2 ⟨rfl,rfl,hA,hO⟩;have hq := hQ.call (y' := y) hO hA;exact ⟨_,hq.res7 tmps ht,hR _ hq⟩
theorem val_leave2 {w w' : World} {r b b2 d : Nat} {s : List UInt8} {y : Z} {q0 q1 q2 q3 q4 q5 q6 : Value} (R : Ending → World → Prop) (tmps : Array Value) (hQ : QS w w' r b b2 s (d + 1) y #[q0,q1,q2,q3,q4,q5,q6]) (hd : d ≤ 60)
 (ht : tmps.getD 2 undef = .pointer (some ⟨b2,0,none⟩)) (hR : ∀ w2,QS w w2 r b b2 s d y #[q0,q1,q2,q3,q4,q5,q6] → Only w' w2 r → R (.returned (.agg #[q0,q1,q2,q3,q4,q5,q6])) w2) :
 Leaves Tryz.prog Tryz.f20 tmps R [{ target := .fn (.func 40) #[.pointer (some ⟨b,0,none⟩)],args := #[] }] .returning w' := by
 refine leaves_cons (f := 40) (args := #[.pointer (some ⟨b,0,none⟩)]) (by simp) (by simp [go_sem]) ?_;refine (dec_any b r s y.k y.bad d y.odd y.ends .returning w' hd (hQ.box.cell 0) hQ.rd).mono ?_;rintro e u' w2 ⟨rfl,rfl,hA,hO⟩;have hq := hQ.call (y' := y) hO hA;exact ⟨_,hq.res7 tmps ht,hR _ hq hO⟩
theorem value_step (pf : List UInt8 → Nat) (W0 : World) (hpf : PFSaid pf W0) (s : List UInt8) (hs : s.length ≤ 268435456) (V D : VRel) (m : Nat)
 (hA : ∀ (r d : Nat) (z : Z) (w : World),z.bad = 0 → z.k < s.length → s.length - z.k ≤ m → d ≤ 60 → W0.heap.size ≤ r → Below W0.heap.size W0 w → Rd w r s z.k z.bad d z.odd z.ends → Calls Tryz.prog 47 #[.pointer (some ⟨r,0,none⟩)] w (ArrPost V s d z w r))
 (hD : DSaid D W0 s m) : ValSaid (VOne pf s (AOut V s) D) W0 s (m + 1) := by
 intro r d z w hk hm hd hr0 hW hR0;have hrB : r < w.heap.size := Blk.lt hR0;have HW := Lib.hid hW;have HA := Lib.hid hA;have HD := Lib.hid hD;have HP := Lib.hid hpf;clear hW hA hD hpf;have hmf : ∀ (fn : Fn) (first cap : Array Value) (w : World),(Instr.makeFunc fn first cap).run Tryz.prog w = .ok (.func fn first cap) w := fun _ _ _ _ => rfl
 go_enter_defers Tryz.func20,Tryz.ntmps20
 go_wp2_with fail;refine calls_gen (fun wr => QS w wr r w.heap.size (w.heap.size + 1) s d ⟨z.k,z.bad,z.odd,z.ends⟩ vZero) ?_ ?_
 · refine ⟨?_,?_,?_,?_,Nat.le_refl _,by omega,by omega,hrB⟩
   · exact Blk.alloc (Blk.newAt _ 52 #[.pointer (some ⟨r,0,none⟩)] _ rfl) _
   · exact Blk.newAt _ 34 vZero _ (by simp)
   · exact Blk.alloc (Blk.alloc hR0 _) _
   exact only_alloc (only_alloc (only_refl _ _) _) _
 obtain ⟨b2,hb2⟩ : ∃ b2,b2 = w.heap.size + 1 := ⟨_,rfl⟩;obtain ⟨b,hb⟩ : ∃ b,b = w.heap.size := ⟨_,rfl⟩;rw [← hb2,← hb];clear hb2 hb hR0;intro w0 hS0;refine (pass_any r s z.k z.bad d z.odd z.ends w0 hk hs hS0.rd).mono ?_;rintro e w1 ⟨rfl,hA,hO⟩;have hS1 := hS0.call (y' := ⟨(skipAt s z.k z.odd).1,z.bad,(skipAt s z.k z.odd).2,z.ends⟩) hO hA;clear hA hO hS0;have hk1 : (skipAt s z.k z.odd).1 ≤ s.length := skipAt_le hk;have hyk : z.k ≤ (skipAt s z.k z.odd).1 := by unfold skipAt;simp only;omega
 obtain ⟨⟨k1,o1⟩,ha1⟩ : ∃ a,a = skipAt s z.k z.odd := ⟨_,rfl⟩
 have hfin : ∀ (v : SVal) (z' : Z) (cs : Array Value) (w' : World),VStep pf s (AOut V s) D d z k1 o1 v z' → VRep w' (fun i => w.heap.size ≤ i) v cs.toList → z.k ≤ z'.k → z'.k ≤ s.length → (z'.bad = 0 → z.k < z'.k) → Rd w' r s z'.k z'.bad d z'.odd z'.ends → Only w w' r →
  ValPost (VOne pf s (AOut V s) D) s d z w r (.returned (.agg cs)) w' := fun v z' cs w' h1 h2 h3 h4 h5 h6 h7 => by
  refine ⟨v,cs,z',rfl,?_,h2,h3,h4,h5,h6,h7⟩;unfold VOne;rw [← ha1];exact h1
 rw [← ha1] at hS1 hk1 hyk;have Hfin := Lib.hid hfin;clear hfin ha1;simp only at hS1 hk1 hyk ⊢;obtain ⟨c0,c1,c2,c3,c4,c5⟩ := hS1.rd.cs;obtain ⟨f1,f2,f3,f4,f5⟩ := hS1.rd.fs;simp only at c1 c2 c4 c5;have cb : w1.cell? ⟨b,0,none⟩ = some (.pointer (some ⟨r,0,none⟩)) := hS1.box.cell 0;obtain ⟨z0,z1,z2,z3,z4,z5,z6⟩ := res_cells hS1.res rfl;have y0 := hS1.res.frozen 0;have y1 := hS1.res.frozen 1;have y2 := hS1.res.frozen 2;have y3 := hS1.res.frozen 3;have y4 := hS1.res.frozen 4;have y5 := hS1.res.frozen 5;have y6 := hS1.res.frozen 6;have l1 := hS1.res.lt;by_cases hzb : z.bad = 0
 · have tb : ((z.bad : Int) == 0) = true := by rw [beq_iff_eq];omega
   have tb' : ((z.bad : Int) != 0) = false := by rw [bne_eq_false_iff_eq];omega
   by_cases h50 : d + 1 ≤ 50
   · have t50 : decide ((50 : Int) < (d : Int) + 1) = false := by rw [decide_eq_false_iff_not];omega
     go_wp2_with fail;refine wp_gen (fun wx => QS w wx r b b2 s (d + 1) ⟨k1,0,o1,z.ends⟩ vZero) (hS1.call (only_set (only_refl _ _) 3 _) (by have := Rd.deep_ hS1.rd (d + 1) (v := .int .i64 ((d : Int) + 1)) (by go_num);rw [show (Z.mk k1 z.bad o1 z.ends).bad = 0 from hzb] at this;exact this)) ?_;clear c0 c1 c2 c3 c4 c5 f1 f2 f3 f4 f5 cb z0 z1 z2 z3 z4 z5 z6 y0 y1 y2 y3 y4 y5 y6 l1;intro w2 hS2;clear hS1;obtain ⟨c0,c1,c2,c3,c4,c5⟩ := hS2.rd.cs;obtain ⟨f1,f2,f3,f4,f5⟩ := hS2.rd.fs
     try simp only at c1 c2 c4 c5
     have cb : w2.cell? ⟨b,0,none⟩ = some (.pointer (some ⟨r,0,none⟩)) := hS2.box.cell 0;obtain ⟨z0,z1,z2,z3,z4,z5,z6⟩ := res_cells hS2.res rfl;have y0 := hS2.res.frozen 0;have y1 := hS2.res.frozen 1;have y2 := hS2.res.frozen 2;have y3 := hS2.res.frozen 3;have y4 := hS2.res.frozen 4;have y5 := hS2.res.frozen 5;have y6 := hS2.res.frozen 6;have l1 := hS2.res.lt;by_cases hkl : k1 < s.length
     · have tk : decide ((s.length : Int) ≤ (k1 : Int)) = false := by rw [decide_eq_false_iff_not];omega
       go_wp2_with fail;go_quiet (fail);go_wp2_with fail;by_cases h40 : (s[k1]'hkl).toNat = 40
       · have t40 : ((((s[k1]'hkl).toNat : Nat) : Int) == 40) = true := by rw [beq_iff_eq];omega
         have H40 := Lib.hid h40;clear h40;go_wp2_with fail;go_quiet (fail);go_wp2_with fail;refine calls_gen (fun wx => QS w wx r b b2 s (d + 1) ⟨k1,0,o1,z.ends⟩ vZero) (by repeat first | exact hS2 | refine QS.drewN ?_ _ | refine QS.drew ?_) ?_;clear c0 c1 c2 c3 c4 c5 f1 f2 f3 f4 f5 cb z0 z1 z2 z3 z4 z5 z6 y0 y1 y2 y3 y4 y5 y6 l1;intro w3 hS3;clear hS2;refine (literal_any r s k1 0 (d + 1) o1 z.ends w3 hkl H40.out hs hS3.rd).mono ?_;rintro e w4 (⟨out,q,hfin,rfl,hq,hA,hO⟩ | ⟨hfin,rfl,hA,hO⟩)
         · have hS4 := hS3.call (y' := ⟨q,0,o1,z.ends⟩) hO hA;clear hA hO hS3;have hqk := litAt_lt hfin;have Hfl := Lib.hid hfin;clear hfin;obtain ⟨c0,c1,c2,c3,c4,c5⟩ := hS4.rd.cs;obtain ⟨f1,f2,f3,f4,f5⟩ := hS4.rd.fs
           try simp only at c1 c2 c4 c5
           have cb : w4.cell? ⟨b,0,none⟩ = some (.pointer (some ⟨r,0,none⟩)) := hS4.box.cell 0;obtain ⟨z0,z1,z2,z3,z4,z5,z6⟩ := res_cells hS4.res rfl;have y0 := hS4.res.frozen 0;have y1 := hS4.res.frozen 1;have y2 := hS4.res.frozen 2;have y3 := hS4.res.frozen 3;have y4 := hS4.res.frozen 4;have y5 := hS4.res.frozen 5;have y6 := hS4.res.frozen 6;have l1 := hS4.res.lt
           try dsimp only [vZero]
           go_wp2_with fail;refine val_leave _ _ (hS4.put7 _ _ _ _ _ _ _) hd ?_ ?_
           · rfl
           intro wl hSl;exact Hfin.out _ _ _ _ (.lit hzb h50 hkl H40.out Hfl.out) (by unfold VRep;rfl) (by simp only;omega) (by simp only;omega) (by intro _;simp only;omega) hSl.rd hSl.oo
         have hS4 := hS3.call (y' := ⟨s.length,1,o1,true⟩) hO hA;clear hA hO hS3;have Hfl := Lib.hid hfin;clear hfin;obtain ⟨c0,c1,c2,c3,c4,c5⟩ := hS4.rd.cs;obtain ⟨f1,f2,f3,f4,f5⟩ := hS4.rd.fs
         try simp only at c1 c2 c4 c5
         have cb : w4.cell? ⟨b,0,none⟩ = some (.pointer (some ⟨r,0,none⟩)) := hS4.box.cell 0;obtain ⟨z0,z1,z2,z3,z4,z5,z6⟩ := res_cells hS4.res rfl;have y0 := hS4.res.frozen 0;have y1 := hS4.res.frozen 1;have y2 := hS4.res.frozen 2;have y3 := hS4.res.frozen 3;have y4 := hS4.res.frozen 4;have y5 := hS4.res.frozen 5;have y6 := hS4.res.frozen 6;have l1 := hS4.res.lt
         try dsimp only [vZero]
         go_wp2_with fail;refine val_leave _ _ (hS4.put7 _ _ _ _ _ _ _) hd ?_ ?_
         · rfl
         intro wl hSl;exact Hfin.out _ _ _ _ (.litOpen hzb h50 hkl H40.out Hfl.out) (by unfold VRep;rfl) (by simp only;omega) (by simp only;omega) (by intro h;simp at h) hSl.rd hSl.oo
       have t40 : ((((s[k1]'hkl).toNat : Nat) : Int) == 40) = false := by rw [beq_eq_false_iff_ne];omega
       go_wp2_with fail;go_quiet (fail);go_wp2_with fail;refine calls_gen (fun wx => QS w wx r b b2 s (d + 1) ⟨k1,0,o1,z.ends⟩ vZero) (by repeat first | exact hS2 | refine QS.drewN ?_ _ | refine QS.drew ?_) ?_;clear c0 c1 c2 c3 c4 c5 f1 f2 f3 f4 f5 cb z0 z1 z2 z3 z4 z5 z6 y0 y1 y2 y3 y4 y5 y6 l1;intro w3 hS3;clear hS2;refine (is_any r s [60,60] k1 0 (d + 1) o1 z.ends w3 hk1 hs (by simp) hS3.rd).mono ?_;rintro e w4 ⟨rfl,nn,rfl⟩;have hS4 := hS3.drewN nn;clear hS3;generalize w3.drewN nn = w4 at hS4 ⊢
       cases hdd : ([60,60] : List UInt8).isPrefixOf (s.drop k1) with
       | true =>
         have Hdd := Lib.hid hdd;clear hdd;obtain ⟨c0,c1,c2,c3,c4,c5⟩ := hS4.rd.cs;obtain ⟨f1,f2,f3,f4,f5⟩ := hS4.rd.fs
         try simp only at c1 c2 c4 c5
         have cb : w4.cell? ⟨b,0,none⟩ = some (.pointer (some ⟨r,0,none⟩)) := hS4.box.cell 0;obtain ⟨z0,z1,z2,z3,z4,z5,z6⟩ := res_cells hS4.res rfl;have y0 := hS4.res.frozen 0;have y1 := hS4.res.frozen 1;have y2 := hS4.res.frozen 2;have y3 := hS4.res.frozen 3;have y4 := hS4.res.frozen 4;have y5 := hS4.res.frozen 5;have y6 := hS4.res.frozen 6;have l1 := hS4.res.lt;go_wp2_with fail;refine calls_gen (fun wx => QS w wx r b b2 s (d + 1) ⟨k1,0,o1,z.ends⟩ vZero) (by repeat first | exact hS4 | refine QS.drewN ?_ _ | refine QS.drew ?_) ?_;clear c0 c1 c2 c3 c4 c5 f1 f2 f3 f4 f5 cb z0 z1 z2 z3 z4 z5 z6 y0 y1 y2 y3 y4 y5 y6 l1;intro w5 hS5;clear hS4;refine (HD.out r (d + 1) ⟨k1,0,o1,z.ends⟩ w5 rfl hkl Hdd.out (by simp only;omega) (by omega) hr0 (since_only HW.out hS5.oo hr0) hS5.rd).mono ?_;rintro e w6 ⟨v,cs,z',rfl,hv,hRep,h1,h2,h3,hA,hO⟩;obtain ⟨kd,kn,kg,kx,kt,kp,ka,kb,vp,va,vb,rfl⟩ := VRep.shape hRep;have hS6 := hS5.call (y' := z') hO hA;have hge := hS5.oo.size;have hS5lt := hS5.res.lt;clear hA hO hS5;simp only at h1 h3;obtain ⟨c0,c1,c2,c3,c4,c5⟩ := hS6.rd.cs;obtain ⟨f1,f2,f3,f4,f5⟩ := hS6.rd.fs
         try simp only at c1 c2 c4 c5
         have cb : w6.cell? ⟨b,0,none⟩ = some (.pointer (some ⟨r,0,none⟩)) := hS6.box.cell 0;obtain ⟨z0,z1,z2,z3,z4,z5,z6⟩ := res_cells hS6.res rfl;have y0 := hS6.res.frozen 0;have y1 := hS6.res.frozen 1;have y2 := hS6.res.frozen 2;have y3 := hS6.res.frozen 3;have y4 := hS6.res.frozen 4;have y5 := hS6.res.frozen 5;have y6 := hS6.res.frozen 6;have l1 := hS6.res.lt;go_wp2_with fail;refine val_leave2 _ _ (hS6.put7 _ _ _ _ _ _ _) hd ?_ ?_
         · rfl
         intro wl hSl hOl;have hwl : ∀ i,w5.heap.size ≤ i → i < w6.heap.size → wl.heap[i]? = w6.heap[i]? := fun i hi hlt => (hOl.block i (Nat.lt_of_lt_of_le hlt (only_put7 _ _ _ _ _ _ _ _ _).size) (fun e => by injection e with e;omega)).trans ((only_put7 w6 b2 _ _ _ _ _ _ _).block i hlt (fun e => by injection e with e;have := hS5lt;omega))
         exact Hfin.out _ _ _ _ (.dict hzb h50 hkl Hdd.out hv) (VRep.after hRep hwl hge) (by omega) h2 (by intro h;have := h3 h;omega) hSl.rd hSl.oo
       | false =>
         have Hdd := Lib.hid hdd;clear hdd;obtain ⟨c0,c1,c2,c3,c4,c5⟩ := hS4.rd.cs;obtain ⟨f1,f2,f3,f4,f5⟩ := hS4.rd.fs
         try simp only at c1 c2 c4 c5
         have cb : w4.cell? ⟨b,0,none⟩ = some (.pointer (some ⟨r,0,none⟩)) := hS4.box.cell 0;obtain ⟨z0,z1,z2,z3,z4,z5,z6⟩ := res_cells hS4.res rfl;have y0 := hS4.res.frozen 0;have y1 := hS4.res.frozen 1;have y2 := hS4.res.frozen 2;have y3 := hS4.res.frozen 3;have y4 := hS4.res.frozen 4;have y5 := hS4.res.frozen 5;have y6 := hS4.res.frozen 6;have l1 := hS4.res.lt;by_cases h60 : (s[k1]'hkl).toNat = 60
         · have t60 : ((((s[k1]'hkl).toNat : Nat) : Int) == 60) = true := by rw [beq_iff_eq];omega
           have H60 := Lib.hid h60;clear h60;go_wp2_with fail;go_quiet (fail);go_wp2_with fail;refine calls_gen (fun wx => QS w wx r b b2 s (d + 1) ⟨k1,0,o1,z.ends⟩ vZero) (by repeat first | exact hS4 | refine QS.drewN ?_ _ | refine QS.drew ?_) ?_;clear c0 c1 c2 c3 c4 c5 f1 f2 f3 f4 f5 cb z0 z1 z2 z3 z4 z5 z6 y0 y1 y2 y3 y4 y5 y6 l1;intro w5 hS5;clear hS4;refine (hex_read r s k1 0 (d + 1) o1 z.ends w5 hkl hs hS5.rd).mono ?_;obtain ⟨hx,hhx⟩ : ∃ hx,hx = hexAt s k1 o1 := ⟨_,rfl⟩;have hxge := hexAt_le s k1 o1;rw [← hhx] at hxge ⊢;obtain ⟨out,hout⟩ : ∃ out,out = (if hx.1 = 0 then hx.2.1 else []) := ⟨_,rfl⟩;unfold HexPost;rw [← hout];have Hout := Lib.hid hout;clear hout;rintro e w6 ⟨rfl,hq,hA,hO⟩;have e0 : (if hx.1 = 0 then 0 else if (0 : Nat) = 0 then hx.1 else 0) = hx.1 := by split <;> simp_all
           rw [e0] at hA;have hS6 := hS5.call (y' := ⟨hx.2.2.1,hx.1,hx.2.2.2,z.ends⟩) hO hA;clear hA hO hS5;have Hhx := Lib.hid hhx;clear hhx;obtain ⟨c0,c1,c2,c3,c4,c5⟩ := hS6.rd.cs;obtain ⟨f1,f2,f3,f4,f5⟩ := hS6.rd.fs
           try simp only at c1 c2 c4 c5
           have cb : w6.cell? ⟨b,0,none⟩ = some (.pointer (some ⟨r,0,none⟩)) := hS6.box.cell 0;obtain ⟨z0,z1,z2,z3,z4,z5,z6⟩ := res_cells hS6.res rfl;have y0 := hS6.res.frozen 0;have y1 := hS6.res.frozen 1;have y2 := hS6.res.frozen 2;have y3 := hS6.res.frozen 3;have y4 := hS6.res.frozen 4;have y5 := hS6.res.frozen 5;have y6 := hS6.res.frozen 6;have l1 := hS6.res.lt
           try dsimp only [vZero]
           go_wp2_with fail;refine val_leave _ _ (hS6.put7 _ _ _ _ _ _ _) hd ?_ ?_
           · rfl
           intro wl hSl;exact Hfin.out _ _ _ _ (show VStep pf s (AOut V s) D d z k1 o1 (.str out) ⟨hx.2.2.1,hx.1,hx.2.2.2,z.ends⟩ from by rw [Hout.out];exact .hex hzb h50 hkl H60.out Hdd.out Hhx.out) (by unfold VRep;rfl) (by simp only;omega) (by simp only;omega) (by intro _;simp only;omega) hSl.rd hSl.oo
         have t60 : ((((s[k1]'hkl).toNat : Nat) : Int) == 60) = false := by rw [beq_eq_false_iff_ne];omega
         have H60 := Lib.hid h60;clear h60;by_cases h47 : (s[k1]'hkl).toNat = 47
         · have t47 : ((((s[k1]'hkl).toNat : Nat) : Int) == 47) = true := by rw [beq_iff_eq];omega
           have H47 := Lib.hid h47;clear h47;go_wp2_with fail;go_quiet (fail);go_wp2_with fail;go_quiet (fail);go_wp2_with fail;refine calls_gen (fun wx => QS w wx r b b2 s (d + 1) ⟨k1,0,o1,z.ends⟩ vZero) (by repeat first | exact hS4 | refine QS.drewN ?_ _ | refine QS.drew ?_) ?_;clear c0 c1 c2 c3 c4 c5 f1 f2 f3 f4 f5 cb z0 z1 z2 z3 z4 z5 z6 y0 y1 y2 y3 y4 y5 y6 l1;intro w5 hS5;clear hS4;refine (name_read r s k1 0 (d + 1) o1 z.ends w5 hkl hs hS5.rd).mono ?_;obtain ⟨hx,hhx⟩ : ∃ hx,hx = nameAt s k1 o1 := ⟨_,rfl⟩;have hxge := nameAt_lt s k1 o1;rw [← hhx] at hxge ⊢;rintro e w6 ⟨rfl,hq,hA,hO⟩;have e0 : (if hx.1.isSome = true ∨ (0 : Nat) ≠ 0 then 0 else 2) = (if hx.1.isSome = true then 0 else 2) := by simp
           rw [e0] at hA;have hS6 := hS5.call (y' := ⟨hx.2.1,if hx.1.isSome = true then 0 else 2,hx.2.2,z.ends⟩) hO hA;clear hA hO hS5;have Hhx := Lib.hid hhx;clear hhx;obtain ⟨c0,c1,c2,c3,c4,c5⟩ := hS6.rd.cs;obtain ⟨f1,f2,f3,f4,f5⟩ := hS6.rd.fs
           try simp only at c1 c2 c4 c5
           have cb : w6.cell? ⟨b,0,none⟩ = some (.pointer (some ⟨r,0,none⟩)) := hS6.box.cell 0;obtain ⟨z0,z1,z2,z3,z4,z5,z6⟩ := res_cells hS6.res rfl;have y0 := hS6.res.frozen 0;have y1 := hS6.res.frozen 1;have y2 := hS6.res.frozen 2;have y3 := hS6.res.frozen 3;have y4 := hS6.res.frozen 4;have y5 := hS6.res.frozen 5;have y6 := hS6.res.frozen 6;have l1 := hS6.res.lt
           try dsimp only [vZero]
           go_wp2_with fail;refine val_leave _ _ (hS6.put7 _ _ _ _ _ _ _) hd ?_ ?_
           · rfl
           intro wl hSl;exact Hfin.out _ _ _ _ (.name hzb h50 hkl H47.out Hhx.out) (by unfold VRep;rfl) (by simp only;omega) (by simp only;omega) (by intro _;simp only;omega) hSl.rd hSl.oo
         have t47 : ((((s[k1]'hkl).toNat : Nat) : Int) == 47) = false := by rw [beq_eq_false_iff_ne];omega
         have H47 := Lib.hid h47;clear h47;by_cases h91 : (s[k1]'hkl).toNat = 91
         · have t91 : ((((s[k1]'hkl).toNat : Nat) : Int) == 91) = true := by rw [beq_iff_eq];omega
           have H91 := Lib.hid h91;clear h91;go_wp2_with fail;go_quiet (fail);go_wp2_with fail;go_quiet (fail);go_wp2_with fail;go_quiet (fail);go_wp2_with fail;refine calls_gen (fun wx => QS w wx r b b2 s (d + 1) ⟨k1,0,o1,z.ends⟩ vZero) (by repeat first | exact hS4 | refine QS.drewN ?_ _ | refine QS.drew ?_) ?_;clear c0 c1 c2 c3 c4 c5 f1 f2 f3 f4 f5 cb z0 z1 z2 z3 z4 z5 z6 y0 y1 y2 y3 y4 y5 y6 l1;intro w5 hS5;clear hS4;refine (HA.out r (d + 1) ⟨k1,0,o1,z.ends⟩ w5 rfl hkl (by simp only;omega) (by omega) hr0 (since_only HW.out hS5.oo hr0) hS5.rd).mono ?_;rintro e w6 ⟨l,v,xs,z',rfl,hv,h1,h2,hown,hfr,hkr,hA,hO⟩;obtain ⟨vp,va,vb,rfl⟩ := ownsRow_slice hown;have hS6 := hS5.call (y' := z') hO hA;have hge := hS5.oo.size;have hS5lt := hS5.res.lt;clear hA hO hS5;simp only at h1
           have hRep : VRep w6 (fun i => w5.heap.size ≤ i) (.arr l) (#[.int .i64 6,.int .i64 0,.int .i64 0,.float .f64 0,S [],.slice none 0 0,.slice vp va vb] : Array Value).toList := by
            unfold VRep;exact ⟨_,xs,rfl,hown,hfr,hkr⟩
           clear hown hfr hkr;obtain ⟨c0,c1,c2,c3,c4,c5⟩ := hS6.rd.cs;obtain ⟨f1,f2,f3,f4,f5⟩ := hS6.rd.fs
           try simp only at c1 c2 c4 c5
           have cb : w6.cell? ⟨b,0,none⟩ = some (.pointer (some ⟨r,0,none⟩)) := hS6.box.cell 0;obtain ⟨z0,z1,z2,z3,z4,z5,z6⟩ := res_cells hS6.res rfl;have y0 := hS6.res.frozen 0;have y1 := hS6.res.frozen 1;have y2 := hS6.res.frozen 2;have y3 := hS6.res.frozen 3;have y4 := hS6.res.frozen 4;have y5 := hS6.res.frozen 5;have y6 := hS6.res.frozen 6;have l1 := hS6.res.lt
           try dsimp only [vArr]
           go_wp2_with fail;refine val_leave2 _ _ (hS6.put7 _ _ _ _ _ _ _) hd ?_ ?_
           · rfl
           intro wl hSl hOl;have hwl : ∀ i,w5.heap.size ≤ i → i < w6.heap.size → wl.heap[i]? = w6.heap[i]? := fun i hi hlt => (hOl.block i (Nat.lt_of_lt_of_le hlt (only_put7 _ _ _ _ _ _ _ _ _).size) (fun e => by injection e with e;omega)).trans ((only_put7 w6 b2 _ _ _ _ _ _ _).block i hlt (fun e => by injection e with e;have := hS5lt;omega))
           exact Hfin.out _ _ _ _ (.arr hzb h50 hkl H91.out hv) (VRep.after hRep hwl hge) (by omega) h2 (by intro _;omega) hSl.rd hSl.oo
         have t91 : ((((s[k1]'hkl).toNat : Nat) : Int) == 91) = false := by rw [beq_eq_false_iff_ne];omega
         have H91 := Lib.hid h91;clear h91;go_wp2_with fail;go_quiet (fail);go_wp2_with fail;go_quiet (fail);go_wp2_with fail;go_quiet (fail);go_wp2_with fail;refine wp_region_quiet_lit (by kernel_rfl) (by kernel_rfl) ?_
         repeat (go_big_quiet_step (fail))
         go_big_quiet_want;go_big_quiet_op
         apply Exists.intro;refine ⟨fun _ => ?_,?_⟩
         · first | exact quiet_left (delim_any (s[k1]'hkl) _) | exact quiet_add_left (delim_any (s[k1]'hkl) _)
         go_big_quiet_on
         repeat (go_big_quiet_step (fail))
         refine wpQuiet_nil ?_;intro _ hw';obtain ⟨nq,hw''⟩ := hw';subst hw''
         cases hdl : delimB (s[k1]'hkl) with
         | true =>
           have Hdl := Lib.hid hdl;clear hdl;go_wp2_with fail;refine calls_gen (fun wx => QS w wx r b b2 s (d + 1) ⟨k1,0,o1,z.ends⟩ vZero) (by repeat first | exact hS4 | refine QS.drewN ?_ _ | refine QS.drew ?_) ?_;clear c0 c1 c2 c3 c4 c5 f1 f2 f3 f4 f5 cb z0 z1 z2 z3 z4 z5 z6 y0 y1 y2 y3 y4 y5 y6 l1;intro w5 hS5;clear hS4;refine (fail_any r s k1 0 (d + 1) 1 o1 z.ends w5 hS5.rd).mono ?_;rintro e w6 ⟨rfl,hA,hO⟩;have hS6 := hS5.call (y' := ⟨k1,1,o1,z.ends⟩) hO hA;clear hA hO hS5;obtain ⟨c0,c1,c2,c3,c4,c5⟩ := hS6.rd.cs;obtain ⟨f1,f2,f3,f4,f5⟩ := hS6.rd.fs
           try simp only at c1 c2 c4 c5
           have cb : w6.cell? ⟨b,0,none⟩ = some (.pointer (some ⟨r,0,none⟩)) := hS6.box.cell 0;obtain ⟨z0,z1,z2,z3,z4,z5,z6⟩ := res_cells hS6.res rfl;have y0 := hS6.res.frozen 0;have y1 := hS6.res.frozen 1;have y2 := hS6.res.frozen 2;have y3 := hS6.res.frozen 3;have y4 := hS6.res.frozen 4;have y5 := hS6.res.frozen 5;have y6 := hS6.res.frozen 6;have l1 := hS6.res.lt
           try dsimp only [vZero]
           go_wp2_with fail;refine val_leave _ _ (hS6.put7 _ _ _ _ _ _ _) hd ?_ ?_
           · rfl
           intro wl hSl;exact Hfin.out _ _ _ _ (.delim hzb h50 hkl ⟨h40,H60.out,H47.out,H91.out⟩ Hdl.out) (by unfold VRep;rfl) (by simp only;omega) (by simp only;omega) (by intro h;simp at h) hSl.rd hSl.oo
         | false =>
           have Hdl := Lib.hid hdl;clear hdl;go_wp2_with fail;refine calls_gen (fun wx => QS w wx r b b2 s (d + 1) ⟨k1,0,o1,z.ends⟩ vZero) (by repeat first | exact hS4 | refine QS.drewN ?_ _ | refine QS.drew ?_) ?_;clear c0 c1 c2 c3 c4 c5 f1 f2 f3 f4 f5 cb z0 z1 z2 z3 z4 z5 z6 y0 y1 y2 y3 y4 y5 y6 l1;intro w5 hS5;clear hS4;refine (numb_any pf W0 HP.out r s k1 0 (d + 1) o1 z.ends w5 hk1 hs hr0 (since_only HW.out hS5.oo hr0) hS5.rd).mono ?_;obtain ⟨hx,hhx⟩ : ∃ hx,hx = numF pf s k1 o1 := ⟨_,rfl⟩;have hfl := numF_flat pf s k1 o1;have hxge := numF_gt pf (o := o1) hkl Hdl.out;rw [← hhx] at hxge hfl ⊢;rintro e w6 ⟨rfl,hq,hA,hO⟩;have e0 : badOf 0 hx.2.2.2 = hx.2.2.2 := by unfold badOf;split <;> simp_all
           rw [e0] at hA;have hS6 := hS5.call (y' := ⟨hx.2.1,hx.2.2.2,hx.2.2.1,z.ends⟩) hO hA;clear hA hO hS5;have Hhx := Lib.hid hhx;clear hhx;obtain ⟨kd,kn,kg,kx,kt,kp,ka,kb,vp,va,vb,hsh⟩ := VRep.shape (hfl w6 (fun _ => True));rw [hsh] at hfl ⊢;obtain ⟨c0,c1,c2,c3,c4,c5⟩ := hS6.rd.cs;obtain ⟨f1,f2,f3,f4,f5⟩ := hS6.rd.fs
           try simp only at c1 c2 c4 c5
           have cb : w6.cell? ⟨b,0,none⟩ = some (.pointer (some ⟨r,0,none⟩)) := hS6.box.cell 0;obtain ⟨z0,z1,z2,z3,z4,z5,z6⟩ := res_cells hS6.res rfl;have y0 := hS6.res.frozen 0;have y1 := hS6.res.frozen 1;have y2 := hS6.res.frozen 2;have y3 := hS6.res.frozen 3;have y4 := hS6.res.frozen 4;have y5 := hS6.res.frozen 5;have y6 := hS6.res.frozen 6;have l1 := hS6.res.lt
           try dsimp only [vZero]
           go_wp2_with fail;refine val_leave _ _ (hS6.put7 _ _ _ _ _ _ _) hd ?_ ?_
           · rfl
           intro wl hSl;exact Hfin.out _ _ _ _ (.num hzb h50 hkl Hdl.out Hhx.out) (hfl _ _) (by simp only;omega) (by simp only;omega) (fun h => Nat.lt_of_le_of_lt hyk (hxge.2 h)) hSl.rd hSl.oo
     have tk : decide ((s.length : Int) ≤ (k1 : Int)) = true := by rw [decide_eq_true_eq];omega
     go_wp2_with fail;go_quiet (fail);go_wp2_with fail
     cases hze : z.ends with
     | true =>
       rw [hze] at c5;refine region_tailq 12 (by kernel_rfl) (by kernel_rfl) ?_;intro w3 e3;have hS3 : QS w w3 r b b2 s (d + 1) ⟨k1,0,o1,z.ends⟩ vZero := by rw [e3];repeat first | exact hS2 | refine QS.drewN ?_ _ | refine QS.drew ?_
       clear e3 hS2;clear c0 c1 c2 c3 c4 c5 f1 f2 f3 f4 f5 cb z0 z1 z2 z3 z4 z5 z6 y0 y1 y2 y3 y4 y5 y6 l1;obtain ⟨c0,c1,c2,c3,c4,c5⟩ := hS3.rd.cs;obtain ⟨f1,f2,f3,f4,f5⟩ := hS3.rd.fs
       try simp only at c1 c2 c4 c5
       have cb : w3.cell? ⟨b,0,none⟩ = some (.pointer (some ⟨r,0,none⟩)) := hS3.box.cell 0;obtain ⟨z0,z1,z2,z3,z4,z5,z6⟩ := res_cells hS3.res rfl;have y0 := hS3.res.frozen 0;have y1 := hS3.res.frozen 1;have y2 := hS3.res.frozen 2;have y3 := hS3.res.frozen 3;have y4 := hS3.res.frozen 4;have y5 := hS3.res.frozen 5;have y6 := hS3.res.frozen 6;have l1 := hS3.res.lt;rw [hze] at c5;simp only [List.take_succ_cons,List.take_zero,List.drop_succ_cons,List.drop_zero]
       repeat (go_big_quiet_step (fail))
       refine wpQuiet_nil ?_;go_wp2_with fail;have hE : (z.ends || decide (0 < d)) = true := by simp [hze]
       refine calls_gen (fun wx => QS w wx r b b2 s (d + 1) ⟨k1,0,o1,true⟩ vZero) (hS3.call (only_set (only_refl _ _) 5 _) (Rd.ends_ hS3.rd true rfl)) ?_;clear c0 c1 c2 c3 c4 c5 f1 f2 f3 f4 f5 cb z0 z1 z2 z3 z4 z5 z6 y0 y1 y2 y3 y4 y5 y6 l1;clear hS3;intro w4 hS4;refine (fail_any r s k1 0 (d + 1) 1 o1 true w4 hS4.rd).mono ?_;rintro e w5 ⟨rfl,hA,hO⟩;have hS5 := hS4.call (y' := ⟨k1,1,o1,true⟩) hO hA;clear hA hO hS4;obtain ⟨c0,c1,c2,c3,c4,c5⟩ := hS5.rd.cs;obtain ⟨f1,f2,f3,f4,f5⟩ := hS5.rd.fs
       try simp only at c1 c2 c4 c5
       have cb : w5.cell? ⟨b,0,none⟩ = some (.pointer (some ⟨r,0,none⟩)) := hS5.box.cell 0;obtain ⟨z0,z1,z2,z3,z4,z5,z6⟩ := res_cells hS5.res rfl;have y0 := hS5.res.frozen 0;have y1 := hS5.res.frozen 1;have y2 := hS5.res.frozen 2;have y3 := hS5.res.frozen 3;have y4 := hS5.res.frozen 4;have y5 := hS5.res.frozen 5;have y6 := hS5.res.frozen 6;have l1 := hS5.res.lt
       try dsimp only [vZero]
       go_wp2_with fail;refine val_leave _ _ (hS5.put7 _ _ _ _ _ _ _) hd ?_ ?_
       · rfl
       intro wl hSl;exact Hfin.out _ _ _ _ (by have := VStep.over (pf := pf) (s := s) (A := AOut V s) (D := D) (d := d) (z := z) (k1 := k1) (o1 := o1) hzb h50 (by omega);rw [hE] at this;exact this) (by unfold VRep;rfl) (by simp only;omega) (by simp only;omega) (by intro h;simp at h) hSl.rd hSl.oo
     | false =>
       rw [hze] at c5;by_cases hdz : d = 0
       · have t1 : decide ((1 : Int) < (d : Int) + 1) = false := by rw [decide_eq_false_iff_not];omega
         refine region_tailq 12 (by kernel_rfl) (by kernel_rfl) ?_;intro w3 e3;have hS3 : QS w w3 r b b2 s (d + 1) ⟨k1,0,o1,z.ends⟩ vZero := by rw [e3];repeat first | exact hS2 | refine QS.drewN ?_ _ | refine QS.drew ?_
         clear e3 hS2;clear c0 c1 c2 c3 c4 c5 f1 f2 f3 f4 f5 cb z0 z1 z2 z3 z4 z5 z6 y0 y1 y2 y3 y4 y5 y6 l1;obtain ⟨c0,c1,c2,c3,c4,c5⟩ := hS3.rd.cs;obtain ⟨f1,f2,f3,f4,f5⟩ := hS3.rd.fs
         try simp only at c1 c2 c4 c5
         have cb : w3.cell? ⟨b,0,none⟩ = some (.pointer (some ⟨r,0,none⟩)) := hS3.box.cell 0;obtain ⟨z0,z1,z2,z3,z4,z5,z6⟩ := res_cells hS3.res rfl;have y0 := hS3.res.frozen 0;have y1 := hS3.res.frozen 1;have y2 := hS3.res.frozen 2;have y3 := hS3.res.frozen 3;have y4 := hS3.res.frozen 4;have y5 := hS3.res.frozen 5;have y6 := hS3.res.frozen 6;have l1 := hS3.res.lt;rw [hze] at c5;simp only [List.take_succ_cons,List.take_zero,List.drop_succ_cons,List.drop_zero]
         repeat (go_big_quiet_step (fail))
         refine wpQuiet_nil ?_;go_wp2_with fail;have hE : (z.ends || decide (0 < d)) = false := by simp [hze,hdz]
         refine calls_gen (fun wx => QS w wx r b b2 s (d + 1) ⟨k1,0,o1,false⟩ vZero) (hS3.call (only_set (only_refl _ _) 5 _) (Rd.ends_ hS3.rd false rfl)) ?_;clear c0 c1 c2 c3 c4 c5 f1 f2 f3 f4 f5 cb z0 z1 z2 z3 z4 z5 z6 y0 y1 y2 y3 y4 y5 y6 l1;clear hS3;intro w4 hS4;refine (fail_any r s k1 0 (d + 1) 1 o1 false w4 hS4.rd).mono ?_;rintro e w5 ⟨rfl,hA,hO⟩;have hS5 := hS4.call (y' := ⟨k1,1,o1,false⟩) hO hA;clear hA hO hS4;obtain ⟨c0,c1,c2,c3,c4,c5⟩ := hS5.rd.cs;obtain ⟨f1,f2,f3,f4,f5⟩ := hS5.rd.fs
         try simp only at c1 c2 c4 c5
         have cb : w5.cell? ⟨b,0,none⟩ = some (.pointer (some ⟨r,0,none⟩)) := hS5.box.cell 0;obtain ⟨z0,z1,z2,z3,z4,z5,z6⟩ := res_cells hS5.res rfl;have y0 := hS5.res.frozen 0;have y1 := hS5.res.frozen 1;have y2 := hS5.res.frozen 2;have y3 := hS5.res.frozen 3;have y4 := hS5.res.frozen 4;have y5 := hS5.res.frozen 5;have y6 := hS5.res.frozen 6;have l1 := hS5.res.lt
         try dsimp only [vZero]
         go_wp2_with fail;refine val_leave _ _ (hS5.put7 _ _ _ _ _ _ _) hd ?_ ?_
         · rfl
         intro wl hSl;exact Hfin.out _ _ _ _ (by have := VStep.over (pf := pf) (s := s) (A := AOut V s) (D := D) (d := d) (z := z) (k1 := k1) (o1 := o1) hzb h50 (by omega);rw [hE] at this;exact this) (by unfold VRep;rfl) (by simp only;omega) (by simp only;omega) (by intro h;simp at h) hSl.rd hSl.oo
       have t1 : decide ((1 : Int) < (d : Int) + 1) = true := by rw [decide_eq_true_eq];omega
       refine region_tailq 12 (by kernel_rfl) (by kernel_rfl) ?_;intro w3 e3;have hS3 : QS w w3 r b b2 s (d + 1) ⟨k1,0,o1,z.ends⟩ vZero := by rw [e3];repeat first | exact hS2 | refine QS.drewN ?_ _ | refine QS.drew ?_
       clear e3 hS2;clear c0 c1 c2 c3 c4 c5 f1 f2 f3 f4 f5 cb z0 z1 z2 z3 z4 z5 z6 y0 y1 y2 y3 y4 y5 y6 l1;obtain ⟨c0,c1,c2,c3,c4,c5⟩ := hS3.rd.cs;obtain ⟨f1,f2,f3,f4,f5⟩ := hS3.rd.fs
       try simp only at c1 c2 c4 c5
       have cb : w3.cell? ⟨b,0,none⟩ = some (.pointer (some ⟨r,0,none⟩)) := hS3.box.cell 0;obtain ⟨z0,z1,z2,z3,z4,z5,z6⟩ := res_cells hS3.res rfl;have y0 := hS3.res.frozen 0;have y1 := hS3.res.frozen 1;have y2 := hS3.res.frozen 2;have y3 := hS3.res.frozen 3;have y4 := hS3.res.frozen 4;have y5 := hS3.res.frozen 5;have y6 := hS3.res.frozen 6;have l1 := hS3.res.lt;rw [hze] at c5;simp only [List.take_succ_cons,List.take_zero,List.drop_succ_cons,List.drop_zero]
       repeat (go_big_quiet_step (fail))
       refine wpQuiet_nil ?_;go_wp2_with fail;have hE : (z.ends || decide (0 < d)) = true := by simp [hze] <;> omega
       refine calls_gen (fun wx => QS w wx r b b2 s (d + 1) ⟨k1,0,o1,true⟩ vZero) (hS3.call (only_set (only_refl _ _) 5 _) (Rd.ends_ hS3.rd true rfl)) ?_;clear c0 c1 c2 c3 c4 c5 f1 f2 f3 f4 f5 cb z0 z1 z2 z3 z4 z5 z6 y0 y1 y2 y3 y4 y5 y6 l1;clear hS3;intro w4 hS4;refine (fail_any r s k1 0 (d + 1) 1 o1 true w4 hS4.rd).mono ?_;rintro e w5 ⟨rfl,hA,hO⟩;have hS5 := hS4.call (y' := ⟨k1,1,o1,true⟩) hO hA;clear hA hO hS4;obtain ⟨c0,c1,c2,c3,c4,c5⟩ := hS5.rd.cs;obtain ⟨f1,f2,f3,f4,f5⟩ := hS5.rd.fs
       try simp only at c1 c2 c4 c5
       have cb : w5.cell? ⟨b,0,none⟩ = some (.pointer (some ⟨r,0,none⟩)) := hS5.box.cell 0;obtain ⟨z0,z1,z2,z3,z4,z5,z6⟩ := res_cells hS5.res rfl;have y0 := hS5.res.frozen 0;have y1 := hS5.res.frozen 1;have y2 := hS5.res.frozen 2;have y3 := hS5.res.frozen 3;have y4 := hS5.res.frozen 4;have y5 := hS5.res.frozen 5;have y6 := hS5.res.frozen 6;have l1 := hS5.res.lt
       try dsimp only [vZero]
       go_wp2_with fail;refine val_leave _ _ (hS5.put7 _ _ _ _ _ _ _) hd ?_ ?_
       · rfl
       intro wl hSl;exact Hfin.out _ _ _ _ (by have := VStep.over (pf := pf) (s := s) (A := AOut V s) (D := D) (d := d) (z := z) (k1 := k1) (o1 := o1) hzb h50 (by omega);rw [hE] at this;exact this) (by unfold VRep;rfl) (by simp only;omega) (by simp only;omega) (by intro h;simp at h) hSl.rd hSl.oo
   have t50 : decide ((50 : Int) < (d : Int) + 1) = true := by rw [decide_eq_true_eq];omega
   go_wp2_with fail;refine calls_gen (fun wx => QS w wx r b b2 s (d + 1) ⟨k1,z.bad,o1,z.ends⟩ vZero) (hS1.call (only_set (only_refl _ _) 3 _) (Rd.deep_ hS1.rd (d + 1) (by go_num))) ?_;clear c0 c1 c2 c3 c4 c5 f1 f2 f3 f4 f5 cb z0 z1 z2 z3 z4 z5 z6 y0 y1 y2 y3 y4 y5 y6 l1;intro w2 hS2;refine (fail_any r s k1 z.bad (d + 1) 2 o1 z.ends w2 hS2.rd).mono ?_;rintro e w3 ⟨rfl,hA,hO⟩;have hS3 := hS2.call (y' := ⟨k1,2,o1,z.ends⟩) hO (by rw [if_pos hzb] at hA;exact hA);clear hA hO hS2 hS1;obtain ⟨c0,c1,c2,c3,c4,c5⟩ := hS3.rd.cs;obtain ⟨f1,f2,f3,f4,f5⟩ := hS3.rd.fs;simp only at c1 c2 c4 c5;have cb : w3.cell? ⟨b,0,none⟩ = some (.pointer (some ⟨r,0,none⟩)) := hS3.box.cell 0;obtain ⟨z0,z1,z2,z3,z4,z5,z6⟩ := res_cells hS3.res rfl;have y0 := hS3.res.frozen 0;have y1 := hS3.res.frozen 1;have y2 := hS3.res.frozen 2;have y3 := hS3.res.frozen 3;have y4 := hS3.res.frozen 4;have y5 := hS3.res.frozen 5;have y6 := hS3.res.frozen 6;have l1 := hS3.res.lt
   try dsimp only [vZero]
   go_wp2_with fail;refine val_leave _ _ (hS3.put7 _ _ _ _ _ _ _) hd ?_ ?_
   · rfl
   intro wl hSl;exact Hfin.out _ _ _ _ (.deep hzb (by omega)) (by unfold VRep;rfl) (by simp only;omega) (by simp only;omega) (by intro h;simp at h) hSl.rd hSl.oo
 · have tb : ((z.bad : Int) == 0) = false := by rw [beq_eq_false_iff_ne];omega
   have tb' : ((z.bad : Int) != 0) = true := by rw [bne_iff_ne];omega
   go_wp2_with fail;have hSl := hS1.put7 (.int .i64 0) (.int .i64 0) (.int .i64 0) (.float .f64 0) (S []) (.slice none 0 0) (.slice none 0 0);refine ⟨_,hSl.res7 _ (by simp),?_⟩;exact Hfin.out _ _ _ _ (.bad hzb) (by unfold VRep;rfl) (by simp only;omega) (by simp only;omega) (fun h => absurd h hzb) hSl.rd hSl.oo
def VO (pf : List UInt8 → Nat) (s : List UInt8) (D : Nat → VRel) : Nat → VRel
 | 0 => fun _ _ _ _ => False
 | m + 1 => VOne pf s (AOut (VO pf s D m) s) (D m)
theorem value_any (pf : List UInt8 → Nat) (W0 : World) (hpf : PFSaid pf W0) (s : List UInt8) (hs : s.length ≤ 268435456) (D : Nat → VRel) (hD : ∀ m,ValSaid (VO pf s D m) W0 s m → DSaid (D m) W0 s m) : ∀ m,ValSaid (VO pf s D m) W0 s m
 | 0 => fun r d z w hk hm => by omega
 | m + 1 => by
   have ih := value_any pf W0 hpf s hs D hD m;exact value_step pf W0 hpf s hs (VO pf s D m) (D m) m (fun r d z w hb hk hm hd hr0 hW hR => arr_any (VO pf s D m) W0 s m ih r d z w hb hk hm hs hd hr0 hW hR) (hD m ih)
end Go.Proofs.YtcpijmbdibgdmaaGreatDoor
