/-
  types.Object in memory.
  internal/strconv: the fast conversion of a decimal to floating point (parseFloat64 and what it calls).
  internal/strconv: fixedWidthFloat and what it calls.
  internal/strconv: fixedWidthFloat.
  Bytes appended to a slice of the caller's, beside another block that is read.
-/
import Derived.Test.YtcpijmbdibgdmaaGreatDoorMs04
import Derived.Test.YtcpijmbdibgdmaaGreatDoorMs07
import Derived.Laws.Externs
import Derived.Laws.BitsAllLaws
import Derived.Maps.AppendAt
set_option linter.all false
set_option maxHeartbeats 16000000
set_option maxRecDepth 100000
namespace Go.Proofs.YtcpijmbdibgdmaaGreatDoor
open Go.RowKit
mutual
def TRep (w : World) (F : Nat → Prop) : PObj → Value → Prop
 | .null,v => v = .nilIface
 | .bool b,v => v = .iface 100 (.bool b)
 | .int n,v => v = .iface 101 (.int .i64 n)
 | .real x,v => v = .iface 102 (.float .f64 x)
 | .lit t,v => v = .iface 103 (S t)
 | .hex t,v => v = .iface 104 (S t)
 | .name t,v => v = .iface 105 (S t)
 | .ref n g,v => v = .iface 107 (.agg #[.int .i64 n,.int .i64 g])
 | .arr l,v => ∃ s xs,v = .iface 80 s ∧ w.ownsRow 0 63 1 s l.length xs ∧ (∀ g,s.ownBlock = some g → F g) ∧ TKids w F l xs
 | .dict ks l,v => ∃ b vs,v = .iface 74 (.map (some b)) ∧ F b ∧ MapIs w b ks vs ∧ TKids w F l vs
def TKids (w : World) (F : Nat → Prop) : List PObj → List Value → Prop
 | [],xs => xs = []
 | p :: l,xs => ∃ v ys,xs = v :: ys ∧ TRep w F p v ∧ TKids w F l ys
end
mutual
theorem TRep.mono {w w' : World} {F F' : Nat → Prop} (hk : ∀ i,F i → i < w.heap.size → w'.heap[i]? = w.heap[i]? ∧ F' i) : ∀ (p : PObj) (v : Value),TRep w F p v → TRep w' F' p v
 | .null,c,h => by unfold TRep at h ⊢;exact h
 | .bool b,c,h => by unfold TRep at h ⊢;exact h
 | .int n,c,h => by unfold TRep at h ⊢;exact h
 | .real x,c,h => by unfold TRep at h ⊢;exact h
 | .lit l,c,h => by unfold TRep at h ⊢;exact h
 | .hex l,c,h => by unfold TRep at h ⊢;exact h
 | .name l,c,h => by unfold TRep at h ⊢;exact h
 | .ref n g,c,h => by unfold TRep at h ⊢;exact h
 | .arr l,c,h => by
   unfold TRep at h ⊢;obtain ⟨v,xs,h1,h2,h3,h4⟩ := h;exact ⟨v,xs,h1,ownsRow_keep h2 (fun g hg => (hk g (h3 g hg) (ownsRow_lt h2 g hg)).1),fun g hg => (hk g (h3 g hg) (ownsRow_lt h2 g hg)).2,TKids.mono hk l xs h4⟩
 | .dict ks l,c,h => by
   unfold TRep at h ⊢;obtain ⟨b,vs,h1,h2,h3,h4⟩ := h;exact ⟨b,vs,h1,(hk b h2 h3.lt).2,h3.keep (hk b h2 h3.lt).1,TKids.mono hk l vs h4⟩
theorem TKids.mono {w w' : World} {F F' : Nat → Prop} (hk : ∀ i,F i → i < w.heap.size → w'.heap[i]? = w.heap[i]? ∧ F' i) : ∀ (l : List PObj) (xs : List Value),TKids w F l xs → TKids w' F' l xs
 | [],xs,h => by unfold TKids at h ⊢;exact h
 | v :: l,xs,h => by
   unfold TKids at h ⊢;obtain ⟨c,ys,h1,h3,h4⟩ := h;exact ⟨c,ys,h1,TRep.mono hk v c h3,TKids.mono hk l ys h4⟩
end
theorem TKids.snoc {w : World} {F : Nat → Prop} {p : PObj} {v : Value} (hv : TRep w F p v) : ∀ (l : List PObj) (xs : List Value),TKids w F l xs → TKids w F (l ++ [p]) (xs ++ [v])
 | [],xs,h => by
   unfold TKids at h;subst h;rw [List.nil_append,List.nil_append];unfold TKids TKids;exact ⟨v,[],rfl,hv,rfl⟩
 | a :: l,xs,h => by
   unfold TKids at h;obtain ⟨c,ys,rfl,h1,h2⟩ := h;rw [List.cons_append,List.cons_append];unfold TKids;exact ⟨c,ys ++ [v],rfl,h1,TKids.snoc hv l ys h2⟩
theorem TKids.len {w : World} {F : Nat → Prop} : ∀ {l : List PObj} {xs : List Value},TKids w F l xs → xs.length = l.length
 | [],xs,h => by unfold TKids at h;subst h;rfl
 | p :: l,xs,h => by
   unfold TKids at h;obtain ⟨c,ys,rfl,h1,h2⟩ := h;rw [List.length_cons,List.length_cons,TKids.len h2]
theorem TKids.at_ {w : World} {F : Nat → Prop} : ∀ {l : List PObj} {xs : List Value},TKids w F l xs → ∀ (i : Nat) (h : i < l.length),∃ v,xs[i]? = some v ∧ TRep w F l[i] v
 | [],_,_,i,h => by simp at h
 | p :: l,xs,hk,0,_ => by
   unfold TKids at hk;obtain ⟨c,ys,rfl,h1,h2⟩ := hk;exact ⟨c,rfl,h1⟩
 | p :: l,xs,hk,i + 1,h => by
   unfold TKids at hk;obtain ⟨c,ys,rfl,h1,h2⟩ := hk;obtain ⟨v,h3,h4⟩ := TKids.at_ h2 i (by simpa using h);exact ⟨v,by simpa using h3,h4⟩
theorem TRep.one {w : World} {F : Nat → Prop} {p : PObj} {v : Value} (h : TRep w F p v) : v.oneCell' = true := by
 cases p <;> unfold TRep at h
 all_goals first | (subst h;rfl) | (obtain ⟨_,_,rfl,_⟩ := h;rfl)
theorem TRep.shape {w : World} {F : Nat → Prop} {p : PObj} {v : Value} (h : TRep w F p v) : v = .nilIface ∨ ∃ t u,v = .iface t u := by
 cases p <;> unfold TRep at h
 all_goals first | exact .inl h | exact .inr ⟨_,_,h⟩ | (obtain ⟨_,_,rfl,_⟩ := h;exact .inr ⟨_,_,rfl⟩)
theorem objL_at {tw : Nat → Bool} : ∀ {l : List OObj} {q : List PObj},objL tw l = some q → ∀ (i : Nat) (h : i < l.length) (h' : i < q.length),objM tw l[i] = some q[i]
 | [],_,_,i,h,_ => by simp at h
 | o :: l,q,hq,i,h,h' => by
   rw [objL] at hq
   cases ho : objM tw o with
   | none => rw [ho] at hq;cases hq
   | some p =>
     rw [ho] at hq
     cases hl : objL tw l with
     | none => rw [hl] at hq;cases hq
     | some q' =>
       rw [hl] at hq;injection hq with hq;subst hq
       cases i with
       | zero => exact ho
       | succ i => simpa using objL_at hl i (by simpa using h) (by simpa using h')
def ObjPost (w : World) (p : PObj) (e : Ending) (w' : World) : Prop := ∃ v,e = .returned (.tuple #[v,.bool true]) ∧ TRep w' (fun i => w.heap.size ≤ i) p v ∧ Below w.heap.size w w'
def ObjSaid (tw : Nat → Bool) (W0 : World) (n : Nat) : Prop := ∀ (o : OObj) (p : PObj) (c : List Value) (w : World),SizeOf.sizeOf o ≤ n → ORep W0 W0.heap.size o c → OInt o → bulkO o ≤ 1048576 → objM tw o = some p → Below W0.heap.size W0 w →
 Calls Tryz.prog 27 #[.agg c.toArray] w (ObjPost w p)
structure TS (w wr : World) (q : List PObj) (v : Value) (xs : List Value) : Prop where
 own : wr.ownsRow w.heap.size 63 1 v q.length xs
 kids : TKids wr (fun i => w.heap.size ≤ i ∧ v.ownBlock ≠ some i) q xs
 below : Below w.heap.size w wr
section
variable {w wr w' w2 : World} {q : List PObj} {v : Value} {xs : List Value}
theorem TS.keep (h : TS w wr q v xs) (hB : Below wr.heap.size wr w') : TS w w' q v xs :=
 ⟨ownsRow_keepB h.own (fun g hg => hB.block g (World.ownsRow.lt h.own g hg).2),TKids.mono (fun i hi hlt => ⟨hB.block i hlt,hi⟩) _ _ h.kids,h.below.trans (hB.mono h.below.size)⟩
theorem TS.elem (h : TS w wr q v xs) {p : PObj} {u : Value} (hv : TRep wr (fun i => w.heap.size ≤ i ∧ v.ownBlock ≠ some i) p u) {o : Obj} {g cap : Nat}
 (happ : w2.ownsRow w.heap.size 63 1 (.slice (some ⟨g,0,none⟩) (q.length + 1) cap) (q.length + 1) (xs ++ [u])) (hgr : (wr.alloc o).grownBy w2 v.ownBlock) (hat : v.ownBlock = some g ∨ g = (wr.alloc o).heap.size) :
 TS w w2 (q ++ [p]) (.slice (some ⟨g,0,none⟩) (q.length + 1) cap) (xs ++ [u]) := by
 have hog := fun g hg => World.ownsRow.lt h.own g hg
 have hsa : (wr.alloc o).heap.size = wr.heap.size + 1 := by simp
 have keep2 : ∀ i,i < wr.heap.size → v.ownBlock ≠ some i → w2.heap[i]? = wr.heap[i]? := fun i hi hv => by
  rw [hgr.block i (by omega) (fun e => hv e.symm)];exact Below.heap_alloc wr o i hi
 have hne : ∀ i,i < wr.heap.size → v.ownBlock ≠ some i → (Value.slice (some ⟨g,0,none⟩) (q.length + 1) cap).ownBlock ≠ some i := fun i hi hn e => by
  injection e with e;simp only at e;rcases hat with hat | hat
  · exact hn (by rw [hat,e])
  omega
 refine ⟨by simpa using happ,TKids.snoc (TRep.mono (fun i hi hlt => ⟨keep2 i hlt hi.2,hi.1,hne i hlt hi.2⟩) _ _ hv) _ _ (TKids.mono (fun i hi hlt => ⟨keep2 i hlt hi.2,hi.1,hne i hlt hi.2⟩) _ _ h.kids),?_⟩;have h1 := h.below;exact ⟨hgr.os.trans h1.os,hgr.tape.trans h1.tape,hgr.output.trans h1.output,Nat.le_trans h1.size (Nat.le_trans (by rw [hsa];omega) hgr.size),fun i hi => (keep2 i (Nat.lt_of_lt_of_le hi h1.size) (fun e => by have := hog _ e;omega)).trans (h1.block i hi)⟩
theorem TS.done (h : TS w wr q v xs) : wr.ownsRow 0 63 1 v q.length xs ∧ (∀ g,v.ownBlock = some g → w.heap.size ≤ g) ∧ TKids wr (fun i => w.heap.size ≤ i) q xs :=
 ⟨ownsRow_base h.own,fun g hg => (World.ownsRow.lt h.own g hg).1,TKids.mono (fun i hi _ => ⟨rfl,hi.1⟩) _ _ h.kids⟩
end
end Go.Proofs.YtcpijmbdibgdmaaGreatDoor
namespace Go.Proofs.YtcpijmbdibgdmaaGreatDoor
open Go.RowKit
attribute [local go_sem] ba_get store_flt
def b2F (b : Bool) : Int := if b then 1 else 0
def roundF (u : Int) : Int := IntKind.u64.wrap (IntKind.u64.wrap (u + 1) + bits BinOp.and IntKind.u64 (u / 4) 1) / 4
def unminF (u : Int) : Int := IntKind.u64.wrap (IntKind.u64.wrap (u * 4) - 2)
def log2F (x : Int) : Int := wrap64 (x * 108853) / 32768
theorem b2u_any (b : Bool) (w : World) : Calls Tryz.prog 198 #[.bool b] w fun e w' => e = .returned (.int .u64 (b2F b)) ∧ w = w' := by
 cases b <;>
 · go_enter Tryz.func198,Tryz.ntmps198;go_wp2;go_ret;exact ⟨rfl,rfl⟩
theorem b2r_any (b : Bool) (w : World) : Calls Tryz.prog 242 #[.bool b] w fun e w' => e = .returned (.int .u64 (b2F b)) ∧ w = w' := by
 cases b <;>
 · go_enter Tryz.func242,Tryz.ntmps242;go_wp2;go_ret;exact ⟨rfl,rfl⟩
theorem b2i_any (b : Bool) (w : World) : Calls Tryz.prog 169 #[.bool b] w fun e w' => e = .returned (.int .i64 (b2F b)) ∧ w = w' := by
 cases b <;>
 · go_enter Tryz.func169,Tryz.ntmps169;go_wp2;go_ret;exact ⟨rfl,rfl⟩
theorem round_any (u : Int) (w : World) : Calls Tryz.prog 211 #[.int .u64 u] w fun e w' => e = .returned (.int .u64 (roundF u)) ∧ w = w' := by
 go_enter Tryz.func211,Tryz.ntmps211;go_wp2;go_ret;exact ⟨rfl,rfl⟩
theorem unmin_any (u : Int) (w : World) : Calls Tryz.prog 212 #[.int .u64 u] w fun e w' => e = .returned (.int .u64 (unminF u)) ∧ w = w' := by
 go_enter Tryz.func212,Tryz.ntmps212;go_wp2;go_ret;exact ⟨rfl,rfl⟩
theorem log2_any (u : Int) (w : World) : Calls Tryz.prog 206 #[.int .i64 u] w fun e w' => e = .returned (.int .i64 (log2F u)) ∧ w = w' := by
 go_enter Tryz.func206,Tryz.ntmps206;go_wp2;go_ret;exact ⟨rfl,rfl⟩
theorem frombits_run (u : Int) (w : World) : (callFunc 199 #[.int .u64 u]).run Tryz.prog w = .ok (.value (.float .f64 u.toNat)) w := by
 rw [run_callFunc_extern Tryz.func199 (by kernel_rfl) (by kernel_rfl) (by kernel_rfl) (e := Extern.MathFloatBits.float64frombits) (by kernel_rfl)];rfl
def packF (m e : Int) : Nat := if bits BinOp.and IntKind.u64 m 4503599627370496 == 0 then m.toNat else
 (bits BinOp.or IntKind.u64 (bits BinOp.andNot IntKind.u64 m 4503599627370496) (IntKind.u64.wrap (IntKind.u64.wrap (1075 + e) * 4503599627370496))).toNat
theorem pack_any (m e : Int) (w : World) (he : -100000 ≤ e ∧ e < 972) : Calls Tryz.prog 240 #[.int .u64 m,.int .i64 e] w fun e' w' => e' = .returned (.tuple #[.float .f64 (packF m e),.nilIface]) ∧ w = w' := by
 have hfb := frombits_run;have te : decide (972 ≤ e) = false := by rw [decide_eq_false_iff_not];omega
 by_cases hm : bits BinOp.and IntKind.u64 m 4503599627370496 = 0
 · have tm : (bits BinOp.and IntKind.u64 m 4503599627370496 == 0) = true := by rw [beq_iff_eq];exact hm
   clear hm;go_enter Tryz.func240,Tryz.ntmps240;go_wp2_with fail;refine bodyPost_ret (v := .tuple #[.float .f64 (packF m e),.nilIface]) (by simp [results,Tryz.results240,go_sem,packF,tm]) rfl ?_;exact ⟨rfl,rfl⟩
 have tm : (bits BinOp.and IntKind.u64 m 4503599627370496 == 0) = false := by rw [beq_eq_false_iff_ne];exact hm
 clear hm;go_enter Tryz.func240,Tryz.ntmps240;go_wp2_with fail;refine bodyPost_ret (v := .tuple #[.float .f64 (packF m e),.nilIface]) (by simp [results,Tryz.results240,go_sem,packF,tm]) rfl ?_;exact ⟨rfl,rfl⟩
theorem prescale_any (hi lo : Nat → Nat) (g i : Nat) (e lp : Int) (a0 a1 a2 : Value) (W0 w : World) (hT : ∀ i,i < 696 → W0.cell? ⟨22,i * 2,none⟩ = some (.int .u64 (hi i)) ∧ W0.cell? ⟨22,i * 2 + 1,none⟩ = some (.int .u64 (lo i))) (h22 : 22 < W0.heap.size) (hW : Below W0.heap.size W0 w)
 (hg : W0.heap.size ≤ g) (hi' : i < 696) (he : e + lp + 3 = -8) (hlp : -1000 ≤ lp ∧ lp ≤ 1000) (hL : Blk w g 289 #[a0,a1,a2]) :
 Calls Tryz.prog 205 #[.pointer (some ⟨g,0,none⟩),.int .i64 e,.int .i64 ((i : Int) - 348),.int .i64 lp] w fun e' w' => e' = .returned (.tuple #[]) ∧ Blk w' g 289 #[.int .u64 (hi i),.int .u64 (lo i),.int .i64 8] ∧ Only w w' g := by
 obtain ⟨t1,t2⟩ := hT i hi';have c1 : w.cell? ⟨22,i * 2,none⟩ = some (.int .u64 (hi i)) := (hW.cell (p := ⟨22,i * 2,none⟩) h22).trans t1;have c2 : w.cell? ⟨22,i * 2 + 1,none⟩ = some (.int .u64 (lo i)) := (hW.cell (p := ⟨22,i * 2 + 1,none⟩) h22).trans t2;have k0 : w.cell? ⟨g,0,none⟩ = some a0 := hL.cell 0;have k1 : w.cell? ⟨g,1,none⟩ = some a1 := hL.cell 1;have k2 : w.cell? ⟨g,2,none⟩ = some a2 := hL.cell 2;have f0 := hL.frozen 0;have f1 := hL.frozen 1;have f2 := hL.frozen 2;have hg22 : ¬ g = 22 := by omega
 have hg22' : ¬ 22 = g := by omega
 clear hT t1 t2;go_enter Tryz.func205,Tryz.ntmps205;go_wp2_with fail
 go_end0
 refine ⟨rfl,?_,only_set (only_set (only_set (only_refl _ _) _ _) _ _) _ _⟩;have r0 := Blk.set_ hL 0 (.int .u64 (hi i));rw [show (#[a0,a1,a2] : Array Value).setIfInBounds 0 (.int .u64 (hi i)) = #[.int .u64 (hi i),a1,a2] by simp] at r0;have r1 := Blk.set_ r0 1 (.int .u64 (lo i));rw [show (#[.int .u64 (hi i),a1,a2] : Array Value).setIfInBounds 1 (.int .u64 (lo i)) = #[.int .u64 (hi i),.int .u64 (lo i),a2] by simp] at r1;have r2 := Blk.set_ r1 2 (.int .i64 8);rw [show (#[.int .u64 (hi i),.int .u64 (lo i),a2] : Array Value).setIfInBounds 2 (.int .i64 8) = #[.int .u64 (hi i),.int .u64 (lo i),.int .i64 8] by simp] at r2;exact r2
def mulHi (x y : Nat) : Int := ((x * y / 18446744073709551616 : Nat) : Int)
def mulLo (x y : Nat) : Int := ((x * y % 18446744073709551616 : Nat) : Int)
def usT (h : Int) : Bool := IntKind.u64.wrap (h / 256 * 256) == h
def usF (x hi lo : Nat) : Int :=
 if usT (mulHi x hi) then bits BinOp.or IntKind.u64 (IntKind.u64.wrap (mulHi x hi - b2F (decide (mulLo x hi < mulHi x lo))) / 256) (b2F (decide (1 < IntKind.u64.wrap (mulLo x hi - mulHi x lo))))
 else bits BinOp.or IntKind.u64 (mulHi x hi / 256) 1
theorem uscale_any (x hi lo g : Nat) (w : World) (hx : x < 18446744073709551616) (hhi : hi < 18446744073709551616) (hlo : lo < 18446744073709551616) (hL : Blk w g 289 #[.int .u64 hi,.int .u64 lo,.int .i64 8]) :
 Calls Tryz.prog 207 #[.int .u64 x,.pointer (some ⟨g,0,none⟩)] w fun e' w' => e' = .returned (.int .u64 (usF x hi lo)) ∧ ∃ n,w' = w.drewN n := by
 have k0 : w.cell? ⟨g,0,none⟩ = some (.int .u64 hi) := hL.cell 0;have k1 : w.cell? ⟨g,1,none⟩ = some (.int .u64 lo) := hL.cell 1;have k2 : w.cell? ⟨g,2,none⟩ = some (.int .i64 8) := hL.cell 2;have h1 := fun w => Tryz.bits_Mul64 x hi hx hhi w
 have h2 := fun w => Tryz.bits_Mul64 x lo hx hlo w
 obtain ⟨q1,hq1⟩ : ∃ q,q = mulHi x hi := ⟨_,rfl⟩;obtain ⟨q2,hq2⟩ : ∃ q,q = mulLo x hi := ⟨_,rfl⟩;obtain ⟨q3,hq3⟩ : ∃ q,q = mulHi x lo := ⟨_,rfl⟩;obtain ⟨q4,hq4⟩ : ∃ q,q = mulLo x lo := ⟨_,rfl⟩;have hF : usF x hi lo = if usT q1 then bits BinOp.or IntKind.u64 (IntKind.u64.wrap (q1 - b2F (decide (q2 < q3))) / 256) (b2F (decide (1 < IntKind.u64.wrap (q2 - q3)))) else bits BinOp.or IntKind.u64 (q1 / 256) 1 := by rw [hq1,hq2,hq3];rfl
 rw [hF];unfold mulHi at hq1 hq3;unfold mulLo at hq2 hq4;simp only [← hq1,← hq2] at h1;simp only [← hq3,← hq4] at h2;clear hq1 hq2 hq3 hq4 hF hL;have h63 : bits BinOp.and IntKind.i64 8 63 = 8 := by rfl
 cases ht : usT q1 with
 | true =>
   have t1 : (IntKind.u64.wrap (q1 / 256 * 256) != q1) = false := by unfold usT at ht;rw [bne,ht];rfl
   clear ht;go_enter Tryz.func207,Tryz.ntmps207;go_wp2_with fail;refine (h1 _).mono ?_;rintro e w1 ⟨rfl,rfl⟩;go_wp2_with fail;refine (h2 _).mono ?_;rintro e w2 ⟨rfl,rfl⟩;go_wp2_with fail;refine (b2u_any _ _).mono ?_;rintro e w3 ⟨rfl,rfl⟩;go_wp2_with fail;refine wp_region_quiet_lit (by kernel_rfl) (by kernel_rfl) ?_
   repeat (go_big_quiet_step (fail))
   go_big_quiet_want;go_big_quiet_op
   apply Exists.intro;refine ⟨fun _ => ?_,?_⟩
   · first | exact quiet_left (b2u_any _ _) | exact quiet_add_left (b2u_any _ _)
   go_big_quiet_on
   repeat (go_big_quiet_step (fail))
   refine wpQuiet_nil ?_;intro _ hw';obtain ⟨nq,hw''⟩ := hw';subst hw'';go_wp2_with fail;go_ret;exact ⟨rfl,_,rfl⟩
 | false =>
   have t1 : (IntKind.u64.wrap (q1 / 256 * 256) != q1) = true := by unfold usT at ht;rw [bne,ht];rfl
   clear ht;go_enter Tryz.func207,Tryz.ntmps207;go_wp2_with fail;refine (h1 _).mono ?_;rintro e w1 ⟨rfl,rfl⟩;go_wp2_with fail;go_ret;exact ⟨rfl,0,rfl⟩
theorem bitLen_le (d : Nat) (h : d < 18446744073709551616) : Lib.bitLen d ≤ 64 := by
 have : ∀ f x,Lib.bitLenAux f x ≤ f := by
  intro f
  induction f with
  | zero => intro x;exact Nat.le_refl _
  | succ f ih => intro x;rw [Lib.bitLenAux];(have := ih (x / 2));split <;> omega
 exact this 64 d
def xF (d b : Nat) : Nat := (IntKind.u64.wrap ((d : Int) * 2 ^ (64 - b))).toNat
theorem xF_eq (d b : Nat) : IntKind.u64.wrap ((d : Int) * 2 ^ (64 - b)) = ((xF d b : Nat) : Int) ∧ xF d b < 18446744073709551616 := by
 have h0 : 0 ≤ IntKind.u64.wrap ((d : Int) * 2 ^ (64 - b)) ∧ IntKind.u64.wrap ((d : Int) * 2 ^ (64 - b)) < 18446744073709551616 := by
  generalize (d : Int) * 2 ^ (64 - b) = y;have : IntKind.u64.wrap y = y % 18446744073709551616 := by simp [IntKind.wrap,IntKind.bits,IntKind.signed]
  omega
 unfold xF;omega
def s1F (u : Int) : Int := b2F (decide (unminF 9007199254740992 ≤ u))
def u2F (u : Int) : Int := bits BinOp.or IntKind.u64 (u / 2 ^ (s1F u).toNat) (bits BinOp.and IntKind.u64 u 1)
def pf64F (hi lo : Nat → Nat) (d i : Nat) (sg : Int) : Nat :=
 packF (bits BinOp.or IntKind.u64 sg (roundF (u2F (usF (xF d (Lib.bitLen d)) (hi i) (lo i))))) (-(53 - (Lib.bitLen d : Int) - log2F ((i : Int) - 348) - s1F (usF (xF d (Lib.bitLen d)) (hi i) (lo i))))
theorem pf64_any (hi lo : Nat → Nat) (d i : Nat) (sg : Int) (W0 w : World) (hT : ∀ i,i < 696 → W0.cell? ⟨22,i * 2,none⟩ = some (.int .u64 (hi i)) ∧ W0.cell? ⟨22,i * 2 + 1,none⟩ = some (.int .u64 (lo i))) (hb : ∀ i,i < 696 → hi i < 18446744073709551616 ∧ lo i < 18446744073709551616)
 (h22 : 22 < W0.heap.size) (hW : Below W0.heap.size W0 w) (hi' : 248 ≤ i ∧ i ≤ 448) (hd : d < 18446744073709551616) :
 Calls Tryz.prog 201 #[.int .u64 d,.int .i64 ((i : Int) - 348),.int .u64 sg] w fun e' w' => e' = .returned (.tuple #[.float .f64 (pf64F hi lo d i sg),.nilIface]) ∧ Below w.heap.size w w' := by
 have hlen := fun w => Tryz.bits_Len64 (d : Int) w (by omega) (by omega)
 simp only [Int.toNat_natCast] at hlen;have hbl := bitLen_le d hd;obtain ⟨b,hb'⟩ : ∃ b,b = Lib.bitLen d := ⟨_,rfl⟩;have hF : pf64F hi lo d i sg = packF (bits BinOp.or IntKind.u64 sg (roundF (u2F (usF (xF d b) (hi i) (lo i))))) (-(53 - (b : Int) - log2F ((i : Int) - 348) - s1F (usF (xF d b) (hi i) (lo i)))) := by rw [hb'];rfl
 rw [hF];rw [← hb'] at hlen hbl;obtain ⟨lp,hlp⟩ : ∃ lp,lp = log2F ((i : Int) - 348) := ⟨_,rfl⟩
 have hlp' : -400 ≤ lp ∧ lp ≤ 400 := by
  rw [hlp];unfold log2F;have : wrap64 (((i : Int) - 348) * 108853) = ((i : Int) - 348) * 108853 := by unfold wrap64;omega
  rw [this];omega
 have hl2 := fun w => log2_any ((i : Int) - 348) w
 rw [← hlp] at hl2 ⊢;clear hb' hlp hF;have hmin : min 1074 (53 - (b : Int) - lp) = 53 - (b : Int) - lp := by omega
 obtain ⟨hx1,hx2⟩ := xF_eq d b;obtain ⟨u,hu⟩ : ∃ u,u = usF (xF d b) (hi i) (lo i) := ⟨_,rfl⟩;have hus := fun g w => uscale_any (xF d b) (hi i) (lo i) g w hx2 (hb i (by omega)).1 (hb i (by omega)).2
 rw [← hu] at hus ⊢;have Hx1 := Lib.hid hx1;clear hu hx1;go_enter Tryz.func201,Tryz.ntmps201;go_wp2_with fail;refine (hlen _).mono ?_;rintro e w1 ⟨rfl,rfl⟩;go_wp2_with fail;refine (hl2 _).mono ?_;rintro e w2 ⟨rfl,rfl⟩;go_wp2_with fail;have hW1 : Below W0.heap.size W0 (w1.alloc (.cells #[.int .u64 0,.int .u64 0,.int .i64 0] 289)) := hW.alloc hW.size _;have hb1 : Blk (w1.alloc (.cells #[.int .u64 0,.int .u64 0,.int .i64 0] 289)) w1.heap.size 289 #[.int .u64 0,.int .u64 0,.int .i64 0] := Blk.newAt _ 289 _ _ rfl;have hB1 : Below w1.heap.size w1 (w1.alloc (.cells #[.int .u64 0,.int .u64 0,.int .i64 0] 289)) := (Below.refl _ w1).alloc (Nat.le_refl _) _;refine (prescale_any hi lo w1.heap.size i _ _ _ _ _ W0 _ hT h22 hW1 hW.size (by omega) (by omega) (by omega) hb1).mono ?_;rintro e w3 ⟨rfl,hb3,hO3⟩;have hB3 : Below w1.heap.size w1 w3 := hB1.grown hO3 hB1.size (fun k e => by injection e with e;omega);have k2 : w3.cell? ⟨w1.heap.size,2,none⟩ = some (.int .i64 8) := hb3.cell 2;obtain ⟨g,hg⟩ : ∃ g,g = w1.heap.size := ⟨_,rfl⟩;rw [← hg] at hb3 k2 ⊢;have Hg := Lib.hid hg;clear hg;clear hO3 hb1 hW1 hB1;go_wp2_with fail;rw [Hx1.out];refine (hus g _ hb3).mono ?_;rintro e w4 ⟨rfl,n4,rfl⟩;go_wp2_with fail;refine (unmin_any _ _).mono ?_;rintro e w5 ⟨rfl,rfl⟩;go_wp2_with fail;refine (b2i_any _ _).mono ?_;rintro e w6 ⟨rfl,rfl⟩;have hbF : (b2F (decide (unminF 9007199254740992 ≤ u)) = 0 ∨ b2F (decide (unminF 9007199254740992 ≤ u)) = 1) := by unfold b2F;split <;> simp
 go_wp2_with fail;refine (round_any _ _).mono ?_;rintro e w7 ⟨rfl,rfl⟩;go_wp2_with fail;refine (pack_any _ _ _ (by omega)).mono ?_;rintro e w8 ⟨rfl,rfl⟩;go_wp2_with fail;refine bodyPost_ret (v := .tuple #[.float .f64 (packF (bits BinOp.or IntKind.u64 sg (roundF (u2F u))) (-(53 - (b : Int) - lp - s1F u))),.nilIface]) (by simp [results,Tryz.results201,go_sem,u2F,s1F]) rfl ?_;exact ⟨rfl,below_drewN hB3 _⟩
end Go.Proofs.YtcpijmbdibgdmaaGreatDoor
namespace Go.Proofs.YtcpijmbdibgdmaaGreatDoor
open Go.RowKit
attribute [local go_sem] ba_get store_flt
def log10F (x : Int) : Int := wrap64 (x * 78913) / 262144
theorem log10_any (u : Int) (w : World) : Calls Tryz.prog 160 #[.int .i64 u] w fun e w' => e = .returned (.int .i64 (log10F u)) ∧ w = w' := by
 go_enter Tryz.func160,Tryz.ntmps160;go_wp2;go_ret;exact ⟨rfl,rfl⟩
def b2N (b : Bool) : Nat := if b then 1 else 0
theorem b2F_nat (b : Bool) : b2F b = ((b2N b : Nat) : Int) := by cases b <;> rfl
theorem b2N_lt (b : Bool) : b2N b < 18446744073709551616 := by cases b <;> decide
theorem or_lt64 {a b : Nat} (ha : a < 18446744073709551616) (hb : b < 18446744073709551616) : a ||| b < 18446744073709551616 := Nat.or_lt_two_pow (n := 64) ha hb
theorem and_lt64 {a b : Nat} (ha : a < 18446744073709551616) : a &&& b < 18446744073709551616 := Nat.lt_of_le_of_lt Nat.and_le_left ha
theorem wrap_u64 (n : Int) : IntKind.u64.wrap n = n % 18446744073709551616 := by simp [IntKind.wrap,IntKind.bits,IntKind.signed]
def divN (u : Nat) : Nat := (u / 10 ||| (u &&& 1)) ||| b2N (u % 10 != 0)
theorem divN_lt {u : Nat} (hu : u < 18446744073709551616) : divN u < 18446744073709551616 := or_lt64 (or_lt64 (by omega) (and_lt64 hu)) (b2N_lt _)
theorem divN_eq {u : Nat} (hu : u < 18446744073709551616) : bits BinOp.or IntKind.u64 (bits BinOp.or IntKind.u64 ((u : Int) / 10) (bits BinOp.and IntKind.u64 (u : Int) 1)) (b2F ((u : Int) % 10 != 0)) = ((divN u : Nat) : Int) := by
 have e1 : (u : Int) / 10 = ((u / 10 : Nat) : Int) := by omega
 have e2 : bits BinOp.and IntKind.u64 (u : Int) 1 = ((u &&& 1 : Nat) : Int) := u64_and_nat u 1 hu (by decide)
 have e3 : ((u : Int) % 10 != 0) = (u % 10 != 0) := by
  cases h : (u % 10 != 0) with
  | true => rw [bne_iff_ne] at h ⊢;omega
  | false => rw [bne_eq_false_iff_eq] at h ⊢;omega
 rw [e1,e2,e3,b2F_nat,u64_or_nat _ _ (by omega) (and_lt64 hu),u64_or_nat _ _ (or_lt64 (by omega) (and_lt64 hu)) (b2N_lt _)];rfl
theorem div10_any (u : Nat) (w : World) (hu : u < 18446744073709551616) : Calls Tryz.prog 213 #[.int .u64 u,.int .u64 10] w fun e w' => e = .returned (.int .u64 (divN u)) ∧ ∃ n,w' = w.drewN n := by
 go_enter Tryz.func213,Tryz.ntmps213;go_wp2_with fail;refine wp_region_quiet_lit (by kernel_rfl) (by kernel_rfl) ?_
 repeat (go_big_quiet_step (fail))
 go_big_quiet_want;go_big_quiet_op
 apply Exists.intro;refine ⟨fun _ => ?_,?_⟩
 · first | exact quiet_left (b2r_any _ _) | exact quiet_add_left (b2r_any _ _)
 go_big_quiet_on
 repeat (go_big_quiet_step (fail))
 refine wpQuiet_nil ?_;intro _ hw';obtain ⟨nq,hw''⟩ := hw';subst hw'';go_wp2_with fail;rw [divN_eq hu];go_ret;exact ⟨rfl,_,rfl⟩
def rndN (u : Nat) : Nat := ((u + 1) % 18446744073709551616 + (u / 4 &&& 1)) % 18446744073709551616 / 4
theorem rndN_eq {u : Nat} (hu : u < 18446744073709551616) : roundF u = ((rndN u : Nat) : Int) := by
 unfold roundF rndN;have e1 : (u : Int) / 4 = ((u / 4 : Nat) : Int) := by omega
 rw [e1,show (1 : Int) = ((1 : Nat) : Int) by rfl,u64_and_nat (u / 4) 1 (by omega) (by decide),wrap_u64,wrap_u64];omega
theorem rndN_lt (u : Nat) : rndN u < 4611686018427387904 := by unfold rndN;omega
def usN (x hi lo s : Nat) : Nat :=
 if (x * hi / 18446744073709551616 / 2 ^ s * 2 ^ s) % 18446744073709551616 = x * hi / 18446744073709551616 then
  ((x * hi / 18446744073709551616 + 18446744073709551616 - b2N (decide (x * hi % 18446744073709551616 < x * lo / 18446744073709551616))) % 18446744073709551616 / 2 ^ s) ||| b2N (decide (1 < (x * hi % 18446744073709551616 + 18446744073709551616 - x * lo / 18446744073709551616) % 18446744073709551616))
 else (x * hi / 18446744073709551616 / 2 ^ s) ||| 1
theorem uscaleN_any (x hi lo s g : Nat) (S : Int) (w : World) (hx : x < 18446744073709551616) (hhi : hi < 18446744073709551616) (hlo : lo < 18446744073709551616) (hs : s < 64) (hS : bits BinOp.and IntKind.i64 S 63 = (s : Int)) (hL : Blk w g 289 #[.int .u64 hi,.int .u64 lo,.int .i64 S]) :
 Calls Tryz.prog 207 #[.int .u64 x,.pointer (some ⟨g,0,none⟩)] w fun e' w' => e' = .returned (.int .u64 (usN x hi lo s)) ∧ ∃ n,w' = w.drewN n := by
 have k0 : w.cell? ⟨g,0,none⟩ = some (.int .u64 hi) := hL.cell 0;have k1 : w.cell? ⟨g,1,none⟩ = some (.int .u64 lo) := hL.cell 1;have k2 : w.cell? ⟨g,2,none⟩ = some (.int .i64 S) := hL.cell 2;have h1 := fun w => Tryz.bits_Mul64 x hi hx hhi w
 have h2 := fun w => Tryz.bits_Mul64 x lo hx hlo w
 obtain ⟨q1,hq1⟩ : ∃ q,q = x * hi / 18446744073709551616 := ⟨_,rfl⟩;obtain ⟨q2,hq2⟩ : ∃ q,q = x * hi % 18446744073709551616 := ⟨_,rfl⟩;obtain ⟨q3,hq3⟩ : ∃ q,q = x * lo / 18446744073709551616 := ⟨_,rfl⟩;obtain ⟨q4,hq4⟩ : ∃ q,q = x * lo % 18446744073709551616 := ⟨_,rfl⟩
 have hb1 : q1 < 18446744073709551616 := by
  rw [hq1];refine Nat.div_lt_of_lt_mul ?_;exact Nat.lt_of_lt_of_le (Nat.mul_lt_mul'' hx hhi) (Nat.le_refl _)
 have hb2 : q2 < 18446744073709551616 := by rw [hq2];exact Nat.mod_lt _ (by decide)
 have hb3 : q3 < 18446744073709551616 := by
  rw [hq3];refine Nat.div_lt_of_lt_mul ?_;exact Nat.lt_of_lt_of_le (Nat.mul_lt_mul'' hx hlo) (Nat.le_refl _)
 have hF : usN x hi lo s = if (q1 / 2 ^ s * 2 ^ s) % 18446744073709551616 = q1 then ((q1 + 18446744073709551616 - b2N (decide (q2 < q3))) % 18446744073709551616 / 2 ^ s) ||| b2N (decide (1 < (q2 + 18446744073709551616 - q3) % 18446744073709551616)) else (q1 / 2 ^ s) ||| 1 := by rw [hq1,hq2,hq3];rfl
 rw [hF];simp only [← hq1,← hq2] at h1;simp only [← hq3,← hq4] at h2;clear hq1 hq2 hq3 hq4 hF hL;have hp : 0 < 2 ^ s := Nat.two_pow_pos s;obtain ⟨K,hK⟩ : ∃ K,K = 2 ^ s := ⟨_,rfl⟩;have hKi : (2 : Int) ^ s = (K : Int) := by rw [hK];exact Int.natCast_pow 2 s |>.symm
 rw [← hK] at hp ⊢;have hdl : q1 / K < 18446744073709551616 := Nat.lt_of_le_of_lt (Nat.div_le_self _ _) hb1
 have ew : IntKind.u64.wrap ((q1 : Int) / (K : Int) * (K : Int)) = ((q1 / K * K % 18446744073709551616 : Nat) : Int) := by
  rw [wrap_u64];simp
 clear hK;by_cases ht : q1 / K * K % 18446744073709551616 = q1
 · rw [if_pos ht];have t1 : (IntKind.u64.wrap ((q1 : Int) / (K : Int) * (K : Int)) != (q1 : Int)) = false := by rw [bne_eq_false_iff_eq,ew,ht]
   clear ew;go_enter Tryz.func207,Tryz.ntmps207;go_wp2_with fail;refine (h1 _).mono ?_;rintro e w1 ⟨rfl,rfl⟩;go_wp2_with fail;refine (h2 _).mono ?_;rintro e w2 ⟨rfl,rfl⟩;go_wp2_with fail;refine (b2u_any _ _).mono ?_;rintro e w3 ⟨rfl,rfl⟩;go_wp2_with fail;refine wp_region_quiet_lit (by kernel_rfl) (by kernel_rfl) ?_
   repeat (go_big_quiet_step (fail))
   go_big_quiet_want;go_big_quiet_op
   apply Exists.intro;refine ⟨fun _ => ?_,?_⟩
   · first | exact quiet_left (b2u_any _ _) | exact quiet_add_left (b2u_any _ _)
   go_big_quiet_on
   repeat (go_big_quiet_step (fail))
   refine wpQuiet_nil ?_;intro _ hw';obtain ⟨nq,hw''⟩ := hw';subst hw'';go_wp2_with fail;have e3 : IntKind.u64.wrap ((q2 : Int) - (q3 : Int)) = (((q2 + 18446744073709551616 - q3) % 18446744073709551616 : Nat) : Int) := by rw [wrap_u64];omega
   have hbl : b2N (decide (q2 < q3)) ≤ 1 := by unfold b2N;split <;> decide
   have e4 : IntKind.u64.wrap ((q1 : Int) - b2F (decide (q2 < q3))) = (((q1 + 18446744073709551616 - b2N (decide (q2 < q3))) % 18446744073709551616 : Nat) : Int) := by rw [wrap_u64,b2F_nat];omega
   have e5 : decide (1 < IntKind.u64.wrap ((q2 : Int) - (q3 : Int))) = decide (1 < (q2 + 18446744073709551616 - q3) % 18446744073709551616) := by rw [e3];exact decide_eq_decide.2 (by omega)
   have e6 : (((q1 + 18446744073709551616 - b2N (decide (q2 < q3))) % 18446744073709551616 : Nat) : Int) / (K : Int) = (((q1 + 18446744073709551616 - b2N (decide (q2 < q3))) % 18446744073709551616 / K : Nat) : Int) := by simp
   have e7 : bits BinOp.or IntKind.u64 (IntKind.u64.wrap ((q1 : Int) - b2F (decide (q2 < q3))) / (K : Int)) (b2F (decide (1 < IntKind.u64.wrap ((q2 : Int) - (q3 : Int))))) = (((q1 + 18446744073709551616 - b2N (decide (q2 < q3))) % 18446744073709551616 / K ||| b2N (decide (1 < (q2 + 18446744073709551616 - q3) % 18446744073709551616)) : Nat) : Int) := by
    rw [e4,e5,b2F_nat,e6,u64_or_nat _ _ (Nat.lt_of_le_of_lt (Nat.div_le_self _ _) (Nat.mod_lt _ (by decide))) (b2N_lt _)]
   rw [e7];go_ret;exact ⟨rfl,_,rfl⟩
 · rw [if_neg ht];have t1 : (IntKind.u64.wrap ((q1 : Int) / (K : Int) * (K : Int)) != (q1 : Int)) = true := by rw [bne_iff_ne,ew];omega
   clear ew;go_enter Tryz.func207,Tryz.ntmps207;go_wp2_with fail;refine (h1 _).mono ?_;rintro e w1 ⟨rfl,rfl⟩;go_wp2_with fail
   have e7 : bits BinOp.or IntKind.u64 ((q1 : Int) / (K : Int)) 1 = ((q1 / K ||| 1 : Nat) : Int) := by
    rw [show (q1 : Int) / (K : Int) = ((q1 / K : Nat) : Int) by simp];exact u64_or_nat _ 1 hdl (by decide)
   rw [e7];go_ret;exact ⟨rfl,0,rfl⟩
theorem usN_lt {x hi lo s : Nat} (hx : x < 18446744073709551616) (hhi : hi < 18446744073709551616) : usN x hi lo s < 18446744073709551616 := by
 have hb1 : x * hi / 18446744073709551616 < 18446744073709551616 := by
  refine Nat.div_lt_of_lt_mul ?_;exact Nat.lt_of_lt_of_le (Nat.mul_lt_mul'' hx hhi) (Nat.le_refl _)
 unfold usN;split
 · exact or_lt64 (Nat.lt_of_le_of_lt (Nat.div_le_self _ _) (Nat.mod_lt _ (by decide))) (b2N_lt _)
 exact or_lt64 (Nat.lt_of_le_of_lt (Nat.div_le_self _ _) hb1) (by decide)
theorem prescaleN_any (hi lo : Nat → Nat) (g i : Nat) (e lp : Int) (a0 a1 a2 : Value) (W0 w : World) (hT : ∀ i,i < 696 → W0.cell? ⟨22,i * 2,none⟩ = some (.int .u64 (hi i)) ∧ W0.cell? ⟨22,i * 2 + 1,none⟩ = some (.int .u64 (lo i))) (h22 : 22 < W0.heap.size) (hW : Below W0.heap.size W0 w)
 (hg : W0.heap.size ≤ g) (hi' : i < 696) (he : -10000 ≤ e ∧ e ≤ 10000) (hlp : -1000 ≤ lp ∧ lp ≤ 1000) (hL : Blk w g 289 #[a0,a1,a2]) :
 Calls Tryz.prog 205 #[.pointer (some ⟨g,0,none⟩),.int .i64 e,.int .i64 ((i : Int) - 348),.int .i64 lp] w fun e' w' => e' = .returned (.tuple #[]) ∧ Blk w' g 289 #[.int .u64 (hi i),.int .u64 (lo i),.int .i64 (-(e + lp + 3))] ∧ Only w w' g := by
 obtain ⟨t1,t2⟩ := hT i hi';have c1 : w.cell? ⟨22,i * 2,none⟩ = some (.int .u64 (hi i)) := (hW.cell (p := ⟨22,i * 2,none⟩) h22).trans t1;have c2 : w.cell? ⟨22,i * 2 + 1,none⟩ = some (.int .u64 (lo i)) := (hW.cell (p := ⟨22,i * 2 + 1,none⟩) h22).trans t2;have k0 : w.cell? ⟨g,0,none⟩ = some a0 := hL.cell 0;have k1 : w.cell? ⟨g,1,none⟩ = some a1 := hL.cell 1;have k2 : w.cell? ⟨g,2,none⟩ = some a2 := hL.cell 2;have f0 := hL.frozen 0;have f1 := hL.frozen 1;have f2 := hL.frozen 2;have hg22 : ¬ g = 22 := by omega
 have hg22' : ¬ 22 = g := by omega
 clear hT t1 t2;go_enter Tryz.func205,Tryz.ntmps205;go_wp2_with fail
 go_end0
 refine ⟨rfl,?_,only_set (only_set (only_set (only_refl _ _) _ _) _ _) _ _⟩;have r0 := Blk.set_ hL 0 (.int .u64 (hi i));rw [show (#[a0,a1,a2] : Array Value).setIfInBounds 0 (.int .u64 (hi i)) = #[.int .u64 (hi i),a1,a2] by simp] at r0;have r1 := Blk.set_ r0 1 (.int .u64 (lo i));rw [show (#[.int .u64 (hi i),a1,a2] : Array Value).setIfInBounds 1 (.int .u64 (lo i)) = #[.int .u64 (hi i),.int .u64 (lo i),a2] by simp] at r1;have r2 := Blk.set_ r1 2 (.int .i64 (-(e + lp + 3)));rw [show (#[.int .u64 (hi i),.int .u64 (lo i),a2] : Array Value).setIfInBounds 2 (.int .i64 (-(e + lp + 3))) = #[.int .u64 (hi i),.int .u64 (lo i),.int .i64 (-(e + lp + 3))] by simp] at r2;exact r2
end Go.Proofs.YtcpijmbdibgdmaaGreatDoor
namespace Go.Proofs.YtcpijmbdibgdmaaGreatDoor
open Go.RowKit
attribute [local go_sem] ba_get store_flt
def shS (e p : Int) : Nat := ((-(e + log2F p + 3)) % 64).toNat
theorem shS_lt (e p : Int) : shS e p < 64 := by unfold shS;omega
theorem and63 (x : Int) : bits BinOp.and IntKind.i64 x 63 = (((x % 64).toNat : Nat) : Int) := by
 show IntKind.i64.wrap ((BitVec.ofInt 64 x &&& BitVec.ofInt 64 63).toNat : Int) = _;have e1 : (BitVec.ofInt 64 x).toNat = (x % 18446744073709551616).toNat := by rw [BitVec.toNat_ofInt];rfl
 have e2 : (BitVec.ofInt 64 63).toNat = 2 ^ 6 - 1 := by decide
 rw [BitVec.toNat_and,e1,e2,Nat.and_two_pow_sub_one_eq_mod];have e3 : (x % 18446744073709551616).toNat % 2 ^ 6 = (x % 64).toNat := by omega
 rw [e3];simp [IntKind.wrap,IntKind.bits,IntKind.signed];omega
def fxU (hi lo : Nat → Nat) (x i : Nat) (e : Int) : Nat := usN x (hi i) (lo i) (shS e ((i : Int) - 348))
def fxT (n u : Nat) : Bool := decide (4 * 10 ^ n - 2 ≤ u)
def fxQ (hi lo : Nat → Nat) (x i n : Nat) (e : Int) : Nat :=
 let u := fxU hi lo x i e
 if fxT n u then (if i = 361 then divN u else divN u) else (if i = 361 then divN u else u)
def fxP (hi lo : Nat → Nat) (x i n : Nat) (e : Int) : Nat :=
 if fxT n (fxU hi lo x i e) then (if i = 361 then 12 else 11) else 12
theorem fixed_any (hi lo : Nat → Nat) (x i n : Nat) (e : Int) (W0 w : World) (hT : ∀ i,i < 696 → W0.cell? ⟨22,i * 2,none⟩ = some (.int .u64 (hi i)) ∧ W0.cell? ⟨22,i * 2 + 1,none⟩ = some (.int .u64 (lo i))) (hb : ∀ i,i < 696 → hi i < 18446744073709551616 ∧ lo i < 18446744073709551616)
 (hP : ∀ i,i < 20 → W0.cell? ⟨10,i,none⟩ = some (.int .u64 ((10 ^ i : Nat) : Int))) (h22 : 22 < W0.heap.size) (hW : Below W0.heap.size W0 w) (hx : x < 18446744073709551616)
 (he : -1000 ≤ e ∧ e ≤ 1000) (hn : 1 ≤ n ∧ n ≤ 18) (hi' : i = 360 ∨ i = 361) (hp : (n : Int) - 1 - log10F (e + 63) = (i : Int) - 348) :
 Calls Tryz.prog 161 #[.int .u64 x,.int .i64 e,.int .i64 (n : Int),.int .i64 12,.int .u8 102] w fun e' w' => e' = .returned (.tuple #[.int .u64 (rndN (fxQ hi lo x i n e)),.int .i64 (-(fxP hi lo x i n e : Int))]) ∧ Below w.heap.size w w' := by
 have hl10 := fun w => log10_any (e + 63) w
 obtain ⟨l10,hl⟩ : ∃ l,l = log10F (e + 63) := ⟨_,rfl⟩;rw [← hl] at hl10 hp;have hl2 := fun w => log2_any ((i : Int) - 348) w
 obtain ⟨lp,hlp⟩ : ∃ lp,lp = log2F ((i : Int) - 348) := ⟨_,rfl⟩
 have hlp' : -400 ≤ lp ∧ lp ≤ 400 := by
  rw [hlp];unfold log2F wrap64;omega
 rw [← hlp] at hl2
 have hS : bits BinOp.and IntKind.i64 (-(e + lp + 3)) 63 = ((shS e ((i : Int) - 348) : Nat) : Int) := by
  rw [and63];unfold shS;rw [← hlp]
 obtain ⟨s,hs⟩ : ∃ s,s = shS e ((i : Int) - 348) := ⟨_,rfl⟩;have hs' : s < 64 := by rw [hs];exact shS_lt _ _
 have hu' : usN x (hi i) (lo i) s = fxU hi lo x i e := by rw [hs];rfl
 rw [← hs] at hS;have hul := usN_lt (x := x) (lo := lo i) (s := s) hx (hb i (by omega)).1;have hus := fun g w => uscaleN_any x (hi i) (lo i) s g (-(e + lp + 3)) w hx (hb i (by omega)).1 (hb i (by omega)).2 hs' hS
 obtain ⟨u,hu⟩ : ∃ u,u = fxU hi lo x i e := ⟨_,rfl⟩;rw [hu',← hu] at hus hul;have hF : fxQ hi lo x i n e = (if fxT n u then (if i = 361 then divN u else divN u) else (if i = 361 then divN u else u)) ∧ fxP hi lo x i n e = (if fxT n u then (if i = 361 then 12 else 11) else 12) := by rw [hu];exact ⟨rfl,rfl⟩
 rw [hF.1,hF.2];clear hl hlp hs hu' hu hF;have hpe : (n : Int) - 1 - l10 = (i : Int) - 348 := hp;have ep : wrap64 ((n : Int) - 1 - l10) = (i : Int) - 348 := by unfold wrap64;omega
 have ewn : (10 ^ n : Nat) < 2000000000000000000 := by
  have := Nat.pow_le_pow_right (show 0 < 10 by decide) hn.2;omega
 have epn : W0.cell? ⟨10,n,none⟩ = some (.int .u64 ((10 ^ n : Nat) : Int)) := hP n (by omega);obtain ⟨K,hK⟩ : ∃ K,K = 10 ^ n := ⟨_,rfl⟩;have hT' : fxT n u = decide (4 * K - 2 ≤ u) := by rw [hK];rfl
 rw [← hK] at epn ewn;have hK1 : 1 ≤ K := by rw [hK];exact Nat.pow_pos (by decide)
 clear hK;rw [hT'];have hum : unminF (K : Int) = ((4 * K - 2 : Nat) : Int) := by unfold unminF;rw [wrap_u64,wrap_u64];omega
 by_cases ht : 4 * K ≤ u + 2
 · rw [show decide (4 * K - 2 ≤ u) = true from decide_eq_true (by omega)];rcases hi' with hi' | hi'
   · simp only [hi',reduceIte,Bool.false_eq_true,Nat.reduceEqDiff];have hi2 : (i : Int) - 348 = 12 := by omega
     have Hi := Lib.hid hi2;have hi4 : i < 696 ∧ i < 1000 := by omega
     clear hi2 hi';go_enter Tryz.func161,Tryz.ntmps161;go_wp2_with fail;refine (hl10 _).mono ?_;rintro e' w1 ⟨rfl,rfl⟩;go_wp2_with fail;refine (hl2 _).mono ?_;rintro e' w2 ⟨rfl,rfl⟩;go_wp2_with fail;have hW1 : Below W0.heap.size W0 (w.alloc (.cells #[.int .u64 0,.int .u64 0,.int .i64 0] 289)) := hW.alloc hW.size _;have hb1 : Blk (w.alloc (.cells #[.int .u64 0,.int .u64 0,.int .i64 0] 289)) w.heap.size 289 #[.int .u64 0,.int .u64 0,.int .i64 0] := Blk.newAt _ 289 _ _ rfl;have hB1 : Below w.heap.size w (w.alloc (.cells #[.int .u64 0,.int .u64 0,.int .i64 0] 289)) := (Below.refl _ w).alloc (Nat.le_refl _) _;refine (prescaleN_any hi lo w.heap.size i e lp _ _ _ W0 _ hT h22 hW1 hW.size hi4.1 (by omega) (by omega) hb1).mono ?_;rintro e' w3 ⟨rfl,hb3,hO3⟩;have hB3 : Below w.heap.size w w3 := hB1.grown hO3 hB1.size (fun k e => by injection e with e;omega);have hW3 : Below W0.heap.size W0 w3 := hW1.grown hO3 hW1.size (fun k e => by injection e with e;have := hW.size;omega);have cn : w3.cell? ⟨10,n,none⟩ = some (.int .u64 (K : Int)) := (hW3.cell (p := ⟨10,n,none⟩) (by show 10 < _;omega)).trans epn;obtain ⟨g,hg⟩ : ∃ g,g = w.heap.size := ⟨_,rfl⟩;rw [← hg] at hb3 ⊢;have Hg := Lib.hid hg;clear hg;clear hO3 hb1 hW1 hB1;go_wp2_with fail;refine (hus g _ hb3).mono ?_;rintro e' w4 ⟨rfl,n4,rfl⟩;have hd1 := divN_lt hul;have hB4 : Below w.heap.size w (w3.drewN n4) := below_drewN hB3 _;have hi3 := Hi.out;clear hB3 hb3 hus hl2 hl10 hT hP hW hW3;go_wp2_with fail;refine (unmin_any _ _).mono ?_;rintro e' w5 ⟨rfl,rfl⟩;go_wp2_with fail;refine (div10_any u _ hul).mono ?_;rintro e' w6 ⟨rfl,n6,rfl⟩;go_wp2_with fail;refine wp_loop_rounds 1 ?_;rw [rounds_succ];go_wp2_with fail;refine (round_any _ _).mono ?_;rintro e' w7 ⟨rfl,rfl⟩;rw [rndN_eq hd1];go_wp2_with fail;refine bodyPost_ret (v := .tuple #[.int .u64 (rndN (divN u)),.int .i64 (-((11 : Nat) : Int))]) (by simp [results,Tryz.results161,go_sem]) rfl ?_;exact ⟨rfl,by have := below_drewN hB4 n6;rwa [World.drewN_drewN] at this⟩
   simp only [hi',reduceIte,Bool.false_eq_true,Nat.reduceEqDiff];have hi2 : (i : Int) - 348 = 13 := by omega
   have Hi := Lib.hid hi2;have hi4 : i < 696 ∧ i < 1000 := by omega
   clear hi2 hi';go_enter Tryz.func161,Tryz.ntmps161;go_wp2_with fail;refine (hl10 _).mono ?_;rintro e' w1 ⟨rfl,rfl⟩;go_wp2_with fail;refine (hl2 _).mono ?_;rintro e' w2 ⟨rfl,rfl⟩;go_wp2_with fail;have hW1 : Below W0.heap.size W0 (w.alloc (.cells #[.int .u64 0,.int .u64 0,.int .i64 0] 289)) := hW.alloc hW.size _;have hb1 : Blk (w.alloc (.cells #[.int .u64 0,.int .u64 0,.int .i64 0] 289)) w.heap.size 289 #[.int .u64 0,.int .u64 0,.int .i64 0] := Blk.newAt _ 289 _ _ rfl;have hB1 : Below w.heap.size w (w.alloc (.cells #[.int .u64 0,.int .u64 0,.int .i64 0] 289)) := (Below.refl _ w).alloc (Nat.le_refl _) _;refine (prescaleN_any hi lo w.heap.size i e lp _ _ _ W0 _ hT h22 hW1 hW.size hi4.1 (by omega) (by omega) hb1).mono ?_;rintro e' w3 ⟨rfl,hb3,hO3⟩;have hB3 : Below w.heap.size w w3 := hB1.grown hO3 hB1.size (fun k e => by injection e with e;omega);have hW3 : Below W0.heap.size W0 w3 := hW1.grown hO3 hW1.size (fun k e => by injection e with e;have := hW.size;omega);have cn : w3.cell? ⟨10,n,none⟩ = some (.int .u64 (K : Int)) := (hW3.cell (p := ⟨10,n,none⟩) (by show 10 < _;omega)).trans epn;obtain ⟨g,hg⟩ : ∃ g,g = w.heap.size := ⟨_,rfl⟩;rw [← hg] at hb3 ⊢;have Hg := Lib.hid hg;clear hg;clear hO3 hb1 hW1 hB1;go_wp2_with fail;refine (hus g _ hb3).mono ?_;rintro e' w4 ⟨rfl,n4,rfl⟩;have hd1 := divN_lt hul;have hB4 : Below w.heap.size w (w3.drewN n4) := below_drewN hB3 _;have hi3 := Hi.out;clear hB3 hb3 hus hl2 hl10 hT hP hW hW3;go_wp2_with fail;refine (unmin_any _ _).mono ?_;rintro e' w5 ⟨rfl,rfl⟩;go_wp2_with fail;refine (div10_any u _ hul).mono ?_;rintro e' w6 ⟨rfl,n6,rfl⟩;go_wp2_with fail;refine wp_loop_rounds 1 ?_;rw [rounds_succ];go_wp2_with fail;refine (round_any _ _).mono ?_;rintro e' w7 ⟨rfl,rfl⟩;rw [rndN_eq hd1];go_wp2_with fail;refine bodyPost_ret (v := .tuple #[.int .u64 (rndN (divN u)),.int .i64 (-((12 : Nat) : Int))]) (by simp [results,Tryz.results161,go_sem]) rfl ?_;exact ⟨rfl,by have := below_drewN hB4 n6;rwa [World.drewN_drewN] at this⟩
 · rw [show decide (4 * K - 2 ≤ u) = false from decide_eq_false (by omega)];rcases hi' with hi' | hi'
   · simp only [hi',reduceIte,Bool.false_eq_true,Nat.reduceEqDiff];have hi2 : (i : Int) - 348 = 12 := by omega
     have Hi := Lib.hid hi2;have hi4 : i < 696 ∧ i < 1000 := by omega
     clear hi2 hi';go_enter Tryz.func161,Tryz.ntmps161;go_wp2_with fail;refine (hl10 _).mono ?_;rintro e' w1 ⟨rfl,rfl⟩;go_wp2_with fail;refine (hl2 _).mono ?_;rintro e' w2 ⟨rfl,rfl⟩;go_wp2_with fail;have hW1 : Below W0.heap.size W0 (w.alloc (.cells #[.int .u64 0,.int .u64 0,.int .i64 0] 289)) := hW.alloc hW.size _;have hb1 : Blk (w.alloc (.cells #[.int .u64 0,.int .u64 0,.int .i64 0] 289)) w.heap.size 289 #[.int .u64 0,.int .u64 0,.int .i64 0] := Blk.newAt _ 289 _ _ rfl;have hB1 : Below w.heap.size w (w.alloc (.cells #[.int .u64 0,.int .u64 0,.int .i64 0] 289)) := (Below.refl _ w).alloc (Nat.le_refl _) _;refine (prescaleN_any hi lo w.heap.size i e lp _ _ _ W0 _ hT h22 hW1 hW.size hi4.1 (by omega) (by omega) hb1).mono ?_;rintro e' w3 ⟨rfl,hb3,hO3⟩;have hB3 : Below w.heap.size w w3 := hB1.grown hO3 hB1.size (fun k e => by injection e with e;omega);have hW3 : Below W0.heap.size W0 w3 := hW1.grown hO3 hW1.size (fun k e => by injection e with e;have := hW.size;omega);have cn : w3.cell? ⟨10,n,none⟩ = some (.int .u64 (K : Int)) := (hW3.cell (p := ⟨10,n,none⟩) (by show 10 < _;omega)).trans epn;obtain ⟨g,hg⟩ : ∃ g,g = w.heap.size := ⟨_,rfl⟩;rw [← hg] at hb3 ⊢;have Hg := Lib.hid hg;clear hg;clear hO3 hb1 hW1 hB1;go_wp2_with fail;refine (hus g _ hb3).mono ?_;rintro e' w4 ⟨rfl,n4,rfl⟩;have hd1 := divN_lt hul;have hB4 : Below w.heap.size w (w3.drewN n4) := below_drewN hB3 _;have hi3 := Hi.out;clear hB3 hb3 hus hl2 hl10 hT hP hW hW3;go_wp2_with fail;refine (unmin_any _ _).mono ?_;rintro e' w5 ⟨rfl,rfl⟩;go_wp2_with fail;refine wp_loop_rounds 1 ?_;rw [rounds_succ];go_wp2_with fail;refine (round_any _ _).mono ?_;rintro e' w7 ⟨rfl,rfl⟩;rw [rndN_eq hul];go_wp2_with fail;refine bodyPost_ret (v := .tuple #[.int .u64 (rndN (u)),.int .i64 (-((12 : Nat) : Int))]) (by simp [results,Tryz.results161,go_sem]) rfl ?_;exact ⟨rfl,hB4⟩
   simp only [hi',reduceIte,Bool.false_eq_true,Nat.reduceEqDiff];have hi2 : (i : Int) - 348 = 13 := by omega
   have Hi := Lib.hid hi2;have hi4 : i < 696 ∧ i < 1000 := by omega
   clear hi2 hi';go_enter Tryz.func161,Tryz.ntmps161;go_wp2_with fail;refine (hl10 _).mono ?_;rintro e' w1 ⟨rfl,rfl⟩;go_wp2_with fail;refine (hl2 _).mono ?_;rintro e' w2 ⟨rfl,rfl⟩;go_wp2_with fail;have hW1 : Below W0.heap.size W0 (w.alloc (.cells #[.int .u64 0,.int .u64 0,.int .i64 0] 289)) := hW.alloc hW.size _;have hb1 : Blk (w.alloc (.cells #[.int .u64 0,.int .u64 0,.int .i64 0] 289)) w.heap.size 289 #[.int .u64 0,.int .u64 0,.int .i64 0] := Blk.newAt _ 289 _ _ rfl;have hB1 : Below w.heap.size w (w.alloc (.cells #[.int .u64 0,.int .u64 0,.int .i64 0] 289)) := (Below.refl _ w).alloc (Nat.le_refl _) _;refine (prescaleN_any hi lo w.heap.size i e lp _ _ _ W0 _ hT h22 hW1 hW.size hi4.1 (by omega) (by omega) hb1).mono ?_;rintro e' w3 ⟨rfl,hb3,hO3⟩;have hB3 : Below w.heap.size w w3 := hB1.grown hO3 hB1.size (fun k e => by injection e with e;omega);have hW3 : Below W0.heap.size W0 w3 := hW1.grown hO3 hW1.size (fun k e => by injection e with e;have := hW.size;omega);have cn : w3.cell? ⟨10,n,none⟩ = some (.int .u64 (K : Int)) := (hW3.cell (p := ⟨10,n,none⟩) (by show 10 < _;omega)).trans epn;obtain ⟨g,hg⟩ : ∃ g,g = w.heap.size := ⟨_,rfl⟩;rw [← hg] at hb3 ⊢;have Hg := Lib.hid hg;clear hg;clear hO3 hb1 hW1 hB1;go_wp2_with fail;refine (hus g _ hb3).mono ?_;rintro e' w4 ⟨rfl,n4,rfl⟩;have hd1 := divN_lt hul;have hB4 : Below w.heap.size w (w3.drewN n4) := below_drewN hB3 _;have hi3 := Hi.out;clear hB3 hb3 hus hl2 hl10 hT hP hW hW3;go_wp2_with fail;refine (unmin_any _ _).mono ?_;rintro e' w5 ⟨rfl,rfl⟩;go_wp2_with fail;refine wp_loop_rounds 2 ?_;rw [rounds_succ];go_wp2_with fail;refine (div10_any u _ hul).mono ?_;rintro e' w6 ⟨rfl,n6,rfl⟩;go_wp2_with fail;rw [rounds_succ];go_wp2_with fail;refine (round_any _ _).mono ?_;rintro e' w7 ⟨rfl,rfl⟩;rw [rndN_eq hd1];go_wp2_with fail;refine bodyPost_ret (v := .tuple #[.int .u64 (rndN (divN u)),.int .i64 (-((12 : Nat) : Int))]) (by simp [results,Tryz.results161,go_sem]) rfl ?_;exact ⟨rfl,by have := below_drewN hB4 n6;rwa [World.drewN_drewN] at this⟩
end Go.Proofs.YtcpijmbdibgdmaaGreatDoor
namespace Go.Proofs.YtcpijmbdibgdmaaGreatDoor
open Go.RowKit
structure FS (w wr : World) (B : Nat) (v0 v : Value) (bs : List UInt8) : Prop where
 own : Own wr B v bs
 gr : w.grownBy wr v0.ownBlock
 loc : v.ownBlock = v0.ownBlock ∨ ∃ k,v.ownBlock = some k ∧ w.heap.size ≤ k
section
variable {w wr : World} {B : Nat} {v0 v : Value} {bs : List UInt8}
theorem FS.refl (h : Own w B v0 bs) : FS w w B v0 v0 bs := ⟨h,⟨rfl,rfl,rfl,Nat.le_refl _,fun _ _ _ => rfl⟩,.inl rfl⟩
theorem FS.drewN (h : FS w wr B v0 v bs) (n : Nat) : FS w (wr.drewN n) B v0 v bs := ⟨h.own.drewN n,⟨h.gr.os,h.gr.tape,h.gr.output,h.gr.size,h.gr.block⟩,h.loc⟩
theorem FS.cell (h : FS w wr B v0 v bs) {q i : Nat} (hq : q < w.heap.size) (hne : v0.ownBlock ≠ some q) : wr.cell? ⟨q,i,none⟩ = w.cell? ⟨q,i,none⟩ := by
 have := h.gr.block q hq (fun e => hne e.symm);simp only [World.cell?,this]
theorem FS.below (h : FS w wr B v0 v bs) {C : Nat} {a : World} (hb : Below C a w) (hCs : C ≤ w.heap.size) (hC : ∀ k,v0.ownBlock = some k → C ≤ k) : Below C a wr := hb.grown h.gr hCs (fun k e => hC k e)
end
theorem wp_app_fs {ops : Array Oper} {rest : List Oper} {o : Oper} {a : Act} {Q : Exit → Act → World → Prop} (w0 wr : World) (c : UInt8) (B : Nat) (v0 v : Value) (bs : List UInt8) (hfs : FS w0 wr B v0 v bs) (hB : B ≤ w0.heap.size)
 (hlen : bs.length ≤ 1099511627776) (hgd : o.guard = none) (s x : Operand)
 (ho : o.op = .call { callee := .builtin .append,args := #[s,x],argTypes := #[40,40] }) (hs : a.eval s = v) (hx : a.eval x = .slice (some ⟨wr.heap.size,0,none⟩) 1 1)
 (h : ∀ v' w',FS w0 w' B v0 v' (bs ++ [c]) → wpList Tryz.prog ops Q rest (a.put o.dst v') w') : wpList Tryz.prog ops Q (o :: rest) a (wr.alloc (.cells #[bcell c] 5)) := by
 obtain ⟨i0,hi,hz0,hz1,hz2⟩ := info_parts Tryz.info5;have hsz : w0.heap.size ≤ wr.heap.size := hfs.gr.size;refine wpList_append_own_at _ hgd s x 40 ho B 5 i0 (.int .u8 0) 1 1 Tryz.underlying40 hi hz0 hz1 hz2 rfl (by decide) v bs.length (bs.map bcell) hs (hfs.own.alloc _) ⟨wr.heap.size,0,none⟩ 1 1 [bcell c] hx rfl ?_ ?_ ?_ ?_ ?_ ?_
 · intro j u hj
   match j,hj with
   | 0,hj =>
     simp at hj;subst hj;exact cell_new_byte wr c _ rfl
 · intro u hu;simp at hu;subst hu;rfl
 · unfold maxLen;omega
 · omega
 · simp;omega
 · intro v' w' h1 h2 _ h4;refine h v' w' ⟨by unfold Own;simpa using h1,?_,?_⟩
   · have hg : w0.grownBy (wr.alloc (.cells #[bcell c] 5)) v0.ownBlock := hfs.gr.trans (World.grownBy_alloc _ _ _);refine ⟨h2.os.trans hg.os,h2.tape.trans hg.tape,h2.output.trans hg.output,Nat.le_trans hg.size h2.size,fun k hk hne => ?_⟩;refine (h2.block k (Nat.lt_of_lt_of_le hk hg.size) (fun e => ?_)).trans (hg.block k hk hne);rcases hfs.loc with hl | ⟨k',hl,hk'⟩
     · rw [hl] at e;exact hne e
     rw [hl] at e;injection e with e;omega
   rcases h4 with h4 | h4
   · rw [h4];exact hfs.loc
   right;exact ⟨_,h4,by simp;omega⟩
end Go.Proofs.YtcpijmbdibgdmaaGreatDoor
