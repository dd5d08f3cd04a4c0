/-
  spec.fromKids, over what fromObject says of smaller objects.
  spec.Value.entries, Entry.
  spec.Read: what was printed is read.
  What an object weighs bounds what is written of it; its numbers are such as can be written.
-/
import Derived.Test.YtcpijmbdibgdmaaGreatDoorMs20
import Derived.Deep.RegionHeld
import Derived.Test.YtcpijmbdibgdmaaGreatDoorMs24
set_option linter.all false
set_option maxHeartbeats 16000000
set_option maxRecDepth 100000
namespace Go.Proofs.YtcpijmbdibgdmaaGreatDoor
open Go.RowKit
attribute [local go_sem] ba_get store_flt
def Shp (cs : Array Value) : Prop := ∃ (kd n g : Int) (x : Nat) (t : List UInt8) (kp : Option Addr) (ka kb : Nat) (vp : Option Addr) (va vb : Nat),
    cs = #[.int .i64 kd,.int .i64 n,.int .i64 g,.float .f64 x,S t,.slice kp ka kb,.slice vp va vb]
def FromPost (tw : Nat → Bool) (W0 w : World) (o : OObj) (e : Ending) (w' : World) : Prop :=
 ∃ (cs : Array Value) (b : Bool),e = .returned (.tuple #[.agg cs,.bool b]) ∧ Shp cs ∧ Below w.heap.size w w' ∧
   ((∃ p,objM tw o = some p ∧ b = true ∧ VRep w' (fun i => i < W0.heap.size ∨ w.heap.size ≤ i) (valP id p) cs.toList) ∨ (objM tw o = none ∧ b = false))
def FromSaid (tw : Nat → Bool) (W0 : World) (n : Nat) : Prop := ∀ (o : OObj) (c : List Value) (w : World),SizeOf.sizeOf o ≤ n → ORep W0 W0.heap.size o c → OInt o → bulkO o ≤ 1048576 → Below W0.heap.size W0 w →
 Calls Tryz.prog 24 #[.agg c.toArray] w (FromPost tw W0 w o)
def outC (kd : Int) (ks v : Value) : Array Value := #[.int .i64 kd,.int .i64 0,.int .i64 0,.float .f64 0,S [],ks,v]
def KidsPost (tw : Nat → Bool) (W0 w : World) (kd : Int) (ks : Value) (l : List OObj) (e : Ending) (w' : World) : Prop :=
 Below w.heap.size w w' ∧ ((∃ q v xs,objL tw l = some q ∧ e = .returned (.tuple #[.agg (outC kd ks v),.bool true]) ∧ w'.ownsRow 0 34 7 v q.length xs ∧ (∀ g,v.ownBlock = some g → w.heap.size ≤ g) ∧
  KRep w' (fun i => i < W0.heap.size ∨ w.heap.size ≤ i) (valL id q) xs) ∨ (objL tw l = none ∧ e = .returned (.tuple #[.agg vZero,.bool false])))
theorem objL_cons (tw : Nat → Bool) (o : OObj) (l : List OObj) : objL tw (o :: l) = match objM tw o with | none => none | some p => (objL tw l).map (p :: ·) := rfl
theorem valL_app (rf : Nat → Nat) : ∀ (a b : List PObj),valL rf (a ++ b) = valL rf a ++ valL rf b
 | [],b => rfl
 | p :: a,b => by rw [List.cons_append,valL,valL,valL_app rf a b];rfl
theorem res_cell2 {fn : Func} {i j : Nat} (hr : fn.results = #[.cell i 34,.tmp j]) {w : World} {b : Nat} {q0 q1 q2 q3 q4 q5 q6 v : Value} {tmps : Array Value} (hb : Blk w b 34 #[q0,q1,q2,q3,q4,q5,q6]) (ht : tmps.getD i undef = .pointer (some ⟨b,0,none⟩)) (hj : tmps.getD j undef = v) :
 (results fn tmps).run Tryz.prog w = .ok (.tuple #[.agg #[q0,q1,q2,q3,q4,q5,q6],v]) w := by
 have k0 : w.cell? ⟨b,0,none⟩ = some q0 := hb.cell 0;have k1 : w.cell? ⟨b,1,none⟩ = some q1 := hb.cell 1;have k2 : w.cell? ⟨b,2,none⟩ = some q2 := hb.cell 2;have k3 : w.cell? ⟨b,3,none⟩ = some q3 := hb.cell 3;have k4 : w.cell? ⟨b,4,none⟩ = some q4 := hb.cell 4;have k5 : w.cell? ⟨b,5,none⟩ = some q5 := hb.cell 5;have k6 : w.cell? ⟨b,6,none⟩ = some q6 := hb.cell 6;have ht' : tmps[i]?.getD undef = .pointer (some ⟨b,0,none⟩) := by simpa using ht
 have hj' : tmps[j]?.getD undef = v := by simpa using hj
 simp [results,hr,go_sem,ht',hj',k0,k1,k2,k3,k4,k5,k6]
structure KS (W0 w wr : World) (b b3 b4 : Nat) (kd : Int) (ks : Value) (C : Array Value) (q : List PObj) (v : Value) (xs : List Value) : Prop where
 h2 : Blk wr b 34 (outC kd ks v)
 h3 : Blk wr b3 28 C
 h4 : Blk wr b4 34 vZero
 own : wr.ownsRow (b + 3) 34 7 v q.length xs
 kids : KRep wr (fun i => (i < W0.heap.size ∨ b + 2 < i) ∧ v.ownBlock ≠ some i) (valL id q) xs
 below : Below w.heap.size w wr
 hb : b = w.heap.size
 e3 : b3 = b + 1
 e4 : b4 = b + 2
 h0 : W0.heap.size ≤ w.heap.size
section
variable {W0 w wr w' w2 : World} {b b3 b4 : Nat} {kd : Int} {ks v : Value} {C : Array Value} {q : List PObj} {xs : List Value}
theorem KS.keep (h : KS W0 w wr b b3 b4 kd ks C q v xs) (hB : Below wr.heap.size wr w') : KS W0 w w' b b3 b4 kd ks C q v xs := by
 have l4 := h.h4.lt;have e3 := h.e3;have e4 := h.e4;refine ⟨h.h2.below hB (by omega),h.h3.below hB (by omega),h.h4.below hB l4,ownsRow_keepB h.own (fun g hg => hB.block g (World.ownsRow.lt h.own g hg).2),?_,h.below.trans (hB.mono h.below.size),h.hb,e3,e4,h.h0⟩;exact KRep.mono (fun i hi hlt => ⟨hB.block i hlt,hi⟩) _ _ h.kids
theorem KS.elem (h : KS W0 w wr b b3 b4 kd ks C q v xs) {p : PObj} {cs : List Value} (hv : VRep wr (fun i => i < W0.heap.size ∨ b + 2 < i ∧ v.ownBlock ≠ some i) (valP id p) cs) {o : Obj} {g cap : Nat}
 (happ : w2.ownsRow (b + 3) 34 7 (.slice (some ⟨g,0,none⟩) (q.length + 1) cap) (q.length + 1) (xs ++ cs)) (hgr : (wr.alloc o).grownBy w2 v.ownBlock) (hat : v.ownBlock = some g ∨ g = (wr.alloc o).heap.size) :
 KS W0 w (w2.setCell ⟨b,6,none⟩ (.slice (some ⟨g,0,none⟩) (q.length + 1) cap)) b b3 b4 kd ks C (q ++ [p]) (.slice (some ⟨g,0,none⟩) (q.length + 1) cap) (xs ++ cs) := by
 have h0 := h.h0;have hb := h.hb;have hog := fun g hg => World.ownsRow.lt h.own g hg
 have l4 := h.h4.lt;have e3 := h.e3;have e4 := h.e4;have hsa : (wr.alloc o).heap.size = wr.heap.size + 1 := by simp
 have hgb : b + 2 < g := by have := World.ownsRow.lt happ g rfl;omega
 have far : ∀ i,i ≠ b → (w2.setCell ⟨b,6,none⟩ (.slice (some ⟨g,0,none⟩) (q.length + 1) cap)).heap[i]? = w2.heap[i]? := fun i hi => Below.heap_setCell _ _ _ _ hi
 have keep2 : ∀ i,i < wr.heap.size → v.ownBlock ≠ some i → w2.heap[i]? = wr.heap[i]? := fun i hi hv => by
  rw [hgr.block i (by omega) (fun e => hv e.symm)];exact Below.heap_alloc wr o i hi
 have keep : ∀ i,i < wr.heap.size → v.ownBlock ≠ some i → i ≠ b → (w2.setCell ⟨b,6,none⟩ (.slice (some ⟨g,0,none⟩) (q.length + 1) cap)).heap[i]? = wr.heap[i]? := fun i hi hv hb => by
  rw [far i hb];exact keep2 i hi hv
 refine ⟨?_,?_,?_,?_,?_,?_,hb,e3,e4,h0⟩
 · have h2 : Blk w2 b 34 (outC kd ks v) := (keep2 b (by omega) (fun e => by have := hog _ e;omega)).trans h.h2;exact Blk.set_ h2 6 _
 · exact (keep _ (by omega) (fun e => by have := hog _ e;omega) (by omega)).trans h.h3
 · exact (keep _ (by omega) (fun e => by have := hog _ e;omega) (by omega)).trans h.h4
 · refine ownsRow_keepB (by simpa using happ) (fun i hi => far i (by injection hi with hi;simp only at hi;omega))
 · rw [valL_app];refine KRep.snoc ?_ _ xs ?_
   · refine VRep.mono (fun i hi hlt => ?_) _ cs hv;rcases hi with hi | ⟨hi,hn⟩
     · have hno : v.ownBlock ≠ some i := fun e => by have := hog _ e;omega
       refine ⟨keep i hlt hno (by omega),.inl hi,fun e => ?_⟩;injection e with e;simp only at e;omega
     refine ⟨keep i hlt hn (by omega),.inr hi,fun e => ?_⟩;injection e with e;simp only at e;rcases hat with hat | hat
     · exact hn (by rw [hat,e])
     omega
   refine KRep.mono (fun i hi hlt => ?_) _ xs h.kids;refine ⟨keep i hlt hi.2 (by rcases hi.1 with h1 | h1 <;> omega),hi.1,fun e => ?_⟩;injection e with e;simp only at e;rcases hat with hat | hat
   · exact hi.2 (by rw [hat,e])
   omega
 · have hg2 : w.grownBy w2 none → Below w.heap.size w w2 := fun hh => ⟨hh.os,hh.tape,hh.output,hh.size,fun i hi => hh.block i hi (by simp)⟩
   have h1 := h.below;refine Below.setCell ⟨hgr.os.trans h1.os,hgr.tape.trans h1.tape,hgr.output.trans h1.output,Nat.le_trans h1.size (Nat.le_trans (by rw [hsa];omega) hgr.size),fun i hi => ?_⟩ (by simp only;omega) _;exact (keep2 i (Nat.lt_of_lt_of_le hi h1.size) (fun e => by have := hog _ e;omega)).trans (h1.block i hi)
theorem KS.done (h : KS W0 w wr b b3 b4 kd ks C q v xs) (hO : Only wr w' b4) : Below w.heap.size w w' ∧ w'.ownsRow 0 34 7 v q.length xs ∧ (∀ g,v.ownBlock = some g → w.heap.size ≤ g) ∧ KRep w' (fun i => i < W0.heap.size ∨ w.heap.size ≤ i) (valL id q) xs := by
 have h0 := h.h0;have hb := h.hb;have e4 := h.e4;have hog := fun g hg => World.ownsRow.lt h.own g hg
 refine ⟨only_new hO (by omega) h.below,ownsRow_base (ownsRow_keepB h.own (fun g hg => hO.block g (hog g hg).2 (fun e => by have := hog g hg;injection e with e;omega))),fun g hg => by have := hog g hg;omega,?_⟩;refine KRep.mono (fun i hi hlt => ?_) _ xs h.kids;rcases hi.1 with h1 | h1
 · exact ⟨hO.block i hlt (fun e => by injection e with e;omega),.inl h1⟩
 exact ⟨hO.block i hlt (fun e => by injection e with e;omega),.inr (by omega)⟩
end
theorem kids_any (tw : Nat → Bool) (W0 : World) (m : Nat) (hFr : FromSaid tw W0 m) (kd kd1 nn g : Int) (x : Nat) (t : List UInt8) (ks : List (List UInt8)) (l : List OObj) (c : List Value) (kp : Option Addr) (ka kb : Nat) (w : World)
 (hn : SizeOf.sizeOf (OObj.mk kd1 nn g x t ks l) ≤ m + 1) (hR : ORep W0 W0.heap.size (.mk kd1 nn g x t ks l) c) (hI : OIntL l) (hb : bulkL l ≤ 1048576) (hW : Below W0.heap.size W0 w) :
 Calls Tryz.prog 58 #[.agg (outC kd (.slice kp ka kb) (.slice none 0 0)),.agg c.toArray] w (KidsPost tw W0 w kd (.slice kp ka kb) l) := by
 unfold ORep at hR;obtain ⟨kv,lv,xs,rfl,hk,hl,hkids⟩ := hR;obtain ⟨A,kc,rfl,hkc1,hkc2,hkl,hkr⟩ := hk;obtain ⟨A2,lc,rfl,hlc1,hlc2,hll,hlr⟩ := hl;have hbl := bulkL_len l;have hls : l.length ≤ 131072 := by omega
 have HFr := Lib.hid hFr;have HW := Lib.hid hW;have HL := Lib.hid hlr;have HN := Lib.hid hn;have HI := Lib.hid hI;have HB := Lib.hid hb;unfold maxLen at hkc2 hlc2;clear hFr hW hkr hlr hn hkl hI hb hbl;obtain ⟨C,hC⟩ : ∃ C,C = (ov7 kd1 nn g x t (.slice A ks.length kc) (.slice A2 l.length lc)).toArray := ⟨_,rfl⟩;have HC := Lib.hid hC;have H6 : Hid (C[6]? = some (.slice A2 l.length lc)) := Lib.hid (by rw [hC];rfl);clear hC;obtain ⟨i0,hi,hi0,hi1,hi2⟩ := info_parts Tryz.info34;change Calls Tryz.prog 58 #[.agg #[.int .i64 kd,.int .i64 0,.int .i64 0,.float .f64 0,S [],.slice kp ka kb,.slice none 0 0],.agg #[.int .i64 kd1,.int .i64 nn,.int .i64 g,.float .f64 x,S t,.slice A ks.length kc,.slice A2 l.length lc]] w _;go_enter Tryz.func58,Tryz.ntmps58;go_wp2_with fail;refine wp_gen (fun wr => KS W0 w wr w.heap.size (w.heap.size + 1) (w.heap.size + 1 + 1) kd (.slice kp ka kb) C [] (.slice none 0 0) []) ?_ ?_
 · refine ⟨?_,?_,?_,?_,?_,?_,rfl,rfl,rfl,HW.out.size⟩
   · exact Blk.alloc (Blk.alloc (Blk.newAt _ 34 _ _ rfl) _) _
   · rw [HC.out];exact Blk.alloc (Blk.newAt _ 28 _ _ (by simp)) _
   · exact Blk.newAt _ 34 vZero _ (by simp)
   · exact World.ownsRow_nil _ _ _ _
   · unfold valL KRep;rfl
   exact (((Below.refl _ w).alloc (Nat.le_refl _) _).alloc (by simp) _).alloc (by simp;omega) _
 obtain ⟨b4,hb4⟩ : ∃ b,b = w.heap.size + 1 + 1 := ⟨_,rfl⟩;rw [← hb4];obtain ⟨b3,hb3⟩ : ∃ b,b = w.heap.size + 1 := ⟨_,rfl⟩;rw [← hb3];obtain ⟨b,hbz⟩ : ∃ b,b = w.heap.size := ⟨_,rfl⟩;rw [← hbz];clear hbz hb3 hb4;intro w0 hS0;have c6 := (hS0.h3.cell 6).trans H6.out
 go_loopg [13] l.length (fun g i wr => ∃ (k : Nat) (q : List PObj) (v : Value) (ys : List Value),i = .int .i64 k ∧ k + g = l.length ∧ q.length = k ∧ Hid (objL tw l = (objL tw (l.drop k)).map (q ++ ·)) ∧ KS W0 w wr b b3 b4 kd (.slice kp ka kb) C q v ys)
 case atStart => exact ⟨0,[],_,[],rfl,by omega,rfl,Lib.hid (by cases h : objL tw l <;> simp [h]),hS0⟩
 case round =>
  clear hS0 c6;obtain ⟨k,q,v,ys,rfl,hg,hq,Hq,hS⟩ := hrel;by_cases hk : k < l.length
  · have tk : k < l.length := hk;obtain ⟨bk,off,rfl,hbk,hrow⟩ := HL.out (by omega);obtain ⟨c',hc7,hrep,hat⟩ := hkids.at_ k hk;have hint := HI.out.at_ k hk;have hbo := bulkL_at k hk;have hsz := List.sizeOf_lt_of_mem (List.getElem_mem hk);have hdk := List.drop_eq_getElem_cons hk;obtain ⟨o',ho'⟩ : ∃ o',o' = l[k] := ⟨_,rfl⟩;rw [← ho'] at hrep hint hbo hsz hdk;have hsz2 : SizeOf.sizeOf o' ≤ m := by have := HN.out;simp at this;omega
    have hbo2 : bulkO o' ≤ 1048576 := by have := HB.out;omega
    have Hdk := Lib.hid hdk;clear hdk ho' hsz hbo;have hrep2 := hrep;obtain ⟨kd',n',g',x',t',ks',l'⟩ := o';unfold ORep at hrep;obtain ⟨kv',lv',xs',rfl,hk',hl',_⟩ := hrep;obtain ⟨A',kc',rfl,_⟩ := hk';obtain ⟨A2',lc',rfl,_⟩ := hl';have hWr := HW.out.trans (hS.below.mono HW.out.size);obtain ⟨d0,d1,d2,d3,d4,d5,d6⟩ := row7 (fun j u hj => (hWr.cell (p := ⟨bk,off + j,none⟩) hbk).trans (hrow j u hj)) hat rfl;have l4 := hS.h4.lt;go_wp2_with fail;refine (HFr.out _ _ _ hsz2 hrep2 hint hbo2 (hWr.alloc hWr.size _)).mono ?_;rintro e w2 ⟨cs,bo,rfl,⟨kd9,n9,g9,x9,t9,kp9,ka9,kb9,vp9,va9,vb9,rfl⟩,hB2,hres⟩;have hB2' : Below wr.heap.size wr w2 := ((Below.refl _ wr).alloc (Nat.le_refl _) _).trans (hB2.mono (by simp));have hS2 := hS.keep hB2';have hsz1 : wr.heap.size + 1 ≤ w2.heap.size := by have := hB2.size;simpa using this
    have l5 : b4 < w2.heap.size := hS2.h4.lt;have l6 : b < w2.heap.size := hS2.h2.lt;have q3 := hS.e3;have q4 := hS.e4;have n1 : ¬ b = b4 := by omega
    have n2 : ¬ b4 = b := by omega
    clear q3 q4;have hol : ∀ g,v.ownBlock = some g → g < wr.heap.size := fun g hg => (World.ownsRow.lt hS.own g hg).2
    have hb4r : b4 < wr.heap.size := l4;clear d0 d1 d2 d3 d4 d5 d6 hS l4 hrep2 hint hbo2 hsz2;obtain ⟨z0,z1,z2,z3,z4,z5,z6⟩ := res_cells hS2.h4 rfl;have y0 := hS2.h4.frozen 0;have y1 := hS2.h4.frozen 1;have y2 := hS2.h4.frozen 2;have y3 := hS2.h4.frozen 3;have y4 := hS2.h4.frozen 4;have y5 := hS2.h4.frozen 5;have y6 := hS2.h4.frozen 6;rcases hres with ⟨p,hp,rfl,hrep3⟩ | ⟨hno,rfl⟩
    · obtain ⟨vp,va,vb,rfl⟩ := ownsRow_slice hS2.own;have p6 : w2.cell? ⟨b,6,none⟩ = some (.slice vp va vb) := hS2.h2.cell 6;have r6 := hS2.h2.frozen 6;have hB3 : Below w2.heap.size w2 (w2.alloc (.cells #[.int .i64 kd9,.int .i64 n9,.int .i64 g9,.float .f64 x9,S t9,.slice kp9 ka9 kb9,.slice vp9 va9 vb9] 34)) := (Below.refl _ w2).alloc (Nat.le_refl _) _;have hS3 := hS2.keep hB3;have hown3 := World.ownsRow.alloc hS3.own (.cells #[.int .i64 kd9,.int .i64 n9,.int .i64 g9,.float .f64 x9,S t9,.slice kp9 ka9 kb9,.slice vp9 va9 vb9] 34)
      have hVp : VRep (w2.alloc (.cells #[.int .i64 kd9,.int .i64 n9,.int .i64 g9,.float .f64 x9,S t9,.slice kp9 ka9 kb9,.slice vp9 va9 vb9] 34)) (fun i => i < W0.heap.size ∨ b + 2 < i ∧ (Value.slice vp va vb).ownBlock ≠ some i) (valP id p) [.int .i64 kd9,.int .i64 n9,.int .i64 g9,.float .f64 x9,S t9,.slice kp9 ka9 kb9,.slice vp9 va9 vb9] := by
       refine VRep.mono (fun i hi hlt => ⟨hB3.block i hlt,?_⟩) _ _ hrep3;rcases hi with hi | hi
       · exact .inl hi
       have hi2 : wr.heap.size + 1 ≤ i := by simpa using hi
       have e4 := hS3.e4;exact .inr ⟨by omega,fun e => by have := hol i e;omega⟩
      have hone := VRep.one _ _ hVp;have HVp := Lib.hid hVp
      have Hqn : Hid (objL tw l = (objL tw (l.drop (k + 1))).map ((q ++ [p]) ++ ·)) := Lib.hid (by
       rw [Hq.out,Hdk.out,objL_cons,hp]
       cases objL tw (l.drop (k + 1)) <;> simp)
      have h96 : q.length + 1 ≤ maxLen := by unfold maxLen;omega
      have hby : (q.length + 1) * 96 ≤ 140737488355328 := by omega
      have hba : b4 + 1 ≤ (w2.alloc (.cells #[.int .i64 kd9,.int .i64 n9,.int .i64 g9,.float .f64 x9,S t9,.slice kp9 ka9 kb9,.slice vp9 va9 vb9] 34)).heap.size := by simp;omega
      clear hVp hrep3 hp Hq Hdk hrow hat hB2 hB2';go_wp2_with (at_builtin;(refine wpList_append_lies _ rfl (.tmp 26) (.tmp 28) 32 rfl (b + 3) 34 i0 (.agg vZero) 7 96 Tryz.underlying32 hi hi0 hi1 hi2 rfl (by decide) (.slice vp va vb) q.length ys (by simp [Act.eval,Act.put]) hown3 ⟨w2.heap.size + 1,0,none⟩ 1 1 [.int .i64 kd9,.int .i64 n9,.int .i64 g9,.float .f64 x9,S t9,.slice kp9 ka9 kb9,.slice vp9 va9 vb9] (by simp [Act.eval,Act.put]) rfl (news_new (by simp)) hone (by decide) h96 hby (by simp;omega) _ rfl ?_;intro g9' cap9 w6 hown6 hgrow hat6 hlt6;have hb6 := Blk.grown (Blk.alloc hS3.h2 _) hgrow (fun e => by have := (World.ownsRow.lt hS3.own _ e.symm).1;omega);have k6 := hb6.cell 6;have kf6 := hb6.frozen 6));have hfin := KS.elem hS3 HVp.out hown6 hgrow hat6
      go_roundg (l.length - (k + 1))
      case measure => omega
      case rel =>
       rw [hq] at hfin;exact ⟨k + 1,q ++ [p],_,_,rfl,by omega,by simp [hq],Hqn,hfin⟩
    have Hno : Hid (objL tw l = none) := Lib.hid (by rw [Hq.out,Hdk.out,objL_cons,hno];rfl);clear hno Hq Hdk hrow hat;go_wp2_with fail;have hput := Blk.put7 (show Blk w2 b4 34 #[.int .i64 0,.int .i64 0,.int .i64 0,.float .f64 0,S [],.slice none 0 0,.slice none 0 0] from hS2.h4) (.int .i64 0) (.int .i64 0) (.int .i64 0) (.float .f64 0) (S []) (.slice none 0 0) (.slice none 0 0);have e4 := hS2.e4;have eb := hS2.hb;have hBp := ((((((hS2.below.setCell (p := ⟨b4,0,none⟩) (by simp only;omega) (.int .i64 0)).setCell (p := ⟨b4,1,none⟩) (by simp only;omega) (.int .i64 0)).setCell (p := ⟨b4,2,none⟩) (by simp only;omega) (.int .i64 0)).setCell (p := ⟨b4,3,none⟩) (by simp only;omega) (.float .f64 0)).setCell (p := ⟨b4,4,none⟩) (by simp only;omega) (S [])).setCell (p := ⟨b4,5,none⟩) (by simp only;omega) (.slice none 0 0)).setCell (p := ⟨b4,6,none⟩) (by simp only;omega) (.slice none 0 0);refine bodyPost_ret (res_cell2 Tryz.results58 (Blk.alloc hput _) (by simp) rfl) rfl ?_;exact ⟨hBp.alloc hBp.size _,.inr ⟨Hno.out,rfl⟩⟩
  have tk : ¬ k < l.length := hk;have hqe : objL tw l = some q := by rw [Hq.out,List.drop_eq_nil_of_le (by omega),objL];simp
  have Hqe := Lib.hid hqe;clear hqe Hq;have p0 := hS.h2.cell 0;have p1 := hS.h2.cell 1;have p2 := hS.h2.cell 2;have p3 := hS.h2.cell 3;have p4 := hS.h2.cell 4;have p5 := hS.h2.cell 5;have p6 := hS.h2.cell 6;obtain ⟨z0,z1,z2,z3,z4,z5,z6⟩ := res_cells hS.h4 rfl;have y0 := hS.h4.frozen 0;have y1 := hS.h4.frozen 1;have y2 := hS.h4.frozen 2;have y3 := hS.h4.frozen 3;have y4 := hS.h4.frozen 4;have y5 := hS.h4.frozen 5;have y6 := hS.h4.frozen 6;obtain ⟨vp,va,vb,rfl⟩ := ownsRow_slice hS.own;simp only [outC] at p0 p1 p2 p3 p4 p5 p6;have l4 := hS.h4.lt;go_wp2_with fail;have hput := Blk.put7 (show Blk wr b4 34 #[.int .i64 0,.int .i64 0,.int .i64 0,.float .f64 0,S [],.slice none 0 0,.slice none 0 0] from hS.h4) (.int .i64 kd) (.int .i64 0) (.int .i64 0) (.float .f64 0) (S []) (.slice kp ka kb) (.slice vp va vb);obtain ⟨h1,h2,h3,h4⟩ := hS.done (w' := ((((((wr.setCell ⟨b4,0,none⟩ (.int .i64 kd)).setCell ⟨b4,1,none⟩ (.int .i64 0)).setCell ⟨b4,2,none⟩ (.int .i64 0)).setCell ⟨b4,3,none⟩ (.float .f64 0)).setCell ⟨b4,4,none⟩ (S [])).setCell ⟨b4,5,none⟩ (.slice kp ka kb)).setCell ⟨b4,6,none⟩ (.slice vp va vb)) (by repeat first | with_reducible exact only_refl _ _ | with_reducible refine only_set ?_ _ _);refine bodyPost_ret (res_cell2 Tryz.results58 hput (by simp) rfl) rfl ?_;exact ⟨h1,.inl ⟨q,_,ys,Hqe.out,rfl,h2,h3,h4⟩⟩
end Go.Proofs.YtcpijmbdibgdmaaGreatDoor
namespace Go.Proofs.YtcpijmbdibgdmaaGreatDoor
open Go.RowKit
attribute [local go_sem] ba_get store_flt
def nnS : List SVal → Nat
 | [] => 0
 | v :: l => (if kindS v = 0 then 0 else 1) + nnS l
theorem nnS_le : ∀ l : List SVal,nnS l ≤ l.length
 | [] => Nat.le_refl _
 | v :: l => by have := nnS_le l;rw [nnS,List.length_cons];split <;> omega
theorem nnS_drop : ∀ (l : List SVal) (i : Nat) (h : i < l.length),nnS (l.drop i) = (if kindS l[i] = 0 then 0 else 1) + nnS (l.drop (i + 1))
 | [],i,h => by simp at h
 | v :: l,0,_ => by simp [nnS]
 | v :: l,i + 1,h => by simpa using nnS_drop l i (by simpa using h)
theorem entries_any (v : SVal) (c : List Value) (F : Nat → Prop) (w : World) (hR : VRep w F v c) : Calls Tryz.prog 36 #[.agg c.toArray] w fun e w' => e = .returned (.int .i64 (nnS (kidsS v) : Nat)) ∧ Below w.heap.size w w' := by
 obtain ⟨k,kv,rfl,⟨kp,kb,rfl,_⟩,vp,vb,rfl,hvb,hvm,hrow⟩ := hR.open_;obtain ⟨l,hl⟩ : ∃ l,l = kidsS v := ⟨_,rfl⟩;obtain ⟨kl,hkl⟩ : ∃ kl,kl = (keysS v).length := ⟨_,rfl⟩;rw [← hl] at hvb hrow ⊢;rw [← hkl];have Hrow := Lib.hid hrow;have hll : l.length ≤ 9223372036854775807 := by have := hvm;unfold maxLen at this;omega
 obtain ⟨NN,hNN⟩ : ∃ n,n = nnS l := ⟨_,rfl⟩;have hNl : NN ≤ l.length := by rw [hNN];exact nnS_le l
 have HNN := Lib.hid hNN;rw [← hNN];obtain ⟨a0,ha0⟩ : ∃ a,a = kindS v := ⟨_,rfl⟩;obtain ⟨a1,ha1⟩ : ∃ a,a = numS v := ⟨_,rfl⟩;obtain ⟨a2,ha2⟩ : ∃ a,a = genS v := ⟨_,rfl⟩;obtain ⟨a3,ha3⟩ : ∃ a,a = realS v := ⟨_,rfl⟩;obtain ⟨a4,ha4⟩ : ∃ a,a = textS v := ⟨_,rfl⟩;rw [← ha0,← ha1,← ha2,← ha3,← ha4];clear hrow hR ha0 ha1 ha2 ha3 ha4 hl hkl hvb hvm hNN;obtain ⟨C,hC⟩ : ∃ C,C = (sv7 a0 a1 a2 a3 a4 (.slice kp kl kb) (.slice vp l.length vb)).toArray := ⟨_,rfl⟩;have HC := Lib.hid hC;clear hC;change Calls Tryz.prog 36 #[.agg #[.int .i64 a0,.int .i64 a1,.int .i64 a2,.float .f64 a3,S a4,.slice kp kl kb,.slice vp l.length vb]] w _;go_enter Tryz.func36,Tryz.ntmps36;go_wp2_with fail;have hS0 : BoxS w (w.alloc (.cells #[.int .i64 a0,.int .i64 a1,.int .i64 a2,.float .f64 a3,S a4,.slice kp kl kb,.slice vp l.length vb] 34)) w.heap.size C := by rw [HC.out];exact BoxS.start w _
 obtain ⟨b,hb⟩ : ∃ b,b = w.heap.size := ⟨_,rfl⟩;rw [← hb] at hS0 ⊢;clear hb
 go_loopg [3,9] l.length (fun g i j wr => ∃ (k : Nat) (y : Nat),i = .int .i64 (y : Nat) ∧ j = .int .i64 k ∧ k + g = l.length ∧ y ≤ k ∧ Hid (y + nnS (l.drop k) = NN) ∧ BoxS w wr b C)
 case atStart => exact ⟨0,0,rfl,rfl,by omega,by omega,Lib.hid (by rw [HNN.out];simp),hS0⟩
 case round =>
  clear hS0;obtain ⟨k,y,rfl,rfl,hg,hyb,Hy,hS⟩ := hrel;by_cases hk : k < l.length
  · have tk : k < l.length := hk;obtain ⟨g0,rfl,_,hg0,hat⟩ := Hrow.out (by omega);obtain ⟨c',hc7,hrep,hcells⟩ := hat k hk;have hlt := hS.box.lt;have hcd := nnS_drop l k hk;obtain ⟨u,hu⟩ : ∃ u,u = l[k] := ⟨_,rfl⟩;rw [← hu] at hrep hcd;obtain ⟨kp',kb',vp',vb',rfl,d0,d1,d2,d3,d4,d5,d6⟩ := row_cells hg0 hS.below hrep hcells;have hS2 := hS.alloc (.cells (sv7 (kindS u) (numS u) (genS u) (realS u) (textS u) (.slice kp' (keysS u).length kb') (.slice vp' (kidsS u).length vb')).toArray 34);obtain ⟨kd,hkd⟩ : ∃ kd,kd = kindS u := ⟨_,rfl⟩;rw [← hkd] at d0 hS2 hcd;by_cases hz : kd = 0
    · have tz : (kd != 0) = false := by simp [hz]
      have Hyn : Hid (y + nnS (l.drop (k + 1)) = NN) := Lib.hid (by have := Hy.out;rw [hcd,if_pos hz] at this;omega);clear hcells hat hrep hu hcd hkd Hy hz;go_wp2_with fail
      go_roundg (l.length - (k + 1))
      case measure => omega
      case rel => exact ⟨k + 1,y,by go_num,by go_num,by omega,by omega,Hyn,hS2⟩
    have tz : (kd != 0) = true := by simp [hz]
    have Hyn : Hid (y + 1 + nnS (l.drop (k + 1)) = NN) := Lib.hid (by have := Hy.out;rw [hcd,if_neg hz] at this;omega);clear hcells hat hrep hu hcd hkd Hy hz;go_wp2_with fail
    go_roundg (l.length - (k + 1))
    case measure => omega
    case rel => exact ⟨k + 1,y + 1,by go_num,by go_num,by omega,by omega,Hyn,hS2⟩
  have tk : ¬ k < l.length := hk;have he : l.drop k = [] := List.drop_eq_nil_of_le (by omega);have hfin : NN = y := by rw [← Hy.out,he,nnS];omega
  have Hfin := Lib.hid hfin;clear hfin he Hy;go_wp2_with fail;go_ret;exact ⟨by rw [Hfin.out];rfl,hS.below⟩
structure EN (w wr : World) (b b2 : Nat) (C O : Array Value) : Prop where
 box : Blk wr b 34 C
 out : Blk wr b2 34 O
 below : Below w.heap.size w wr
 hb : w.heap.size ≤ b
 e2 : b < b2
theorem EN.drew {w wr : World} {b b2 : Nat} {C O : Array Value} (h : EN w wr b b2 C O) : EN w wr.drew b b2 C O := ⟨h.box,h.out,⟨h.below.os,h.below.tape,h.below.output,h.below.size,h.below.block⟩,h.hb,h.e2⟩
theorem cdrew (W : World) (a : Addr) : W.drew.cell? a = W.cell? a := rfl
theorem far7 {W : World} {g b2 i : Nat} (h : ¬ g = b2) (c0 c1 c2 c3 c4 c5 c6 : Value) : (((((((W.setCell ⟨b2,0,none⟩ c0).setCell ⟨b2,1,none⟩ c1).setCell ⟨b2,2,none⟩ c2).setCell ⟨b2,3,none⟩ c3).setCell ⟨b2,4,none⟩ c4).setCell ⟨b2,5,none⟩ c5).setCell ⟨b2,6,none⟩ c6).cell? ⟨g,i,none⟩ = W.cell? ⟨g,i,none⟩ := by
 have h' : b2 ≠ g := fun e => h e.symm
 rw [World.cell?_setCell_far _ _ _ _ h',World.cell?_setCell_far _ _ _ _ h',World.cell?_setCell_far _ _ _ _ h',World.cell?_setCell_far _ _ _ _ h',World.cell?_setCell_far _ _ _ _ h',World.cell?_setCell_far _ _ _ _ h',World.cell?_setCell_far _ _ _ _ h']
theorem entry_in (a0 a1 a2 : Int) (a3 : Nat) (a4 : List UInt8) (bk ok kb g0 nl vb : Nat) (ks : List (List UInt8)) (p : Nat) (hp : p < ks.length) (hkk : ks.length = nl) (key : List UInt8) (hkey : key = ks[p]) (hpw : ks.Pairwise (· ≠ ·)) (w : World) (F : Nat → Prop) (u : SVal) (c' : List Value) (hbk : bk < w.heap.size)
 (hkc : ∀ j x,(ks.map S)[j]? = some x → w.cell? ⟨bk,ok + j,none⟩ = some x) (hg0 : g0 < w.heap.size) (hrep : VRep w F u c') (hcells : ∀ j,j < 7 → w.cell? ⟨g0,p * 7 + j,none⟩ = c'[j]?) (hnm : nl ≤ 9223372036854775807) :
 Calls Tryz.prog 37 #[.agg #[.int .i64 a0,.int .i64 a1,.int .i64 a2,.float .f64 a3,S a4,.slice (some ⟨bk,ok,none⟩) ks.length kb,.slice (some ⟨g0,0,none⟩) nl vb],S key] w fun e w' => e = .returned (.tuple #[.agg c'.toArray,.bool (kindS u != 0)]) ∧ Below w.heap.size w w' := by
 have Hcells := Lib.hid hcells;have Hrep := Lib.hid hrep;have Hkc := Lib.hid hkc;have Hpw := Lib.hid hpw;have Hkey := Lib.hid hkey;have Hkk := Lib.hid hkk;clear hcells hrep hkc hpw hkey hkk;obtain ⟨C,hC⟩ : ∃ C,C = (sv7 a0 a1 a2 a3 a4 (.slice (some ⟨bk,ok,none⟩) ks.length kb) (.slice (some ⟨g0,0,none⟩) nl vb)).toArray := ⟨_,rfl⟩;have HC := Lib.hid hC;clear hC;go_enter Tryz.func37,Tryz.ntmps37;go_wp2_with fail
 have hS0 : EN w ((w.alloc (.cells #[.int .i64 a0,.int .i64 a1,.int .i64 a2,.float .f64 a3,S a4,.slice (some ⟨bk,ok,none⟩) ks.length kb,.slice (some ⟨g0,0,none⟩) nl vb] 34)).alloc (.cells vZero 34)) w.heap.size (w.heap.size + 1) C vZero := by
  rw [HC.out];exact ⟨Blk.alloc (Blk.newAt _ 34 _ _ rfl) _,Blk.newAt _ 34 _ _ (by simp),((Below.refl _ w).alloc (Nat.le_refl _) _).alloc (by simp) _,Nat.le_refl _,by omega⟩
 obtain ⟨b2,hb2⟩ : ∃ b,b = w.heap.size + 1 := ⟨_,rfl⟩;rw [← hb2] at hS0 ⊢;obtain ⟨b,hb⟩ : ∃ b,b = w.heap.size := ⟨_,rfl⟩;rw [← hb] at hS0 ⊢;clear hb hb2
 go_loopg [11] (p + 1) (fun g j wr => ∃ (i : Nat),j = .int .i64 i ∧ i + g = p + 1 ∧ i ≤ p ∧ EN w wr b b2 C vZero)
 case atStart => exact ⟨0,rfl,by omega,by omega,hS0⟩
 case round =>
  clear hS0;obtain ⟨i,rfl,hg,hip,hS⟩ := hrel;have hi : i < ks.length := by omega
  have hi2 : i < nl := by have := Hkk.out;omega
  have hlt := hS.box.lt;have hck : wr.cell? ⟨bk,ok + i,none⟩ = some (S ks[i]) := (hS.below.cell (p := ⟨bk,ok + i,none⟩) hbk).trans (Hkc.out i _ (by simp [hi]))
  have hinj : ks[i] = key → i = p := by
   intro e;rw [Hkey.out] at e;have hpw := List.pairwise_iff_getElem.1 Hpw.out;rcases Nat.lt_trichotomy i p with h | h | h
   · exact absurd e (hpw i p hi hp h)
   · exact h
   omega
  have hinj2 : i = p → ks[i] = key := by intro e;subst e;exact Hkey.out.symm
  obtain ⟨kk,hkkk⟩ : ∃ kk,kk = ks[i] := ⟨_,rfl⟩;rw [← hkkk] at hck hinj hinj2;have Hinj := Lib.hid hinj;have Hinj2 := Lib.hid hinj2;clear hinj hinj2 hkkk;have f0 : wr.cell? ⟨b,0,none⟩ = some (.int .i64 a0) := by rw [hS.box.cell 0,HC.out];rfl
  have f5 : wr.cell? ⟨b,5,none⟩ = some (.slice (some ⟨bk,ok,none⟩) ks.length kb) := by rw [hS.box.cell 5,HC.out];rfl
  have f6 : wr.cell? ⟨b,6,none⟩ = some (.slice (some ⟨g0,0,none⟩) nl vb) := by rw [hS.box.cell 6,HC.out];rfl
  by_cases hke : kk = key
  · have tx : ((⟨kk.toArray⟩ : ByteArray) == ⟨key.toArray⟩) = true := by rw [str_beq,hke];simp
    have tx2 : (kk == key) = true := by simp [hke]
    have hip2 := Hinj.out hke;subst hip2;clear hke Hinj Hinj2;obtain ⟨kp',kb',vp',vb',hce,d0,d1,d2,d3,d4,d5,d6⟩ := row_cells hg0 hS.below Hrep.out Hcells.out;obtain ⟨n5,hn5⟩ : ∃ n,n = (keysS u).length := ⟨_,rfl⟩;obtain ⟨n6,hn6⟩ : ∃ n,n = (kidsS u).length := ⟨_,rfl⟩;obtain ⟨x0,hx0⟩ : ∃ a,a = kindS u := ⟨_,rfl⟩;obtain ⟨x1,hx1⟩ : ∃ a,a = numS u := ⟨_,rfl⟩;obtain ⟨x2,hx2⟩ : ∃ a,a = genS u := ⟨_,rfl⟩;obtain ⟨x3,hx3⟩ : ∃ a,a = realS u := ⟨_,rfl⟩;obtain ⟨x4,hx4⟩ : ∃ a,a = textS u := ⟨_,rfl⟩;rw [← hn5] at d5 hce;rw [← hn6] at d6 hce;rw [← hx0] at d0 hce;have Hx0 := Lib.hid hx0;rw [← hx1] at d1 hce;rw [← hx2] at d2 hce;rw [← hx3] at d3 hce;rw [← hx4] at d4 hce;have Hce := Lib.hid hce;clear hce hn5 hn6 hx0 hx1 hx2 hx3 hx4 f0;go_wp2_with fail;obtain ⟨z0,z1,z2,z3,z4,z5,z6⟩ := res_cells hS.out rfl;have y0 := hS.out.frozen 0;have y1 := hS.out.frozen 1;have y2 := hS.out.frozen 2;have y3 := hS.out.frozen 3;have y4 := hS.out.frozen 4;have y5 := hS.out.frozen 5;have y6 := hS.out.frozen 6;have nb1 : ¬ b2 = g0 := by have := hS.hb;have := hS.e2;omega
    have nb2 : ¬ g0 = b2 := fun e => nb1 e.symm
    have nb3 : ¬ b2 = b := by have := hS.e2;omega
    have nb4 : ¬ b = b2 := fun e => nb3 e.symm
    have f6' : wr.drew.cell? ⟨b,6,none⟩ = _ := f6;have d0' : wr.drew.cell? ⟨g0,i * 7,none⟩ = _ := d0;have d1' : wr.drew.cell? ⟨g0,i * 7 + 1,none⟩ = _ := d1;have d2' : wr.drew.cell? ⟨g0,i * 7 + 2,none⟩ = _ := d2;have d3' : wr.drew.cell? ⟨g0,i * 7 + 3,none⟩ = _ := d3;have d4' : wr.drew.cell? ⟨g0,i * 7 + 4,none⟩ = _ := d4;have d5' : wr.drew.cell? ⟨g0,i * 7 + 5,none⟩ = _ := d5;have d6' : wr.drew.cell? ⟨g0,i * 7 + 6,none⟩ = _ := d6
    go_region_held (fun w' => w'.cell? ⟨b,6,none⟩ = some (.slice (some ⟨g0,0,none⟩) nl vb) ∧ w'.cell? ⟨g0,i * 7,none⟩ = some (.int .i64 x0) ∧ w'.cell? ⟨g0,i * 7 + 1,none⟩ = some (.int .i64 x1) ∧ w'.cell? ⟨g0,i * 7 + 2,none⟩ = some (.int .i64 x2) ∧ w'.cell? ⟨g0,i * 7 + 3,none⟩ = some (.float .f64 x3) ∧ w'.cell? ⟨g0,i * 7 + 4,none⟩ = some (S x4) ∧ w'.cell? ⟨g0,i * 7 + 5,none⟩ = some (.slice kp' n5 kb') ∧ w'.cell? ⟨g0,i * 7 + 6,none⟩ = some (.slice vp' n6 vb')) (first | with_reducible exact ⟨f6',d0',d1',d2',d3',d4',d5',d6'⟩ | (simp only [cdrew,far7 nb4,far7 nb2];exact ⟨f6,d0,d1,d2,d3,d4,d5,d6⟩)) (fail)
    all_goals
     go_wp2_with fail;have hP := Blk.drew (Blk.put7 (show Blk wr b2 34 #[.int .i64 0,.int .i64 0,.int .i64 0,.float .f64 0,S [],.slice none 0 0,.slice none 0 0] from hS.out) (.int .i64 x0) (.int .i64 x1) (.int .i64 x2) (.float .f64 x3) (S x4) (.slice kp' n5 kb') (.slice vp' n6 vb'));refine bodyPost_ret (res_cell2 (v := .bool (x0 != 0)) Tryz.results37 hP (by simp) rfl) rfl ?_;have h8 := hS.hb;have h9 := hS.e2;refine ⟨by rw [Hce.out,← Hx0.out];rfl,?_⟩;exact (((((((hS.below.setCell (by simp only;omega) _).setCell (by simp only;omega) _).setCell (by simp only;omega) _).setCell (by simp only;omega) _).setCell (by simp only;omega) _).setCell (by simp only;omega) _).setCell (by simp only;omega) _).drew
  have tx : ((⟨kk.toArray⟩ : ByteArray) == ⟨key.toArray⟩) = false := by rw [str_beq];simp [hke]
  have tx2 : (kk == key) = false := by simp [hke]
  have hip2 : i ≠ p := fun e => hke (Hinj2.out e)
  clear hke Hinj Hinj2;go_wp2_with fail
  go_roundg (p - i)
  case measure => omega
  case rel => exact ⟨i + 1,by go_num,by omega,by omega,hS⟩
theorem entry_any (v : SVal) (c : List Value) (F : Nat → Prop) (w : World) (hR : VRep w F v c) (hkk : (keysS v).length = (kidsS v).length) (hpw : (keysS v).Pairwise (· ≠ ·)) (p : Nat) (hp : p < (keysS v).length) (hp2 : p < (kidsS v).length) :
 Calls Tryz.prog 37 #[.agg c.toArray,S (keysS v)[p]] w fun e w' => ∃ c' : List Value,e = .returned (.tuple #[.agg c'.toArray,.bool (kindS (kidsS v)[p] != 0)]) ∧ VRep w F (kidsS v)[p] c' ∧ Below w.heap.size w w' := by
 obtain ⟨k,kv,rfl,⟨kp,kb,rfl,hkb,hkrow⟩,vp,vb,rfl,hvb,hvm,hrow⟩ := hR.open_;obtain ⟨g0,rfl,_,hg0,hat⟩ := hrow (by omega);obtain ⟨c',hc7,hrep,hcells⟩ := hat p hp2;obtain ⟨bk,ok,rfl,_,hbk,hkc⟩ := hkrow (by omega);refine (entry_in (kindS v) (numS v) (genS v) (realS v) (textS v) bk ok kb g0 (kidsS v).length vb (keysS v) p hp hkk _ rfl hpw w F _ c' hbk hkc hg0 hrep hcells (by have := hvm;unfold maxLen at this;omega)).mono ?_;rintro e w' ⟨h1,h2⟩;exact ⟨c',h1,hrep,h2⟩
end Go.Proofs.YtcpijmbdibgdmaaGreatDoor
namespace Go.Proofs.YtcpijmbdibgdmaaGreatDoor
open Go.RowKit
attribute [local go_sem] ba_get store_flt
theorem vd_eq (pf : List UInt8 → Nat) (s : List UInt8) : ∀ m,VO pf s (fun m => DVal (VD pf s m) s) m = VD pf s m
 | 0 => rfl
 | m + 1 => by rw [VO,VD,vd_eq pf s m]
theorem vd_said (pf : List UInt8 → Nat) (W0 : World) (hpf : PFSaid pf W0) (s : List UInt8) (hs : s.length ≤ 268435456) (m : Nat) : ValSaid (VD pf s m) W0 s m := by
 have h := value_any pf W0 hpf s hs (fun m => DVal (VD pf s m) s) (fun m hV => by
  rw [vd_eq] at hV
  intro r d z w hb hk hp hm hd hr0 hW hR
  refine sdict_any (VD pf s m) W0 s m hV r d z w hb ?_ hm hs hd hr0 hW hR
  have := List.IsPrefix.length_le (List.isPrefixOf_iff_prefix.1 hp)
  rw [List.length_drop] at this
  simp at this
  omega) m
 rwa [vd_eq] at h
theorem res_cell3 {fn : Func} {i j k : Nat} (hr : fn.results = #[.cell i 34,.tmp j,.tmp k]) {w : World} {b : Nat} {q0 q1 q2 q3 q4 q5 q6 v u : Value} {tmps : Array Value} (hb : Blk w b 34 #[q0,q1,q2,q3,q4,q5,q6]) (ht : tmps.getD i undef = .pointer (some ⟨b,0,none⟩)) (hj : tmps.getD j undef = v) (hk : tmps.getD k undef = u) :
 (results fn tmps).run Tryz.prog w = .ok (.tuple #[.agg #[q0,q1,q2,q3,q4,q5,q6],v,u]) w := by
 have k0 : w.cell? ⟨b,0,none⟩ = some q0 := hb.cell 0;have k1 : w.cell? ⟨b,1,none⟩ = some q1 := hb.cell 1;have k2 : w.cell? ⟨b,2,none⟩ = some q2 := hb.cell 2;have k3 : w.cell? ⟨b,3,none⟩ = some q3 := hb.cell 3;have k4 : w.cell? ⟨b,4,none⟩ = some q4 := hb.cell 4;have k5 : w.cell? ⟨b,5,none⟩ = some q5 := hb.cell 5;have k6 : w.cell? ⟨b,6,none⟩ = some q6 := hb.cell 6;simp only [Array.getD_eq_getD_getElem?] at ht hj hk;simp [results,hr,ht,hj,hk,go_sem,k0,k1,k2,k3,k4,k5,k6]
theorem rep_drew {W : World} {F F' : Nat → Prop} {v : SVal} {cs : List Value} (h : VRep W F v cs) (hF : ∀ i,F i → F' i) : VRep W.drew F' v cs := VRep.mono (w := W) (w' := W.drew) (fun i hi hlt => ⟨rfl,hF i hi⟩) _ _ h
theorem rep_set {W : World} {b k : Nat} {v : SVal} {cs : List Value} (h : VRep W (fun i => b < i) v cs) (c : Value) : VRep (W.setCell ⟨b,k,none⟩ c) (fun i => b < i) v cs := VRep.mono (fun i hi hlt => ⟨Below.heap_setCell _ _ _ _ (by show i ≠ b;omega),hi⟩) _ _ h
theorem rep_far7 {W : World} {b B : Nat} {v : SVal} {cs : List Value} (hB : B ≤ b) (c0 c1 c2 c3 c4 c5 c6 : Value) (h : VRep W (fun i => b < i) v cs) : VRep (((((((W.setCell ⟨b,0,none⟩ c0).setCell ⟨b,1,none⟩ c1).setCell ⟨b,2,none⟩ c2).setCell ⟨b,3,none⟩ c3).setCell ⟨b,4,none⟩ c4).setCell ⟨b,5,none⟩ c5).setCell ⟨b,6,none⟩ c6).drew (fun i => B ≤ i) v cs := by
 have h0 := rep_set (k := 0) h c0;have h1 := rep_set (k := 1) h0 c1;have h2 := rep_set (k := 2) h1 c2;have h3 := rep_set (k := 3) h2 c3;have h4 := rep_set (k := 4) h3 c4;have h5 := rep_set (k := 5) h4 c5;have h6 := rep_set (k := 6) h5 c6;exact rep_drew h6 (fun i hi => by omega)
def ReadPost (v : SVal) (w : World) (e : Ending) (w' : World) : Prop :=
 ∃ (cs : Array Value) (k : Nat),e = .returned (.tuple #[.agg cs,.int .i64 k,.int .i64 0]) ∧ VRep w' (fun i => w.heap.size ≤ i) v cs.toList ∧ Below w.heap.size w w'
structure RdB (w wr : World) (r b b2 : Nat) (s : List UInt8) (k : Nat) (odd ends : Bool) (C : Array Value) : Prop where
 rd : Rd wr r s k 0 0 odd ends
 out : Blk wr b 34 vZero
 box : Blk wr b2 34 C
 below : Below w.heap.size w wr
 h1 : w.heap.size ≤ b
 h2 : b < r
 h3 : r < b2
theorem read_any {FF : Nat → List UInt8} (pf : List UInt8 → Nat) (W0 : World) (hpf : PFSaid pf W0) (hI : ItoaOk) (p : PObj) (l : List PObj) (hp : PGood FF p) (hl : LGood FF l) (hv : levP p ≤ 50) (s : List UInt8) (hse : s = printP FF p ++ 10 :: textsB FF l) (hs : s.length ≤ 268435456) (w : World) (hW : Below W0.heap.size W0 w) :
 Calls Tryz.prog 15 #[S s] w (ReadPost (valP (fun x => pf (FF x)) p) w) := by
 have hcall := vd_said pf W0 hpf s hs (s.length + 1);have hread : ∀ v z',VD pf s (s.length + 1) 0 ⟨0,0,false,false⟩ v z' → v = valP (fun x => pf (FF x)) p ∧ z'.bad = 0 := fun v z' h => read_top hI hp hl hv hse h
 obtain ⟨vv,hvv⟩ : ∃ v,v = valP (fun x => pf (FF x)) p := ⟨_,rfl⟩;rw [← hvv] at hread ⊢;have Hcall := Lib.hid hcall;have Hread := Lib.hid hread;have HW := Lib.hid hW;clear hcall hread hvv hse hp hl hv hpf hI hW;go_enter Tryz.func15,Tryz.ntmps15;go_wp2_with fail;have hR0 : Rd ((w.alloc (.cells vZero 34)).alloc (.cells #[S s,.int .i64 0,.int .i64 0,.int .i64 0,.bool false,.bool false] 54)) (w.heap.size + 1) s 0 0 0 false false := Blk.newAt _ 54 _ _ (by simp);have hb0 : Blk ((w.alloc (.cells vZero 34)).alloc (.cells #[S s,.int .i64 0,.int .i64 0,.int .i64 0,.bool false,.bool false] 54)) w.heap.size 34 vZero := Blk.alloc (Blk.newAt _ 34 _ _ rfl) _;have hB0 : Below w.heap.size w ((w.alloc (.cells vZero 34)).alloc (.cells #[S s,.int .i64 0,.int .i64 0,.int .i64 0,.bool false,.bool false] 54)) := ((Below.refl _ w).alloc (Nat.le_refl _) _).alloc (by simp) _;refine (Hcall.out (w.heap.size + 1) 0 ⟨0,0,false,false⟩ _ (by simp only;omega) (by simp only;omega) (by omega) (by have := HW.out.size;omega) (HW.out.trans (hB0.mono HW.out.size)) hR0).mono ?_;rintro e w2 ⟨v,cs,z',rfl,hV,hrep,_,hk',_,hR2,hO2⟩;obtain ⟨hve,hbad⟩ := Hread.out v z' hV;rw [hbad] at hR2;obtain ⟨kd,n,g,x,t,kp,ka,kb,vp,va,vb,rfl⟩ := hrep.shape;have hb2 : Blk w2 w.heap.size 34 vZero := Blk.grown hb0 hO2 (fun e => by injection e with e;omega);have hB2 : Below w.heap.size w w2 := hB0.grown hO2 hB0.size (fun k hk => by injection hk with hk;omega);have hrep2 := VRep.mono (F' := fun i => w.heap.size < i) (w' := w2) (fun i hi hlt => ⟨rfl,by have := hB0.size;simp at hi;omega⟩) _ _ hrep;have Hrep := Lib.hid hrep2;have Hve := Lib.hid hve;clear hrep hrep2 hb0 hB0 hR0 hO2 hV hbad hve;obtain ⟨c0,c1,c2,c3,c4,c5⟩ := hR2.cs;have l2 := Blk.lt hR2;go_wp2_with fail;refine wp_gen (fun wr => RdB w wr (w.heap.size + 1) w.heap.size w2.heap.size s z'.k z'.odd z'.ends #[.int .i64 kd,.int .i64 n,.int .i64 g,.float .f64 x,S t,.slice kp ka kb,.slice vp va vb] ∧ VRep wr (fun i => w.heap.size < i) v [.int .i64 kd,.int .i64 n,.int .i64 g,.float .f64 x,S t,.slice kp ka kb,.slice vp va vb]) ?_ ?_
 · have hl := Blk.lt hR2;exact ⟨⟨Blk.alloc hR2 _,hb2.alloc _,Blk.newAt _ 34 _ _ rfl,hB2.alloc hB2.size _,Nat.le_refl _,by omega,hl⟩,VRep.mono (fun i hi hlt => ⟨Below.heap_alloc w2 _ i hlt,hi⟩) _ _ Hrep.out⟩
 obtain ⟨q,hq⟩ : ∃ q,q = w2.heap.size := ⟨_,rfl⟩;obtain ⟨r,hr⟩ : ∃ q,q = w.heap.size + 1 := ⟨_,rfl⟩;rw [← hq,← hr];clear hb2 hB2 hR2 c0 c1 c2 c3 c4 c5 Hrep hq;obtain ⟨b,hb⟩ : ∃ q,q = w.heap.size := ⟨_,rfl⟩;have Hb1 := Lib.hid (show b = w.heap.size from hb);rw [← hb];clear hb hr;rintro wr ⟨hS,hrep⟩;have Hrep := Lib.hid hrep;clear hrep;obtain ⟨c0,c1,c2,c3,c4,c5⟩ := hS.rd.cs;have d0 : wr.cell? ⟨q,0,none⟩ = some (.int .i64 kd) := hS.box.cell 0;have d1 : wr.cell? ⟨q,1,none⟩ = some (.int .i64 n) := hS.box.cell 1;have d2 : wr.cell? ⟨q,2,none⟩ = some (.int .i64 g) := hS.box.cell 2;have d3 : wr.cell? ⟨q,3,none⟩ = some (.float .f64 x) := hS.box.cell 3;have d4 : wr.cell? ⟨q,4,none⟩ = some (S t) := hS.box.cell 4;have d5 : wr.cell? ⟨q,5,none⟩ = some (.slice kp ka kb) := hS.box.cell 5;have d6 : wr.cell? ⟨q,6,none⟩ = some (.slice vp va vb) := hS.box.cell 6;obtain ⟨z0,z1,z2,z3,z4,z5,z6⟩ := res_cells hS.out rfl;have y0 := hS.out.frozen 0;have y1 := hS.out.frozen 1;have y2 := hS.out.frozen 2;have y3 := hS.out.frozen 3;have y4 := hS.out.frozen 4;have y5 := hS.out.frozen 5;have y6 := hS.out.frozen 6;have nb1 : ¬ q = b := by have := hS.h2;have := hS.h3;omega
 have nb2 : ¬ r = b := by have := hS.h2;omega
 have c1' : wr.drew.cell? ⟨r,1,none⟩ = _ := c1;have d0' : wr.drew.cell? ⟨q,0,none⟩ = _ := d0;have d1' : wr.drew.cell? ⟨q,1,none⟩ = _ := d1;have d2' : wr.drew.cell? ⟨q,2,none⟩ = _ := d2;have d3' : wr.drew.cell? ⟨q,3,none⟩ = _ := d3;have d4' : wr.drew.cell? ⟨q,4,none⟩ = _ := d4;have d5' : wr.drew.cell? ⟨q,5,none⟩ = _ := d5;have d6' : wr.drew.cell? ⟨q,6,none⟩ = _ := d6
 go_region_held (fun w' => w'.cell? ⟨r,1,none⟩ = some (.int .i64 z'.k) ∧ w'.cell? ⟨q,0,none⟩ = some (.int .i64 kd) ∧ w'.cell? ⟨q,1,none⟩ = some (.int .i64 n) ∧ w'.cell? ⟨q,2,none⟩ = some (.int .i64 g) ∧ w'.cell? ⟨q,3,none⟩ = some (.float .f64 x) ∧ w'.cell? ⟨q,4,none⟩ = some (S t) ∧ w'.cell? ⟨q,5,none⟩ = some (.slice kp ka kb) ∧ w'.cell? ⟨q,6,none⟩ = some (.slice vp va vb)) (first | with_reducible exact ⟨c1',d0',d1',d2',d3',d4',d5',d6'⟩ | (simp only [cdrew,far7 nb1,far7 nb2];exact ⟨c1,d0,d1,d2,d3,d4,d5,d6⟩)) (fail)
 all_goals
  go_wp2_with fail;have hP := Blk.drew (Blk.put7 (show Blk wr b 34 #[.int .i64 0,.int .i64 0,.int .i64 0,.float .f64 0,S [],.slice none 0 0,.slice none 0 0] from hS.out) (.int .i64 kd) (.int .i64 n) (.int .i64 g) (.float .f64 x) (S t) (.slice kp ka kb) (.slice vp va vb));refine bodyPost_ret (res_cell3 (v := .int .i64 z'.k) (u := .int .i64 0) Tryz.results15 hP (by simp) rfl rfl) rfl ?_;have hB := ((((((hS.below.setCell (p := ⟨b,0,none⟩) hS.h1 (.int .i64 kd)).setCell (p := ⟨b,1,none⟩) hS.h1 (.int .i64 n)).setCell (p := ⟨b,2,none⟩) hS.h1 (.int .i64 g)).setCell (p := ⟨b,3,none⟩) hS.h1 (.float .f64 x)).setCell (p := ⟨b,4,none⟩) hS.h1 (S t)).setCell (p := ⟨b,5,none⟩) hS.h1 (.slice kp ka kb)).setCell (p := ⟨b,6,none⟩) hS.h1 (.slice vp va vb);refine ⟨_,z'.k,rfl,?_,hB.drew⟩;rw [← Hve.out];exact rep_far7 (by have := Hb1.out;omega) _ _ _ _ _ _ _ Hrep.out
end Go.Proofs.YtcpijmbdibgdmaaGreatDoor
namespace Go.Proofs.YtcpijmbdibgdmaaGreatDoor
open Go.RowKit
section
variable {FF : Nat → List UInt8} {tw : Nat → Bool}
mutual
theorem objM_num (hF : ∀ x,x < 18446744073709551616 → tw x = true → feE x ≤ 1069 ∧ (FF x).length ≤ 80) : ∀ (o : OObj) (p : PObj),OInt o → objM tw o = some p → PNum FF p ∧ szP p ≤ bulkO o
 | .mk kd n g x t ks l,p,hI,h => by
   unfold OInt at hI;obtain ⟨_,_,_,hx,hIl⟩ := hI;rw [bulkO];rw [objM] at h;by_cases h1 : onlyB kd n g x t ks.length l.length = false
   · rw [if_pos h1] at h;cases h
   rw [if_neg h1] at h;by_cases h0 : kd = 0
   · rw [if_pos h0] at h;injection h with h;subst h;exact ⟨by simp only [PNum],by rw [szP];omega⟩
   rw [if_neg h0] at h;by_cases h0 : kd = 1
   · rw [if_pos h0] at h;split at h
     · injection h with h;subst h;exact ⟨by simp only [PNum],by rw [szP];omega⟩
     split at h
     · injection h with h;subst h;exact ⟨by simp only [PNum],by rw [szP];omega⟩
     cases h
   rw [if_neg h0] at h;by_cases h0 : kd = 2
   · rw [if_pos h0] at h;split at h
     · rename_i hr;injection h with h;subst h;exact ⟨by rw [PNum];omega,by rw [szP];omega⟩
     cases h
   rw [if_neg h0] at h;by_cases h0 : kd = 3
   · rw [if_pos h0] at h;split at h
     · rename_i hr;injection h with h;subst h;obtain ⟨a,b⟩ := hF x hx hr;exact ⟨by rw [PNum];exact ⟨hx,a,b⟩,by rw [szP];omega⟩
     cases h
   rw [if_neg h0] at h;by_cases h0 : kd = 4
   · rw [if_pos h0] at h;split at h
     · injection h with h;subst h;exact ⟨by simp only [PNum],by rw [szP];omega⟩
     cases h
   rw [if_neg h0] at h;by_cases h0 : kd = 5
   · rw [if_pos h0] at h;split at h
     · injection h with h;subst h;exact ⟨by simp only [PNum],by rw [szP];omega⟩
     cases h
   rw [if_neg h0] at h;by_cases h0 : kd = 6
   · rw [if_pos h0] at h;split at h
     · injection h with h;subst h;exact ⟨by simp only [PNum],by rw [szP];omega⟩
     cases h
   rw [if_neg h0] at h;by_cases h0 : kd = 9
   · rw [if_pos h0] at h;split at h
     · rename_i hr;injection h with h;subst h;exact ⟨by rw [PNum];omega,by rw [szP];omega⟩
     cases h
   rw [if_neg h0] at h;by_cases h0 : kd = 7
   · rw [if_pos h0] at h
     cases hl : objL tw l with
     | none => rw [hl] at h;cases h
     | some q =>
       rw [hl] at h;injection h with h;subst h;obtain ⟨a,b⟩ := objL_num hF l q hIl hl;exact ⟨by rw [PNum];exact a,by rw [szP];omega⟩
   rw [if_neg h0] at h;by_cases h0 : kd = 8
   · rw [if_pos h0] at h;split at h
     · rename_i hr
       cases hl : objL tw l with
       | none => rw [hl] at h;cases h
       | some q =>
         rw [hl] at h;injection h with h;subst h;obtain ⟨a,b⟩ := objL_num hF l q hIl hl;have hk := hr.2;unfold keysOk at hk;rw [Bool.and_eq_true,Bool.and_eq_true] at hk;exact ⟨by rw [PNum];exact ⟨by rw [hr.1,objL_len hl],hk.2,a⟩,by rw [szP];omega⟩
     cases h
   rw [if_neg h0] at h;cases h
theorem objL_num (hF : ∀ x,x < 18446744073709551616 → tw x = true → feE x ≤ 1069 ∧ (FF x).length ≤ 80) : ∀ (l : List OObj) (q : List PObj),OIntL l → objL tw l = some q → LNum FF q ∧ szL q ≤ bulkL l
 | [],q,_,h => by rw [objL] at h;injection h with h;subst h;exact ⟨by rw [LNum];trivial,by rw [szL];omega⟩
 | o :: l,q,hI,h => by
   unfold OIntL at hI;rw [objL] at h
   cases ho : objM tw o with
   | none => rw [ho] at h;cases h
   | some p =>
     rw [ho] at h
     cases hl : objL tw l with
     | none => rw [hl] at h;cases h
     | some q' =>
       rw [hl] at h;injection h with h;subst h;obtain ⟨a,b⟩ := objM_num hF o p hI.1 ho;obtain ⟨c,d⟩ := objL_num hF l q' hI.2 hl;exact ⟨by rw [LNum];exact ⟨a,c⟩,by rw [szL,bulkL];omega⟩
end
end
theorem twB_num (hi lo : Nat → Nat) (pf : List UInt8 → Nat) : ∀ x,x < 18446744073709551616 → twB hi lo pf x = true → feE x ≤ 1069 ∧ (ffB hi lo x).length ≤ 80 := by
 intro x hx h;unfold twB at h;rw [Bool.and_eq_true] at h;have h1 := (in14_bound hx h.1).1;have h2 := (real_len (ffB_shape hi lo hx h.1)).1;exact ⟨h1,by omega⟩
end Go.Proofs.YtcpijmbdibgdmaaGreatDoor
