/-
  spec.reader.dict.
-/
import Derived.Test.YtcpijmbdibgdmaaGreatDoorMs18
import Derived.Test.YtcpijmbdibgdmaaGreatDoorMs15
import Derived.Deep.CutRange
set_option linter.all false
set_option maxHeartbeats 16000000
set_option maxRecDepth 100000
namespace Go.Proofs.YtcpijmbdibgdmaaGreatDoor
open Go.RowKit
attribute [local go_sem] ba_get store_flt
theorem Tryz.info9d : (Tryz.prog.info? 9).map (fun i => (i.zero,i.size,i.bytes)) = some (some (.string ⟨#[]⟩),1,16) := by kernel_rfl
def vDic (k v : Value) : Array Value := #[.int .i64 7,.int .i64 0,.int .i64 0,.float .f64 0,S [],k,v]
theorem dic_cells {w : World} {g : Nat} {k v : Value} (h : Blk w g 34 (vDic k v)) :
 w.cell? ⟨g,0,none⟩ = some (.int .i64 7) ∧ w.cell? ⟨g,1,none⟩ = some (.int .i64 0) ∧ w.cell? ⟨g,2,none⟩ = some (.int .i64 0) ∧ w.cell? ⟨g,3,none⟩ = some (.float .f64 0) ∧
 w.cell? ⟨g,4,none⟩ = some (S []) ∧ w.cell? ⟨g,5,none⟩ = some k ∧ w.cell? ⟨g,6,none⟩ = some v := ⟨h.cell 0,h.cell 1,h.cell 2,h.cell 3,h.cell 4,h.cell 5,h.cell 6⟩
structure DR (w wr : World) (r b2 b3 : Nat) (s : List UInt8) (d : Nat) (kc lc : Value) (ks : List (List UInt8)) (kv : Value) (l : List SVal) (lv : Value) (xs : List Value) (y : Z) (F : List (Nat × Obj)) (U : Option (SVal × List Value)) : Prop where
 hz : Blk wr b2 34 vZero
 ha : Blk wr b3 34 (vDic kc lc)
 ownk : wr.ownsRow (b3 + 1) 9 1 kv ks.length (ks.map S)
 own : wr.ownsRow (b3 + 1) 34 7 lv l.length xs
 ne : ∀ g,kv.ownBlock = some g → lv.ownBlock ≠ some g
 kids : KRep wr (fun i => b3 < i ∧ lv.ownBlock ≠ some i ∧ kv.ownBlock ≠ some i) l xs
 fix : ∀ q ∈ F,wr.heap[q.1]? = some q.2 ∧ b3 < q.1 ∧ lv.ownBlock ≠ some q.1 ∧ kv.ownBlock ≠ some q.1
 val : ∀ u cs,U = some (u,cs) → VRep wr (fun i => b3 < i ∧ lv.ownBlock ≠ some i ∧ kv.ownBlock ≠ some i) u cs
 rd : Rd wr r s y.k y.bad d y.odd y.ends
 oo : Only w wr r
 h0 : w.heap.size ≤ b2
 h1 : b2 < b3
 hr : r < w.heap.size
section
variable {w wr w' w2 : World} {r b2 b3 : Nat} {s : List UInt8} {d : Nat} {kc lc : Value} {ks : List (List UInt8)} {kv : Value} {l : List SVal} {lv : Value} {xs : List Value} {y y' : Z} {F : List (Nat × Obj)} {U : Option (SVal × List Value)}
theorem DR.own_ge (h : DR w wr r b2 b3 s d kc lc ks kv l lv xs y F U) : ∀ g,lv.ownBlock = some g → b3 < g ∧ g < wr.heap.size := fun g hg => by
 have := World.ownsRow.lt h.own g hg;omega
theorem DR.ownk_ge (h : DR w wr r b2 b3 s d kc lc ks kv l lv xs y F U) : ∀ g,kv.ownBlock = some g → b3 < g ∧ g < wr.heap.size := fun g hg => by
 have := World.ownsRow.lt h.ownk g hg;omega
theorem DR.fix_lt (h : DR w wr r b2 b3 s d kc lc ks kv l lv xs y F U) {q : Nat × Obj} (hq : q ∈ F) : q.1 < wr.heap.size := by
 have := (h.fix q hq).1;rcases Nat.lt_or_ge q.1 wr.heap.size with h | h
 · exact h
 rw [Array.getElem?_eq_none h] at this;cases this
theorem DR.c5 (h : DR w wr r b2 b3 s d kc lc ks kv l lv xs y F U) : wr.cell? ⟨b3,5,none⟩ = some kc := h.ha.cell 5
theorem DR.c6 (h : DR w wr r b2 b3 s d kc lc ks kv l lv xs y F U) : wr.cell? ⟨b3,6,none⟩ = some lc := h.ha.cell 6
theorem DR.step (h : DR w wr r b2 b3 s d kc lc ks kv l lv xs y F U) (hO : Only wr w' r) (hR : Rd w' r s y'.k y'.bad d y'.odd y'.ends) : DR w w' r b2 b3 s d kc lc ks kv l lv xs y' F U := by
 have h0 := h.h0;have h1 := h.h1;have hr := h.hr;have hog := h.own_ge;have hkg := h.ownk_ge;have hk : ∀ i,b3 < i → i < wr.heap.size → w'.heap[i]? = wr.heap[i]? := fun i hi hlt => hO.block i hlt (fun e => by injection e with e;omega)
 refine ⟨Blk.grown h.hz hO (fun e => by injection e with e;omega),Blk.grown h.ha hO (fun e => by injection e with e;omega),ownsRow_keepB h.ownk (fun g hg => hk g (hkg g hg).1 (hkg g hg).2),ownsRow_keepB h.own (fun g hg => hk g (hog g hg).1 (hog g hg).2),h.ne,?_,?_,?_,hR,only_trans h.oo hO,h0,h1,hr⟩
 · exact KRep.mono (fun i hi hlt => ⟨hk i hi.1 hlt,hi⟩) l xs h.kids
 · exact fun q hq => ⟨(hk q.1 (h.fix q hq).2.1 (h.fix_lt hq)).trans (h.fix q hq).1,(h.fix q hq).2⟩
 exact fun u cs hu => VRep.mono (fun i hi hlt => ⟨hk i hi.1 hlt,hi⟩) u cs (h.val u cs hu)
theorem DR.drewN (h : DR w wr r b2 b3 s d kc lc ks kv l lv xs y F U) (n : Nat) : DR w (wr.drewN n) r b2 b3 s d kc lc ks kv l lv xs y F U := h.step (only_drewN (only_refl _ _) n) h.rd
theorem DR.drew (h : DR w wr r b2 b3 s d kc lc ks kv l lv xs y F U) : DR w wr.drew r b2 b3 s d kc lc ks kv l lv xs y F U := h.step (only_drew (only_refl _ _)) h.rd
theorem DR.alloc (h : DR w wr r b2 b3 s d kc lc ks kv l lv xs y F U) (o : Obj) : DR w (wr.alloc o) r b2 b3 s d kc lc ks kv l lv xs y ((wr.heap.size,o) :: F) U := by
 have hs := h.step (only_alloc (only_refl _ _) o) (Blk.alloc h.rd o);refine ⟨hs.hz,hs.ha,hs.ownk,hs.own,hs.ne,hs.kids,fun q hq => ?_,hs.val,hs.rd,hs.oo,hs.h0,hs.h1,hs.hr⟩;rcases List.mem_cons.1 hq with rfl | hq
 · have := h.ha.lt;exact ⟨heap_alloc_new _ _,this,fun e => by have := h.own_ge _ e;omega,fun e => by have := h.ownk_ge _ e;omega⟩
 exact hs.fix q hq
theorem DR.call (h : DR w wr r b2 b3 s d kc lc ks kv l lv xs y F none) (hO : Only wr w' r) (hR : Rd w' r s y'.k y'.bad d y'.odd y'.ends) {u : SVal} {cs : List Value} (hv : VRep w' (fun i => wr.heap.size ≤ i) u cs) : DR w w' r b2 b3 s d kc lc ks kv l lv xs y' F (some (u,cs)) := by
 have hs := h.step hO hR;refine ⟨hs.hz,hs.ha,hs.ownk,hs.own,hs.ne,hs.kids,hs.fix,fun u' cs' hu => ?_,hs.rd,hs.oo,hs.h0,hs.h1,hs.hr⟩;injection hu with hu;injection hu with h1 h2;subst h1 h2;have := h.ha.lt;exact VRep.mono (fun i hi hlt => ⟨rfl,by omega,fun e => by have := h.own_ge _ e;omega,fun e => by have := h.ownk_ge _ e;omega⟩) _ _ hv
theorem DR.appk (h : DR w wr r b2 b3 s d kc lc ks kv l lv xs y F U) {key : List UInt8} {g cap : Nat} (happ : w2.ownsRow (b3 + 1) 9 1 (.slice (some ⟨g,0,none⟩) (ks.length + 1) cap) (ks.length + 1) (ks.map S ++ [S key])) (hgr : wr.grownBy w2 kv.ownBlock) (hat : kv.ownBlock = some g ∨ g = wr.heap.size) :
 DR w w2 r b2 b3 s d kc lc (ks ++ [key]) (.slice (some ⟨g,0,none⟩) (ks.length + 1) cap) l lv xs y F U := by
 have h0 := h.h0;have h1 := h.h1;have hr := h.hr;have hog := h.own_ge;have hkg := h.ownk_ge;have hb3 := h.ha.lt;have keep : ∀ i,i < wr.heap.size → kv.ownBlock ≠ some i → w2.heap[i]? = wr.heap[i]? := fun i hi hv => hgr.block i hi (fun e => hv e.symm)
 have hne : ∀ i,i < wr.heap.size → kv.ownBlock ≠ some i → (Value.slice (some ⟨g,0,none⟩) (ks.length + 1) cap).ownBlock ≠ some i := fun i hi hn e => by
  injection e with e;simp only at e;rcases hat with hat | hat
  · exact hn (by rw [hat,e])
  omega
 have hlk : ∀ i,lv.ownBlock = some i → kv.ownBlock ≠ some i := fun i hi e => h.ne i e hi
 refine ⟨(keep b2 (by omega) (fun e => by have := hkg _ e;omega)).trans h.hz,(keep b3 hb3 (fun e => by have := hkg _ e;omega)).trans h.ha,by simpa using happ,ownsRow_keepB h.own (fun i hi => keep i (hog i hi).2 (hlk i hi)),fun i hi e => ?_,?_,?_,?_,(keep r (by omega) (fun e => by have := hkg _ e;omega)).trans h.rd,only_grown h.oo hgr (fun q e => by have := hkg _ e;omega),h0,h1,hr⟩
 · exact hne i (hog i e).2 (hlk i e) hi
 · exact KRep.mono (fun i hi hlt => ⟨keep i hlt hi.2.2,hi.1,hi.2.1,hne i hlt hi.2.2⟩) l xs h.kids
 · exact fun q hq => ⟨(keep q.1 (h.fix_lt hq) (h.fix q hq).2.2.2).trans (h.fix q hq).1,(h.fix q hq).2.1,(h.fix q hq).2.2.1,hne q.1 (h.fix_lt hq) (h.fix q hq).2.2.2⟩
 · exact fun u cs hu => VRep.mono (fun i hi hlt => ⟨keep i hlt hi.2.2,hi.1,hi.2.1,hne i hlt hi.2.2⟩) u cs (h.val u cs hu)
theorem DR.appl {u : SVal} {cs : List Value} (h : DR w wr r b2 b3 s d kc lc ks kv l lv xs y F (some (u,cs))) {g cap : Nat} (happ : w2.ownsRow (b3 + 1) 34 7 (.slice (some ⟨g,0,none⟩) (l.length + 1) cap) (l.length + 1) (xs ++ cs)) (hgr : wr.grownBy w2 lv.ownBlock) (hat : lv.ownBlock = some g ∨ g = wr.heap.size) :
 DR w w2 r b2 b3 s d kc lc ks kv (l ++ [u]) (.slice (some ⟨g,0,none⟩) (l.length + 1) cap) (xs ++ cs) y F none := by
 have h0 := h.h0;have h1 := h.h1;have hr := h.hr;have hog := h.own_ge;have hkg := h.ownk_ge;have hb3 := h.ha.lt;have keep : ∀ i,i < wr.heap.size → lv.ownBlock ≠ some i → w2.heap[i]? = wr.heap[i]? := fun i hi hv => hgr.block i hi (fun e => hv e.symm)
 have hne : ∀ i,i < wr.heap.size → lv.ownBlock ≠ some i → (Value.slice (some ⟨g,0,none⟩) (l.length + 1) cap).ownBlock ≠ some i := fun i hi hn e => by
  injection e with e;simp only at e;rcases hat with hat | hat
  · exact hn (by rw [hat,e])
  omega
 refine ⟨(keep b2 (by omega) (fun e => by have := hog _ e;omega)).trans h.hz,(keep b3 hb3 (fun e => by have := hog _ e;omega)).trans h.ha,ownsRow_keepB h.ownk (fun i hi => keep i (hkg i hi).2 (h.ne i hi)),by simpa using happ,fun i hi => hne i (hkg i hi).2 (h.ne i hi),?_,?_,(fun u' cs' hu => by cases hu),(keep r (by omega) (fun e => by have := hog _ e;omega)).trans h.rd,only_grown h.oo hgr (fun q e => by have := hog _ e;omega),h0,h1,hr⟩
 · refine KRep.snoc ?_ l xs ?_
   · exact VRep.mono (fun i hi hlt => ⟨keep i hlt hi.2.1,hi.1,hne i hlt hi.2.1,hi.2.2⟩) u cs (h.val u cs rfl)
   exact KRep.mono (fun i hi hlt => ⟨keep i hlt hi.2.1,hi.1,hne i hlt hi.2.1,hi.2.2⟩) l xs h.kids
 · exact fun q hq => ⟨(keep q.1 (h.fix_lt hq) (h.fix q hq).2.2.1).trans (h.fix q hq).1,(h.fix q hq).2.1,hne q.1 (h.fix_lt hq) (h.fix q hq).2.2.1,(h.fix q hq).2.2.2⟩
theorem DR.put (h : DR w wr r b2 b3 s d kc lc ks kv l lv xs y F U) : DR w ((wr.setCell ⟨b3,5,none⟩ kv).setCell ⟨b3,6,none⟩ lv) r b2 b3 s d kv lv ks kv l lv xs y [] none := by
 have h0 := h.h0;have h1 := h.h1;have hr := h.hr;have hog := h.own_ge;have hkg := h.ownk_ge;have hb3 := h.ha.lt;have far : ∀ i,i ≠ b3 → ((wr.setCell ⟨b3,5,none⟩ kv).setCell ⟨b3,6,none⟩ lv).heap[i]? = wr.heap[i]? := fun i hi => (Below.heap_setCell _ _ _ _ hi).trans (Below.heap_setCell _ _ _ _ hi)
 refine ⟨(far b2 (by omega)).trans h.hz,?_,ownsRow_keepB h.ownk (fun i hi => far i (by have := hkg i hi;omega)),ownsRow_keepB h.own (fun i hi => far i (by have := hog i hi;omega)),h.ne,KRep.mono (fun i hi _ => ⟨far i (by omega),hi⟩) l xs h.kids,(fun q hq => by cases hq),(fun u cs hu => by cases hu),(far r (by omega)).trans h.rd,only_setCell (only_setCell h.oo (.inr (by simp only;omega)) _) (.inr (by simp only;omega)) _,h0,h1,hr⟩;have h5 := Blk.set_ (Blk.set_ h.ha 5 kv) 6 lv;exact h5
theorem DR.box (h : DR w wr r b2 b3 s d kc lc ks kv l lv xs y F U) {B : Nat} {cs : Array Value} {t : TypeId} (hF : (B,Obj.cells cs t (0,0)) ∈ F) : ∀ j u,cs.toList[j]? = some u → wr.cell? ((⟨B,0,none⟩ : Addr).add j) = some u := World.news_of_block (h.fix _ hF).1
theorem DR.done (h : DR w wr r b2 b3 s d kc lc ks kv l lv xs y F U) (hO : Only wr w' b2) : VRep w' (fun i => w.heap.size ≤ i) (.dict ks l) (vDic kv lv).toList ∧ Rd w' r s y.k y.bad d y.odd y.ends ∧ Only w w' r := by
 have h0 := h.h0;have h1 := h.h1;have hr := h.hr;have hog := h.own_ge;have hkg := h.ownk_ge;have hk : ∀ i,b3 < i → i < wr.heap.size → w'.heap[i]? = wr.heap[i]? := fun i hi hlt => hO.block i hlt (fun e => by injection e with e;omega)
 refine ⟨?_,Blk.grown h.rd hO (fun e => by injection e with e;omega),only_grown h.oo hO (fun q e => by injection e with e;omega)⟩;unfold VRep;refine ⟨kv,lv,xs,rfl,?_,ownsRow_base (ownsRow_keepB h.own (fun g hg => hk g (hog g hg).1 (hog g hg).2)),fun g hg => by have := hog g hg;omega,KRep.mono (fun i hi hlt => ⟨hk i hi.1 hlt,by omega⟩) l xs h.kids⟩;have hkr := ownsRow_keepB h.ownk (fun g hg => hk g (hkg g hg).1 (hkg g hg).2);have hkr2 := hkr;obtain ⟨hlen,hx⟩ := hkr;rcases hx with ⟨rfl,hn⟩ | ⟨g,cap,cur,rfl,hbg,hg,hn,hc,hs,ht⟩
 · exact ⟨none,0,by rw [hn],by omega,fun h => by omega⟩
 refine ⟨_,cap,rfl,hn,fun _ => ⟨g,0,rfl,by have := hkg g rfl;omega,(World.ownsRow.lt hkr2 g rfl).2,fun j u hu => ?_⟩⟩;have hj : j < ks.length := by have := (List.getElem?_eq_some_iff.1 hu).1;simpa using this
 rw [Nat.zero_add,World.ownsRow.cellAt hkr2 j (by omega)];exact hu
end
theorem DR.put2 {w wr : World} {r b2 b3 : Nat} {s : List UInt8} {d : Nat} {kc lc : Value} {ks : List (List UInt8)} {kv : Value} {l : List SVal} {lv : Value} {xs : List Value} {y : Z} {F : List (Nat × Obj)} {U : Option (SVal × List Value)} (h : DR w wr r b2 b3 s d kc lc ks kv l lv xs y F U) : DR w ((wr.setCell ⟨b3,6,none⟩ lv).setCell ⟨b3,5,none⟩ kv) r b2 b3 s d kv lv ks kv l lv xs y [] none := by
 have h0 := h.h0;have h1 := h.h1;have hr := h.hr;have hog := h.own_ge;have hkg := h.ownk_ge;have hb3 := h.ha.lt;have far : ∀ i,i ≠ b3 → ((wr.setCell ⟨b3,6,none⟩ lv).setCell ⟨b3,5,none⟩ kv).heap[i]? = wr.heap[i]? := fun i hi => (Below.heap_setCell _ _ _ _ hi).trans (Below.heap_setCell _ _ _ _ hi)
 refine ⟨(far b2 (by omega)).trans h.hz,?_,ownsRow_keepB h.ownk (fun i hi => far i (by have := hkg i hi;omega)),ownsRow_keepB h.own (fun i hi => far i (by have := hog i hi;omega)),h.ne,KRep.mono (fun i hi _ => ⟨far i (by omega),hi⟩) l xs h.kids,(fun q hq => by cases hq),(fun u cs hu => by cases hu),(far r (by omega)).trans h.rd,only_setCell (only_setCell h.oo (.inr (by simp only;omega)) _) (.inr (by simp only;omega)) _,h0,h1,hr⟩;have h5 := Blk.set_ (Blk.set_ h.ha 6 lv) 5 kv;exact h5
theorem nbM_len : ∀ (n : Nat) (l x : List UInt8),l.length ≤ n → nbM l = some x → x.length ≤ l.length
 | _,[],x,_,h => by rw [nbM] at h;injection h with h;subst h;simp
 | 0,b :: l,x,hn,_ => by simp at hn
 | n + 1,b :: l,x,hn,h => by
   rw [nbM_cons] at h;simp only [List.length_cons] at hn;split at h
   · obtain ⟨t,ht,rfl⟩ := Option.map_eq_some_iff.1 h;have := nbM_len n l t (by omega) ht;simp only [List.length_cons];omega
   split at h
   · split at h
     · cases h
     rename_i a c l' _;obtain ⟨t,ht,rfl⟩ := Option.map_eq_some_iff.1 h;simp only [List.length_cons] at hn;have := nbM_len n l' t (by omega) ht;simp only [List.length_cons];omega
   cases h
theorem nameAt_len (s : List UInt8) (k : Nat) (o : Bool) : ((nameAt s k o).1.getD []).length ≤ s.length := by
 unfold nameAt;simp only
 cases h : nbM ((s.drop (k + 1)).take (wordR (s.drop (k + 1)) o).1) with
 | none => simp
 | some x =>
   have := nbM_len _ _ x (Nat.le_refl _) h;rw [List.length_take,List.length_drop] at this;simp only [Option.getD_some];omega
theorem stepK {w W : World} {r b2 b3 : Nat} {s : List UInt8} {d : Nat} {kc lc : Value} {ks : List (List UInt8)} {kv : Value} {l : List SVal} {lv : Value} {xs : List Value} {y : Z} {F : List (Nat × Obj)} {U : Option (SVal × List Value)} {key : List UInt8} {B : Nat} {ops : Array Oper} {o : Oper} {a : Act} {K : Act → World → Prop} {Q : Exit → Act → World → Prop} {E : Prop}
 (hS : DR w W r b2 b3 s d kc lc ks kv l lv xs y F U) (hF : (B,Obj.cells #[S key] 9 (0,0)) ∈ F) (hgd : o.guard = none) (ho : o.op = .call { callee := .builtin .append,args := #[.tmp 76,.tmp 78],argTypes := #[25,25] }) (hs : a.eval (.tmp 76) = kv) (hx : a.eval (.tmp 78) = .slice (some ⟨B,0,none⟩) 1 1) (hn : ks.length ≤ 300000000)
 (h : ∀ g cap w',DR w w' r b2 b3 s d kc lc (ks ++ [key]) (.slice (some ⟨g,0,none⟩) (ks.length + 1) cap) l lv xs y F U → K (a.put o.dst (.slice (some ⟨g,0,none⟩) (ks.length + 1) cap)) w') :
 if Region.wanted o (yielded ops a.tmps) = true then Oper.wp Tryz.prog o a W K Q else E := by
 obtain ⟨j0,hj,hj0,hj1,hj2⟩ := info_parts Tryz.info9d;have hb3 := hS.ha.lt;refine step_append_lies W hgd (.tmp 76) (.tmp 78) 25 ho (b3 + 1) 9 j0 (.string ⟨#[]⟩) 1 16 Tryz.underlying25 hj hj0 hj1 hj2 rfl (by decide) kv ks.length (ks.map S) hs hS.ownk ⟨B,0,none⟩ 1 1 [S key] hx rfl (hS.box hF) (fun u hu => by rw [List.mem_singleton] at hu;rw [hu];rfl) (by decide) (by unfold maxLen;omega) (by omega) (by omega) _ rfl ?_;intro g cap w' h1 h2 h3 _;exact h g cap w' (hS.appk h1 h2 h3)
theorem stepL {w W : World} {r b2 b3 : Nat} {s : List UInt8} {d : Nat} {kc lc : Value} {ks : List (List UInt8)} {kv : Value} {l : List SVal} {lv : Value} {xs : List Value} {y : Z} {F : List (Nat × Obj)} {u : SVal} {q0 q1 q2 q3 q4 q5 q6 : Value} {B : Nat} {ops : Array Oper} {o : Oper} {a : Act} {K : Act → World → Prop} {Q : Exit → Act → World → Prop} {E : Prop}
 (hS : DR w W r b2 b3 s d kc lc ks kv l lv xs y F (some (u,[q0,q1,q2,q3,q4,q5,q6]))) (hF : (B,Obj.cells #[q0,q1,q2,q3,q4,q5,q6] 34 (0,0)) ∈ F) (hgd : o.guard = none) (ho : o.op = .call { callee := .builtin .append,args := #[.tmp 81,.tmp 84],argTypes := #[32,32] }) (hs : a.eval (.tmp 81) = lv) (hx : a.eval (.tmp 84) = .slice (some ⟨B,0,none⟩) 1 1) (hn : l.length ≤ 300000000)
 (hone : ∀ x ∈ [q0,q1,q2,q3,q4,q5,q6],x.oneCell' = true)
 (h : ∀ g cap w',DR w w' r b2 b3 s d kc lc ks kv (l ++ [u]) (.slice (some ⟨g,0,none⟩) (l.length + 1) cap) (xs ++ [q0,q1,q2,q3,q4,q5,q6]) y F none → K (a.put o.dst (.slice (some ⟨g,0,none⟩) (l.length + 1) cap)) w') :
 if Region.wanted o (yielded ops a.tmps) = true then Oper.wp Tryz.prog o a W K Q else E := by
 obtain ⟨i0,hi,hi0,hi1,hi2⟩ := info_parts Tryz.info34;have hb3 := hS.ha.lt;refine step_append_lies W hgd (.tmp 81) (.tmp 84) 32 ho (b3 + 1) 34 i0 (.agg vZero) 7 96 Tryz.underlying32 hi hi0 hi1 hi2 rfl (by decide) lv l.length xs hs hS.own ⟨B,0,none⟩ 1 1 [q0,q1,q2,q3,q4,q5,q6] hx rfl (hS.box hF) hone (by decide) (by unfold maxLen;omega) (by omega) (by omega) _ rfl ?_;intro g cap w' h1 h2 h3 _;exact h g cap w' (hS.appl h1 h2 h3)
theorem sdict_any (V : VRel) (W0 : World) (s : List UInt8) (m : Nat) (hV : ValSaid V W0 s m) (r d : Nat) (z : Z) (w : World) (hzb : z.bad = 0) (hk : z.k + 2 ≤ s.length) (hm : s.length - z.k ≤ m) (hs : s.length ≤ 268435456) (hd : d ≤ 60)
 (hr0 : W0.heap.size ≤ r) (hW : Below W0.heap.size W0 w) (hR0 : Rd w r s z.k z.bad d z.odd z.ends) : Calls Tryz.prog 44 #[.pointer (some ⟨r,0,none⟩)] w (ValPost (DVal V s) s d z w r) := by
 have hrB : r < w.heap.size := Blk.lt hR0;have HW := Lib.hid hW;have HV := Lib.hid hV;clear hW hV;obtain ⟨c0,c1,c2,c3,c4,c5⟩ := hR0.cs;obtain ⟨f1,f2,f3,f4,f5⟩ := hR0.fs;obtain ⟨i0,hi,hi0,hi1,hi2⟩ := info_parts Tryz.info34;obtain ⟨j0,hj,hj0,hj1,hj2⟩ := info_parts Tryz.info9d;go_enter Tryz.func44,Tryz.ntmps44;go_wp2_with fail;refine wp_gen (fun wr => DR w wr r w.heap.size (w.heap.size + 1) s d (.slice none 0 0) (.slice none 0 0) [] (.slice none 0 0) [] (.slice none 0 0) [] ⟨z.k + 2,z.bad,z.odd,z.ends⟩ [] none) ?_ ?_
 · refine ⟨?_,?_,?_,?_,?_,?_,(fun q hq => by cases hq),(fun u cs hu => by cases hu),?_,?_,Nat.le_refl _,by omega,hrB⟩
   · exact Blk.alloc (Blk.newAt _ 34 vZero _ (by simp)) _
   · exact Blk.newAt _ 34 (vDic (.slice none 0 0) (.slice none 0 0)) _ (by simp)
   · exact World.ownsRow_nil _ _ _ _
   · exact World.ownsRow_nil _ _ _ _
   · intro g hg;cases hg
   · unfold KRep;rfl
   · exact Blk.alloc (Blk.alloc (Rd.at_ hR0 (z.k + 2) (by go_num)) _) _
   exact only_alloc (only_alloc (only_set (only_refl _ _) _ _) _) _
 obtain ⟨b3,hb3⟩ : ∃ b3,b3 = w.heap.size + 1 := ⟨_,rfl⟩;obtain ⟨b2,hb2⟩ : ∃ b2,b2 = w.heap.size := ⟨_,rfl⟩;rw [← hb3,← hb2];clear hb3 hb2 c0 c1 c2 c3 c4 c5 f1 f2 f3 f4 f5 hR0;intro w0 hS0
 go_loopg [] (s.length + 2 - (z.k + 2)) (fun g wr => ∃ ks kv l lv xs y,g = (if y.bad = 0 then s.length + 2 - y.k else 0) ∧ z.k + 2 ≤ y.k ∧ y.k ≤ s.length ∧ ks.length = l.length ∧ l.length ≤ y.k + (if y.bad = 0 then 0 else 1) ∧ DR w wr r b2 b3 s d kv lv ks kv l lv xs y [] none ∧
  Hid (∀ fin y',DOut V s d ks y fin y' → DOut V s d [] ⟨z.k + 2,z.bad,z.odd,z.ends⟩ (fin.map fun p => (ks ++ p.1,l ++ p.2)) y'))
 case atStart => exact ⟨[],_,[],_,[],⟨z.k + 2,z.bad,z.odd,z.ends⟩,by simp only [hzb,if_true],Nat.le_refl _,hk,rfl,by simp,hS0,Lib.hid (fun fin y' hh => by cases fin <;> simpa using hh)⟩
 case round =>
  obtain ⟨ks,kv,l,lv,xs,y,hg,hy1,hy2,hkl,hll,hS,hcont⟩ := hrel;obtain ⟨kp,ka,kb,rfl⟩ := ownsRow_slice hS.ownk
  have hka : ka = ks.length := by
   rcases hS.ownk.2 with ⟨h,h0⟩ | ⟨g,cap,cur,h,_⟩
   · injection h with _ h2 _;omega
   injection h with _ h2 _
  subst hka;obtain ⟨vp,va,vb,rfl⟩ := ownsRow_slice hS.own;have hg := Lib.hid hg;rename_i hg0;have Hkl := Lib.hid hkl;clear hg0 hS0 hkl;obtain ⟨c0,c1,c2,c3,c4,c5⟩ := hS.rd.cs;obtain ⟨f1,f2,f3,f4,f5⟩ := hS.rd.fs;obtain ⟨z0,z1,z2,z3,z4,z5,z6⟩ := res_cells hS.hz rfl;obtain ⟨a0,a1,a2,a3,a4,a5,a6⟩ := dic_cells hS.ha;have y0 := hS.hz.frozen 0;have y1 := hS.hz.frozen 1;have y2 := hS.hz.frozen 2;have y3 := hS.hz.frozen 3;have y4 := hS.hz.frozen 4;have y5 := hS.hz.frozen 5;have y6 := hS.hz.frozen 6;have x5 := hS.ha.frozen 5;have x6 := hS.ha.frozen 6;have l1 := Blk.lt hS.hz;by_cases hyb : y.bad = 0
  · have tb : ((y.bad : Int) == 0) = true := by rw [beq_iff_eq];omega
    go_wp2_with fail;refine (pass_any r s y.k y.bad d y.odd y.ends wr hy2 hs hS.rd).mono ?_;rintro e w1 ⟨rfl,hA,hO⟩;obtain ⟨⟨k1,o1⟩,ha1⟩ : ∃ a,a = skipAt s y.k y.odd := ⟨_,rfl⟩;have hk1 : k1 ≤ s.length := by have := skipAt_le (o := y.odd) hy2;rw [← ha1] at this;exact this
    have hyk : y.k ≤ k1 := by have := congrArg Prod.fst ha1;unfold skipAt at this;simp only at this;omega
    have Ha1 := Lib.hid ha1;have hS1 := hS.step (y' := ⟨k1,y.bad,o1,y.ends⟩) hO (by unfold skipAt at ha1;injection ha1 with e1 e2;simp only;rw [e1,e2];exact hA);clear hA hO ha1;clear c0 c1 c2 c3 c4 c5 f1 f2 f3 f4 f5 z0 z1 z2 z3 z4 z5 z6 a0 a1 a2 a3 a4 a5 a6 y0 y1 y2 y3 y4 y5 y6 x5 x6 l1;clear hS;go_wp2_with fail;refine (is_any r s [62,62] k1 y.bad d o1 y.ends w1 hk1 hs (by simp) hS1.rd).mono ?_;rintro e w2 ⟨rfl,nn,rfl⟩;have hS2 := hS1.drewN nn;clear hS1;generalize w1.drewN nn = w2 at hS2 ⊢;obtain ⟨c0,c1,c2,c3,c4,c5⟩ := hS2.rd.cs;obtain ⟨f1,f2,f3,f4,f5⟩ := hS2.rd.fs;obtain ⟨z0,z1,z2,z3,z4,z5,z6⟩ := res_cells hS2.hz rfl;obtain ⟨a0,a1,a2,a3,a4,a5,a6⟩ := dic_cells hS2.ha;have y0 := hS2.hz.frozen 0;have y1 := hS2.hz.frozen 1;have y2 := hS2.hz.frozen 2;have y3 := hS2.hz.frozen 3;have y4 := hS2.hz.frozen 4;have y5 := hS2.hz.frozen 5;have y6 := hS2.hz.frozen 6;have x5 := hS2.ha.frozen 5;have x6 := hS2.ha.frozen 6;have l1 := Blk.lt hS2.hz;simp only at c1 c2 c4 c5
    cases hc : ([62,62] : List UInt8).isPrefixOf (s.drop k1) with
    | true =>
      have hlt : k1 + 2 ≤ s.length := by
       have := List.IsPrefix.length_le (List.isPrefixOf_iff_prefix.1 hc);rw [List.length_drop] at this;simp at this;omega
      have nb2 : ¬ b3 = r := by have := hS2.h0;have := hS2.h1;have := hS2.hr;omega
      have nb3 : ¬ b2 = r := by have := hS2.h0;have := hS2.h1;have := hS2.hr;omega
      have nb4 : ¬ r = b3 := by have := hS2.h0;have := hS2.h1;have := hS2.hr;omega
      have nb5 : ¬ r = b2 := by have := hS2.h0;have := hS2.h1;have := hS2.hr;omega
      have HA : DOut V s d ks y (some ([],[])) ⟨k1 + 2,0,o1,y.ends⟩ := .close hyb Ha1.out hc;have hS3 : DR w (w2.setCell ⟨r,1,none⟩ (.int .i64 ((k1 : Int) + 2))) r b2 b3 s d (.slice kp ks.length kb) (.slice vp va vb) ks (.slice kp ks.length kb) l (.slice vp va vb) xs ⟨k1 + 2,0,o1,y.ends⟩ [] none := hS2.step (only_set (only_refl _ _) 1 _) (by have := Rd.at_ hS2.rd (k1 + 2) (v := .int .i64 ((k1 : Int) + 2)) (by go_num);rw [show y.bad = 0 from hyb] at this;exact this);go_wp2_with fail;refine bodyPost_ret (v := .agg (vDic (.slice kp ks.length kb) (.slice vp va vb))) (by simp [results,Tryz.results44,go_sem,vDic,S,l1,z0,z1,z2,z3,z4,z5,z6,y0,y1,y2,y3,y4,y5,y6,nb2,nb3,nb4,nb5]) rfl ?_;have hres := hcont.out _ _ HA;exact ⟨.dict ks l,_,_,rfl,⟨_,hres,by simp⟩,(hS3.done (by repeat first | with_reducible exact only_refl _ _ | with_reducible refine only_set ?_ _ _)).1,by simp only;omega,hlt,fun _ => by simp only;omega,(hS3.done (by repeat first | with_reducible exact only_refl _ _ | with_reducible refine only_set ?_ _ _)).2.1,(hS3.done (by repeat first | with_reducible exact only_refl _ _ | with_reducible refine only_set ?_ _ _)).2.2⟩
    | false =>
      have Hc := Lib.hid hc;clear hc;go_wp2_with fail;refine (is_any r s [47] k1 y.bad d o1 y.ends w2 hk1 hs (by simp) hS2.rd).mono ?_;rintro e w3 ⟨rfl,nn,rfl⟩;have hS3 := hS2.drewN nn;clear hS2;clear c0 c1 c2 c3 c4 c5 f1 f2 f3 f4 f5 z0 z1 z2 z3 z4 z5 z6 a0 a1 a2 a3 a4 a5 a6 y0 y1 y2 y3 y4 y5 y6 x5 x6 l1;generalize w2.drewN nn = w3 at hS3 ⊢;obtain ⟨c0,c1,c2,c3,c4,c5⟩ := hS3.rd.cs;obtain ⟨f1,f2,f3,f4,f5⟩ := hS3.rd.fs;obtain ⟨z0,z1,z2,z3,z4,z5,z6⟩ := res_cells hS3.hz rfl;obtain ⟨a0,a1,a2,a3,a4,a5,a6⟩ := dic_cells hS3.ha;have y0 := hS3.hz.frozen 0;have y1 := hS3.hz.frozen 1;have y2 := hS3.hz.frozen 2;have y3 := hS3.hz.frozen 3;have y4 := hS3.hz.frozen 4;have y5 := hS3.hz.frozen 5;have y6 := hS3.hz.frozen 6;have x5 := hS3.ha.frozen 5;have x6 := hS3.ha.frozen 6;have l1 := Blk.lt hS3.hz;simp only at c1 c2 c4 c5
      cases h47 : ([47] : List UInt8).isPrefixOf (s.drop k1) with
      | false =>
        have H47 := Lib.hid h47;clear h47;have HA : DOut V s d ks y none ⟨k1,1,o1,y.ends || decide (s.length ≤ k1)⟩ := .noKey hyb Ha1.out Hc.out H47.out;have hres := Lib.hid (hcont.out _ _ HA);clear HA
        cases hye : y.ends with
        | true =>
          rw [hye] at c5;go_wp2_with fail;refine region_tailq 17 (by kernel_rfl) (by kernel_rfl) ?_;intro w4 e4;have hS4 : DR w w4 r b2 b3 s d (.slice kp ks.length kb) (.slice vp va vb) ks (.slice kp ks.length kb) l (.slice vp va vb) xs ⟨k1,y.bad,o1,y.ends⟩ [] none := by rw [e4];first | exact hS3.drew | exact (hS3.drewN _).drew
          clear e4 hS3;clear c0 c1 c2 c3 c4 c5 f1 f2 f3 f4 f5 z0 z1 z2 z3 z4 z5 z6 a0 a1 a2 a3 a4 a5 a6 y0 y1 y2 y3 y4 y5 y6 x5 x6 l1;obtain ⟨c0,c1,c2,c3,c4,c5⟩ := hS4.rd.cs;obtain ⟨f1,f2,f3,f4,f5⟩ := hS4.rd.fs;obtain ⟨z0,z1,z2,z3,z4,z5,z6⟩ := res_cells hS4.hz rfl;obtain ⟨a0,a1,a2,a3,a4,a5,a6⟩ := dic_cells hS4.ha;have y0 := hS4.hz.frozen 0;have y1 := hS4.hz.frozen 1;have y2 := hS4.hz.frozen 2;have y3 := hS4.hz.frozen 3;have y4 := hS4.hz.frozen 4;have y5 := hS4.hz.frozen 5;have y6 := hS4.hz.frozen 6;have x5 := hS4.ha.frozen 5;have x6 := hS4.ha.frozen 6;have l1 := Blk.lt hS4.hz;simp only at c1 c2 c4 c5;rw [hye] at c5;simp only [List.take_succ_cons,List.take_zero,List.drop_succ_cons,List.drop_zero]
          repeat (go_big_quiet_step (fail))
          refine wpQuiet_nil ?_;go_wp2_with fail;have hE : (y.ends || decide (s.length ≤ k1)) = true := by simp [hye]
          rw [hE] at hres;have hS5 := hS4.step (y' := ⟨k1,0,o1,true⟩) (only_set (only_refl _ _) 5 _) (by have := Rd.ends_ hS4.rd true rfl;rw [show y.bad = 0 from hyb] at this;exact this);clear c0 c1 c2 c3 c4 c5 f1 f2 f3 f4 f5 z0 z1 z2 z3 z4 z5 z6 a0 a1 a2 a3 a4 a5 a6 y0 y1 y2 y3 y4 y5 y6 x5 x6 l1;clear hS4;refine (fail_any r s k1 0 d 1 o1 true _ hS5.rd).mono ?_;rintro e w6 ⟨rfl,hA,hO⟩;have hS6 := hS5.step (y' := ⟨k1,1,o1,true⟩) hO (by simpa using hA);clear hA hO hS5;unfold vZero;obtain ⟨z0,z1,z2,z3,z4,z5,z6⟩ := res_cells hS6.hz rfl;have y0 := hS6.hz.frozen 0;have y1 := hS6.hz.frozen 1;have y2 := hS6.hz.frozen 2;have y3 := hS6.hz.frozen 3;have y4 := hS6.hz.frozen 4;have y5 := hS6.hz.frozen 5;have y6 := hS6.hz.frozen 6;have l1 := Blk.lt hS6.hz;go_wp2_with fail;refine bodyPost_ret (v := .agg vZero) (by simp [results,Tryz.results44,go_sem,vZero,S,l1,z0,z1,z2,z3,z4,z5,z6,y0,y1,y2,y3,y4,y5,y6]) rfl ?_;exact ⟨.null,_,_,rfl,⟨_,hres.out,rfl⟩,by unfold VRep;rfl,by simp only;omega,hk1,(fun h => by cases h),(hS6.done (by repeat first | with_reducible exact only_refl _ _ | with_reducible refine only_set ?_ _ _)).2.1,(hS6.done (by repeat first | with_reducible exact only_refl _ _ | with_reducible refine only_set ?_ _ _)).2.2⟩
        | false =>
          by_cases hge : s.length ≤ k1
          · have tge : decide ((s.length : Int) ≤ (k1 : Int)) = true := by rw [decide_eq_true_eq];omega
            rw [hye] at c5;go_wp2_with fail;refine region_tailq 17 (by kernel_rfl) (by kernel_rfl) ?_;intro w4 e4;have hS4 : DR w w4 r b2 b3 s d (.slice kp ks.length kb) (.slice vp va vb) ks (.slice kp ks.length kb) l (.slice vp va vb) xs ⟨k1,y.bad,o1,y.ends⟩ [] none := by rw [e4];first | exact hS3.drew | exact (hS3.drewN _).drew
            clear e4 hS3;clear c0 c1 c2 c3 c4 c5 f1 f2 f3 f4 f5 z0 z1 z2 z3 z4 z5 z6 a0 a1 a2 a3 a4 a5 a6 y0 y1 y2 y3 y4 y5 y6 x5 x6 l1;obtain ⟨c0,c1,c2,c3,c4,c5⟩ := hS4.rd.cs;obtain ⟨f1,f2,f3,f4,f5⟩ := hS4.rd.fs;obtain ⟨z0,z1,z2,z3,z4,z5,z6⟩ := res_cells hS4.hz rfl;obtain ⟨a0,a1,a2,a3,a4,a5,a6⟩ := dic_cells hS4.ha;have y0 := hS4.hz.frozen 0;have y1 := hS4.hz.frozen 1;have y2 := hS4.hz.frozen 2;have y3 := hS4.hz.frozen 3;have y4 := hS4.hz.frozen 4;have y5 := hS4.hz.frozen 5;have y6 := hS4.hz.frozen 6;have x5 := hS4.ha.frozen 5;have x6 := hS4.ha.frozen 6;have l1 := Blk.lt hS4.hz;simp only at c1 c2 c4 c5;rw [hye] at c5;simp only [List.take_succ_cons,List.take_zero,List.drop_succ_cons,List.drop_zero]
            repeat (go_big_quiet_step (fail))
            refine wpQuiet_nil ?_;go_wp2_with fail;have hE : (y.ends || decide (s.length ≤ k1)) = true := by simp [hye,hge]
            rw [hE] at hres;have hS5 := hS4.step (y' := ⟨k1,0,o1,true⟩) (only_set (only_refl _ _) 5 _) (by have := Rd.ends_ hS4.rd true rfl;rw [show y.bad = 0 from hyb] at this;exact this);clear c0 c1 c2 c3 c4 c5 f1 f2 f3 f4 f5 z0 z1 z2 z3 z4 z5 z6 a0 a1 a2 a3 a4 a5 a6 y0 y1 y2 y3 y4 y5 y6 x5 x6 l1;clear hS4;refine (fail_any r s k1 0 d 1 o1 true _ hS5.rd).mono ?_;rintro e w6 ⟨rfl,hA,hO⟩;have hS6 := hS5.step (y' := ⟨k1,1,o1,true⟩) hO (by simpa using hA);clear hA hO hS5;unfold vZero;obtain ⟨z0,z1,z2,z3,z4,z5,z6⟩ := res_cells hS6.hz rfl;have y0 := hS6.hz.frozen 0;have y1 := hS6.hz.frozen 1;have y2 := hS6.hz.frozen 2;have y3 := hS6.hz.frozen 3;have y4 := hS6.hz.frozen 4;have y5 := hS6.hz.frozen 5;have y6 := hS6.hz.frozen 6;have l1 := Blk.lt hS6.hz;go_wp2_with fail;refine bodyPost_ret (v := .agg vZero) (by simp [results,Tryz.results44,go_sem,vZero,S,l1,z0,z1,z2,z3,z4,z5,z6,y0,y1,y2,y3,y4,y5,y6]) rfl ?_;exact ⟨.null,_,_,rfl,⟨_,hres.out,rfl⟩,by unfold VRep;rfl,by simp only;omega,hk1,(fun h => by cases h),(hS6.done (by repeat first | with_reducible exact only_refl _ _ | with_reducible refine only_set ?_ _ _)).2.1,(hS6.done (by repeat first | with_reducible exact only_refl _ _ | with_reducible refine only_set ?_ _ _)).2.2⟩
          have tge : decide ((s.length : Int) ≤ (k1 : Int)) = false := by rw [decide_eq_false_iff_not];omega
          rw [hye] at c5;go_wp2_with fail;refine region_tailq 17 (by kernel_rfl) (by kernel_rfl) ?_;intro w4 e4;have hS4 : DR w w4 r b2 b3 s d (.slice kp ks.length kb) (.slice vp va vb) ks (.slice kp ks.length kb) l (.slice vp va vb) xs ⟨k1,y.bad,o1,y.ends⟩ [] none := by rw [e4];first | exact hS3.drew | exact (hS3.drewN _).drew
          clear e4 hS3;clear c0 c1 c2 c3 c4 c5 f1 f2 f3 f4 f5 z0 z1 z2 z3 z4 z5 z6 a0 a1 a2 a3 a4 a5 a6 y0 y1 y2 y3 y4 y5 y6 x5 x6 l1;obtain ⟨c0,c1,c2,c3,c4,c5⟩ := hS4.rd.cs;obtain ⟨f1,f2,f3,f4,f5⟩ := hS4.rd.fs;obtain ⟨z0,z1,z2,z3,z4,z5,z6⟩ := res_cells hS4.hz rfl;obtain ⟨a0,a1,a2,a3,a4,a5,a6⟩ := dic_cells hS4.ha;have y0 := hS4.hz.frozen 0;have y1 := hS4.hz.frozen 1;have y2 := hS4.hz.frozen 2;have y3 := hS4.hz.frozen 3;have y4 := hS4.hz.frozen 4;have y5 := hS4.hz.frozen 5;have y6 := hS4.hz.frozen 6;have x5 := hS4.ha.frozen 5;have x6 := hS4.ha.frozen 6;have l1 := Blk.lt hS4.hz;simp only at c1 c2 c4 c5;rw [hye] at c5;simp only [List.take_succ_cons,List.take_zero,List.drop_succ_cons,List.drop_zero]
          repeat (go_big_quiet_step (fail))
          refine wpQuiet_nil ?_;go_wp2_with fail;have hE : (y.ends || decide (s.length ≤ k1)) = false := by simp [hye,hge]
          rw [hE] at hres;have hS5 := hS4.step (y' := ⟨k1,0,o1,false⟩) (only_set (only_refl _ _) 5 _) (by have := Rd.ends_ hS4.rd false rfl;rw [show y.bad = 0 from hyb] at this;exact this);clear c0 c1 c2 c3 c4 c5 f1 f2 f3 f4 f5 z0 z1 z2 z3 z4 z5 z6 a0 a1 a2 a3 a4 a5 a6 y0 y1 y2 y3 y4 y5 y6 x5 x6 l1;clear hS4;refine (fail_any r s k1 0 d 1 o1 false _ hS5.rd).mono ?_;rintro e w6 ⟨rfl,hA,hO⟩;have hS6 := hS5.step (y' := ⟨k1,1,o1,false⟩) hO (by simpa using hA);clear hA hO hS5;unfold vZero;obtain ⟨z0,z1,z2,z3,z4,z5,z6⟩ := res_cells hS6.hz rfl;have y0 := hS6.hz.frozen 0;have y1 := hS6.hz.frozen 1;have y2 := hS6.hz.frozen 2;have y3 := hS6.hz.frozen 3;have y4 := hS6.hz.frozen 4;have y5 := hS6.hz.frozen 5;have y6 := hS6.hz.frozen 6;have l1 := Blk.lt hS6.hz;go_wp2_with fail;refine bodyPost_ret (v := .agg vZero) (by simp [results,Tryz.results44,go_sem,vZero,S,l1,z0,z1,z2,z3,z4,z5,z6,y0,y1,y2,y3,y4,y5,y6]) rfl ?_;exact ⟨.null,_,_,rfl,⟨_,hres.out,rfl⟩,by unfold VRep;rfl,by simp only;omega,hk1,(fun h => by cases h),(hS6.done (by repeat first | with_reducible exact only_refl _ _ | with_reducible refine only_set ?_ _ _)).2.1,(hS6.done (by repeat first | with_reducible exact only_refl _ _ | with_reducible refine only_set ?_ _ _)).2.2⟩
      | true =>
        have hlt : k1 < s.length := by
         rcases Nat.lt_or_ge k1 s.length with h | h
         · exact h
         rw [List.drop_eq_nil_of_le h] at h47;cases h47
        have H47 := Lib.hid h47;clear h47;go_wp2_with fail;refine (name_read r s k1 y.bad d o1 y.ends w3 hlt hs hS3.rd).mono ?_;rintro e w4 ⟨rfl,hnk,hA,hO⟩;obtain ⟨x,hx⟩ : ∃ x,x = nameAt s k1 o1 := ⟨_,rfl⟩;have hxk : k1 < x.2.1 := by rw [hx];exact nameAt_lt s k1 o1
        rw [← hx] at hnk hA ⊢;have Hx := Lib.hid hx;obtain ⟨xo,xk,xd⟩ := x;simp only at hnk hA hxk ⊢;have hS4 := hS3.step (y' := ⟨xk,if xo.isSome = true then 0 else 2,xd,y.ends⟩) hO (by rw [hyb] at hA;simpa using hA);clear hA hO hx hS3;clear c0 c1 c2 c3 c4 c5 f1 f2 f3 f4 f5 z0 z1 z2 z3 z4 z5 z6 a0 a1 a2 a3 a4 a5 a6 y0 y1 y2 y3 y4 y5 y6 x5 x6 l1;obtain ⟨key,hkey⟩ : ∃ key,key = xo.getD [] := ⟨_,rfl⟩;rw [← hkey];have Hkey := Lib.hid hkey
        have hkl2 : key.length ≤ 4611686018427387904 := by
         have h9 := nameAt_len s k1 o1;rw [← Hx.out] at h9;rw [hkey];simp only at h9;omega
        clear hkey;go_wp2_with fail;refine (signed_any key w4 hkl2).mono ?_;rintro e w5 ⟨rfl,rfl⟩
        go_upto_if 59 with fail
        go_cut [] from 15 to 87 (fun wc => DR w wc r b2 b3 s d (.slice kp ks.length kb) (.slice vp va vb) ks (.slice kp ks.length kb) l (.slice vp va vb) xs ⟨xk,if xo.isSome = true ∧ signOk key = true then 0 else 2,xd,y.ends⟩ [] none)
        case first =>
         cases hsg : signOk key with
         | true =>
           go_wp2_with fail
           go_meet
           have : (if xo.isSome = true ∧ True then 0 else 2 : Nat) = if xo.isSome = true then 0 else 2 := by simp
           simpa [hsg] using hS4
         | false =>
           go_wp2_with fail;refine (fail_any r s xk (if xo.isSome = true then 0 else 2) d 2 xd y.ends w4 hS4.rd).mono ?_;rintro e w6 ⟨rfl,hA,hO⟩;have hS5 := hS4.step (y' := ⟨xk,2,xd,y.ends⟩) hO (by cases xo <;> simpa using hA);clear hS4;go_wp2_with fail
           go_meet
           simpa [hsg] using hS5
        case rest =>
         have hS5 := hcut;clear hcut hS4;obtain ⟨c0,c1,c2,c3,c4,c5⟩ := hS5.rd.cs;obtain ⟨f1,f2,f3,f4,f5⟩ := hS5.rd.fs;obtain ⟨z0,z1,z2,z3,z4,z5,z6⟩ := res_cells hS5.hz rfl;obtain ⟨a0,a1,a2,a3,a4,a5,a6⟩ := dic_cells hS5.ha;have y0 := hS5.hz.frozen 0;have y1 := hS5.hz.frozen 1;have y2 := hS5.hz.frozen 2;have y3 := hS5.hz.frozen 3;have y4 := hS5.hz.frozen 4;have y5 := hS5.hz.frozen 5;have y6 := hS5.hz.frozen 6;have x5 := hS5.ha.frozen 5;have x6 := hS5.ha.frozen 6;have l1 := Blk.lt hS5.hz;simp only at c1 c2 c4 c5;go_wp2_with fail;have hkb : ks.length ≤ 300000000 := by have := Hkl.out;rw [if_pos hyb] at hll;omega
         go_loopg [65] ks.length (fun g s65 wr => ∃ i : Nat,s65 = .int .i64 i ∧ i + g = ks.length ∧ DR w wr r b2 b3 s d (.slice kp ks.length kb) (.slice vp va vb) ks (.slice kp ks.length kb) l (.slice vp va vb) xs ⟨xk,if xo.isSome = true ∧ signOk key = true ∧ key ∉ ks.take i then 0 else 2,xd,y.ends⟩ [] none)
         case atStart => exact ⟨0,by go_num,by omega,by simpa using hS5⟩
         case round =>
          obtain ⟨i,rfl,hgi,hS6⟩ := hrel;clear c0 c1 c2 c3 c4 c5 f1 f2 f3 f4 f5 z0 z1 z2 z3 z4 z5 z6 a0 a1 a2 a3 a4 a5 a6 y0 y1 y2 y3 y4 y5 y6 x5 x6 l1;clear hS5;by_cases hi2 : i < ks.length
          · have ti : i < ks.length := hi2
            obtain ⟨gk,hkp,hck⟩ : ∃ g,kp = some ⟨g,0,none⟩ ∧ wr.cell? ⟨g,i,none⟩ = some (S ks[i]) := by
             rcases hS6.ownk.2 with ⟨h,h0⟩ | ⟨g,cap,cur,h,_⟩
             · omega
             injection h with h1 _ h3;subst h1 h3;refine ⟨g,rfl,?_⟩;rw [World.ownsRow.cellAt hS6.ownk i (by omega)];simp [hi2]
            subst hkp;have htk : ks.take (i + 1) = ks.take i ++ [ks[i]] := List.take_succ_eq_append_getElem hi2;obtain ⟨kk,hkk⟩ : ∃ kk,kk = ks[i] := ⟨_,rfl⟩;rw [← hkk] at hck htk;have Htk := Lib.hid htk;clear htk hkk;by_cases hke : kk = key
            · have tx : ((⟨kk.toArray⟩ : ByteArray) == ⟨key.toArray⟩) = true := by rw [str_beq,hke];simp
              have tx2 : (kk == key) = true := by simp [hke]
              have Hke := Lib.hid hke;clear hke;go_wp2_with fail;refine (fail_any r s xk (if xo.isSome = true ∧ signOk key = true ∧ key ∉ ks.take i then 0 else 2) d 2 xd y.ends wr hS6.rd).mono ?_;rintro e w6 ⟨rfl,hA,hO⟩;have hS7 := hS6.step (y' := ⟨xk,2,xd,y.ends⟩) hO (by simp only;split at hA <;> simpa using hA);clear hS6 hA hO;go_wp2_with fail
              go_roundg (ks.length - (i + 1))
              case measure => omega
              case rel => exact ⟨i + 1,by go_num,by omega,by rw [if_neg (by rw [Htk.out,Hke.out];simp)];exact hS7⟩
            have tx : ((⟨kk.toArray⟩ : ByteArray) == ⟨key.toArray⟩) = false := by rw [str_beq];simp [hke]
            have tx2 : (kk == key) = false := by simp [hke]
            have Hke := Lib.hid hke;clear hke;go_wp2_with fail
            go_roundg (ks.length - (i + 1))
            case measure => omega
            case rel =>
             refine ⟨i + 1,by go_num,by omega,?_⟩;rw [Htk.out];have hne : key ≠ kk := fun e => Hke.out e.symm
             simpa [List.mem_append,hne] using hS6
          have ti : ¬ i < ks.length := hi2;rw [List.take_of_length_le (by omega)] at hS6;obtain ⟨bd,hbd⟩ : ∃ bd : Nat,bd = if xo.isSome = true ∧ signOk key = true ∧ key ∉ ks then 0 else 2 := ⟨_,rfl⟩
          rw [← hbd] at hS6;have Hbd := Lib.hid hbd;clear hbd
          have hcall : ∀ {W : World} {ks' : List (List UInt8)} {kv' : Value} {F : List (Nat × Obj)},DR w W r b2 b3 s d (.slice kp ks.length kb) (.slice vp va vb) ks' kv' l (.slice vp va vb) xs ⟨xk,bd,xd,y.ends⟩ F none → Calls Tryz.prog 20 #[.pointer (some ⟨r,0,none⟩)] W fun e w5 => ∃ (u : SVal) (q0 q1 q2 q3 q4 q5 q6 : Value) (y' : Z),e = .returned (.agg #[q0,q1,q2,q3,q4,q5,q6]) ∧ Hid (V d ⟨xk,bd,xd,y.ends⟩ u y') ∧ Hid (xk ≤ y'.k ∧ y'.k ≤ s.length ∧ (y'.bad = 0 → xk < y'.k)) ∧ (∀ x ∈ [q0,q1,q2,q3,q4,q5,q6],x.oneCell' = true) ∧ DR w w5 r b2 b3 s d (.slice kp ks.length kb) (.slice vp va vb) ks' kv' l (.slice vp va vb) xs y' F (some (u,[q0,q1,q2,q3,q4,q5,q6])) := by
           intro W ks' kv' F hD;refine (HV.out r d ⟨xk,bd,xd,y.ends⟩ W hnk (by simp only;omega) hd hr0 (since_only HW.out hD.oo hr0) hD.rd).mono ?_;rintro e w5 ⟨u,cs,y',rfl,hVu,hRep,hk',hk'',hprog,hR5,hO5⟩;obtain ⟨q0,q1,q2,q3,q4,q5,q6,rfl⟩ := seven hRep;exact ⟨u,q0,q1,q2,q3,q4,q5,q6,y',rfl,Lib.hid hVu,Lib.hid ⟨hk',hk'',hprog⟩,VRep.one _ _ hRep,hD.call hO5 hR5 hRep⟩
          have hll2 : l.length ≤ 300000000 := by rw [if_pos hyb] at hll;omega
          have hkk2 : ks.length ≤ 300000000 := by have := Hkl.out;omega
          go_wp2_with fail;have k5 := hS6.c5;have k6 := hS6.c6;have hS := hS6;have k5a := fun o : Obj => (hS.alloc o).c5
          have k6a := fun o : Obj => (hS.alloc o).c6
          clear hS6
          go_region_law (first
           | (go_simp;go_at_call 20;refine (hcall hS).mono ?_;rintro e w5 ⟨u,q0,q1,q2,q3,q4,q5,q6,y',rfl,HVu,Hy,hone,hS⟩;have k5 := hS.c5;have k6 := hS.c6;have k5a := fun o : Obj => (hS.alloc o).c5;have k6a := fun o : Obj => (hS.alloc o).c6;dsimp only)
           | ((first
               | with_reducible refine stepK (hS.alloc _).drew List.mem_cons_self rfl rfl (by simp [Act.eval,Act.put]) (by simp [Act.eval,Act.put]) hkk2 ?_
               | with_reducible refine stepK (hS.drew.alloc _) List.mem_cons_self rfl rfl (by simp [Act.eval,Act.put]) (by simp [Act.eval,Act.put]) hkk2 ?_);intro g cap w6 hS;have k5 := hS.c5;have k6 := hS.c6;have k5a := fun o : Obj => (hS.alloc o).c5;have k6a := fun o : Obj => (hS.alloc o).c6)
           | (with_reducible refine stepL (hS.alloc _) List.mem_cons_self rfl rfl (by simp [Act.eval,Act.put]) (by simp [Act.eval,Act.put]) hll2 hone ?_;intro g2 cap2 w7 hS;have k5 := hS.c5;have k6 := hS.c6;have k5a := fun o : Obj => (hS.alloc o).c5;have k6a := fun o : Obj => (hS.alloc o).c6;have x5 := hS.ha.frozen 5;have x6 := hS.ha.frozen 6))
          all_goals
           go_wp2_with fail
           go_roundg (if y'.bad = 0 then s.length + 2 - y'.k else 0)
           case measure =>
            have h1 := hg.out;have h3 := Hy.out;rw [if_pos hyb] at h1;by_cases h2 : y'.bad = 0
            · have := h3.2.2 h2;rw [if_pos h2];omega
            rw [if_neg h2];omega
           case rel =>
            have h3 := Hy.out;refine ⟨ks ++ [key],_,l ++ [u],_,_,y',rfl,by omega,h3.2.1,by simp [Hkl.out],?_,(by first | exact hS.put | exact hS.put2),Lib.hid (fun fin y'' hh => ?_)⟩
            · rw [if_pos hyb] at hll;by_cases h2 : y'.bad = 0
              · have := h3.2.2 h2;rw [if_pos h2];simp;omega
              rw [if_neg h2];simp;omega
            have hsgn : (signOk key = true) ↔ ∀ b ∈ key,b.toNat ≠ 35 := by unfold signOk;simp
            have hv := HVu.out;rw [Hbd.out] at hv;simp only [hsgn] at hv
            have hel : DOut V s d ks y (fin.map fun p => (key :: p.1,u :: p.2)) y'' := by
             rw [Hkey.out] at hv hh ⊢;exact DOut.elem hyb Ha1.out Hc.out H47.out Hx.out hv hh
            have := hcont.out _ _ hel;cases fin <;> simpa using this
  have tb : ((y.bad : Int) == 0) = false := by rw [beq_eq_false_iff_ne];omega
  have HA : DOut V s d ks y (some ([],[])) y := .stop hyb;go_wp2_with fail;refine bodyPost_ret (v := .agg (vDic (.slice kp ks.length kb) (.slice vp va vb))) (by simp [results,Tryz.results44,go_sem,vDic,S,l1,z0,z1,z2,z3,z4,z5,z6,y0,y1,y2,y3,y4,y5,y6]) rfl ?_;have hres := hcont.out _ _ HA;exact ⟨.dict ks l,_,_,rfl,⟨_,hres,by simp⟩,(hS.done (by repeat first | with_reducible exact only_refl _ _ | with_reducible refine only_set ?_ _ _)).1,by omega,hy2,fun h => absurd h hyb,(hS.done (by repeat first | with_reducible exact only_refl _ _ | with_reducible refine only_set ?_ _ _)).2.1,(hS.done (by repeat first | with_reducible exact only_refl _ _ | with_reducible refine only_set ?_ _ _)).2.2⟩
end Go.Proofs.YtcpijmbdibgdmaaGreatDoor
