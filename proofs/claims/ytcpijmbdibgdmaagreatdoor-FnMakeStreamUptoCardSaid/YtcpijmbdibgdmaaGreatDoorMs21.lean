/-
  types.Dict.PDFString: the keys in order.
  impl.dict, over what impl.object says of smaller objects.
  package model: what the parser's functions leave; literal strings; the depth.
  types.DecodeName, of a name that the reader takes.
  types.Dict: Find, Insert; types.NewObjectStreamDict.
-/
import Derived.Test.YtcpijmbdibgdmaaGreatDoorMs20
import Derived.Maps.Own
import Derived.Lib.OthersKept
import Derived.Laws.RangeAny
import Derived.Maps.OwnOps
set_option linter.all false
set_option maxHeartbeats 16000000
set_option maxRecDepth 100000
namespace Go.Proofs.YtcpijmbdibgdmaaGreatDoor
open Go.RowKit
attribute [local go_sem] ba_get store_flt
theorem ents_born : ∀ (i : Nat) (ks : List (List UInt8)) (vs : List Value),∀ e ∈ ents i ks vs,i ≤ e.born
 | i,[],vs,e,h => by rw [ents.eq_def] at h;simp at h
 | i,_ :: _,[],e,h => by rw [ents.eq_def] at h;simp at h
 | i,k :: ks,v :: vs,e,h => by
   rw [ents,List.mem_cons] at h;rcases h with h | h
   · rw [h];exact Nat.le_refl _
   exact Nat.le_of_succ_le (ents_born (i + 1) ks vs e h)
theorem ents_nodup : ∀ (i : Nat) (ks : List (List UInt8)) (vs : List Value),((ents i ks vs).map (·.born)).Nodup
 | i,[],vs => by rw [ents.eq_def];simp
 | i,_ :: _,[] => by rw [ents.eq_def];simp
 | i,k :: ks,v :: vs => by
   rw [ents,List.map_cons,List.nodup_cons];refine ⟨fun h => ?_,ents_nodup (i + 1) ks vs⟩;obtain ⟨e,he,hb⟩ := List.mem_map.1 h;have := ents_born (i + 1) ks vs e he;simp only at hb;omega
theorem run_entry_map {P : Program} {w : World} {b r j : Nat} {ks : List (List UInt8)} {vs : List Value} {seen : List Nat} (h : MapIs w b ks vs) (hr : RangeIs w r b ks.length (seen ++ [j])) (hk : j < ks.length) (hv : j < vs.length) :
 (Instr.entry (.pointer (some ⟨r,0,none⟩))).run P w = .ok (.tuple #[.string ⟨ks[j].toArray⟩,vs[j]]) w := by
 have hat := ents_at 0 ks vs j hk hv
 have hr2 : w.heap[r]? = some (.mapIter (some b) ks.length (seen.toArray.push j) ks.length) := by
  unfold RangeIs at hr;rw [hr];simp
 have := run_entry_at (P := P) w r b ks.length seen.toArray (ents 0 ks vs).toArray ks.length { key := .string ⟨ks[j].toArray⟩,val := vs[j],born := 0 + j } (by simpa using hr2) h.1 (by simpa using List.mem_of_getElem? hat) (by simpa using ents_nodup 0 ks vs);simpa using this
structure RK (w wr : World) (mb n : Nat) (seen : List Nat) (ys : List ByteArray) (v : Value) : Prop where
 own : wr.ownsRow (w.heap.size + 1) 9 1 v ys.length (ys.map .string)
 it : RangeIs wr w.heap.size mb n seen
 below : Below w.heap.size w wr
theorem RK.shown {w w1 wr : World} {mb n j : Nat} {seen : List Nat} {ys : List ByteArray} {v : Value} (h : RK w wr mb n seen ys v) (hw : w1 = wr ∨ w1 = wr.drew) :
 RK w (ChangeMaps.setBlock w1 w.heap.size (.mapIter (some mb) n (seen ++ [j]).toArray n)) mb n (seen ++ [j]) ys v := by
 have h1 : RK w w1 mb n seen ys v := by
  rcases hw with rfl | rfl
  · exact h
  exact ⟨h.own,h.it,⟨h.below.os,h.below.tape,h.below.output,h.below.size,h.below.block⟩⟩
 have hg := grown_setBlock w1 w.heap.size (.mapIter (some mb) n (seen ++ [j]).toArray n);refine ⟨ownsRow_keepB h1.own (fun g hg2 => hg.block g (World.ownsRow.lt h1.own g hg2).2 (fun e => by injection e with e;have := (World.ownsRow.lt h1.own g hg2).1;omega)),?_,only_new hg (Nat.le_refl _) h1.below⟩;unfold RangeIs ChangeMaps.setBlock;have := h1.it.lt;simp [this]
theorem wpList_app9r {ops : Array Oper} {rest : List Oper} {o : Oper} {a : Act} {Q : Exit → Act → World → Prop} {w wr : World} {mb n : Nat} {seen : List Nat} {xs : List ByteArray} {v : Value} (hgd : o.guard = none) (s x : Operand)
 (ho : o.op = .call { callee := .builtin .append,args := #[s,x],argTypes := #[25,25] }) (hS : RK w wr mb n seen xs v) (hn : xs.length ≤ 8000000) (u : ByteArray) (hs : a.eval s = v) (hx : a.eval x = .slice (some ⟨wr.heap.size,0,none⟩) 1 1)
 (h : ∀ v' w',RK w w' mb n seen (xs ++ [u]) v' → wpList Tryz.prog ops Q rest (a.put o.dst v') w') : wpList Tryz.prog ops Q (o :: rest) a (wr.alloc (.cells #[.string u] 9)) := by
 obtain ⟨i0,hi,hi0,hi1,hi2⟩ := info_parts Tryz.info9;have hitl := hS.it.lt;refine wpList_append_own_at _ hgd s x 25 ho (w.heap.size + 1) 9 i0 (.string ⟨#[]⟩) 1 16 Tryz.underlying25 hi hi0 hi1 hi2 rfl (by decide) v xs.length (xs.map .string) hs (hS.own.alloc _) ⟨wr.heap.size,0,none⟩ 1 1 [.string u] hx rfl (World.news_of_block (heap_alloc_new _ _)) (fun y hy => by rw [List.mem_singleton] at hy;rw [hy];rfl) (by unfold maxLen;omega) (by omega) (by simp;omega) ?_;intro v' w' h1 h2 _ _;have hb := hS.below;have hog := fun g hg => World.ownsRow.lt hS.own g hg
 refine h v' w' ⟨by simpa using h1,?_,(hb.alloc hb.size _).grown h2 (by have := hb.size;simp;omega) (fun k hk => by have := (hog k hk).1;omega)⟩;refine hS.it.keep ((h2.block _ (by simp;omega) (fun e => by have := (hog _ e.symm).1;omega)).trans (Below.heap_alloc wr _ _ hitl))
end Go.Proofs.YtcpijmbdibgdmaaGreatDoor
namespace Go.Proofs.YtcpijmbdibgdmaaGreatDoor
open Go.RowKit
attribute [local go_sem] ba_get store_flt
def DictPost (w : World) (ks : List (List UInt8)) (q : List PObj) (e : Ending) (w' : World) : Prop := ∃ b vs,e = .returned (.tuple #[.map (some b),.bool true]) ∧ w.heap.size ≤ b ∧ MapIs w' b ks vs ∧ TKids w' (fun i => w.heap.size ≤ i) q vs ∧ Below w.heap.size w w'
structure DS (w wr : World) (b : Nat) (ks : List (List UInt8)) (q : List PObj) (vs : List Value) : Prop where
 map : MapIs wr b ks vs
 kids : TKids wr (fun i => w.heap.size ≤ i ∧ i ≠ b) q vs
 below : Below w.heap.size w wr
 hb : w.heap.size ≤ b
section
variable {w wr w' : World} {b : Nat} {ks : List (List UInt8)} {q : List PObj} {vs : List Value}
theorem DS.keep (h : DS w wr b ks q vs) (hB : Below wr.heap.size wr w') : DS w w' b ks q vs :=
 ⟨h.map.keep (hB.block b h.map.lt),TKids.mono (fun i hi hlt => ⟨hB.block i hlt,hi⟩) _ _ h.kids,h.below.trans (hB.mono h.below.size),h.hb⟩
theorem DS.set_ (h : DS w wr b ks q vs) {p : PObj} {u : Value} (k : List UInt8) (hv : TRep wr (fun i => w.heap.size ≤ i ∧ i ≠ b) p u) :
 DS w (ChangeMaps.setBlock wr b (.map (ents 0 (ks ++ [k]) (vs ++ [u])).toArray (ks ++ [k]).length)) b (ks ++ [k]) (q ++ [p]) (vs ++ [u]) := by
 have hg := grown_setBlock wr b (.map (ents 0 (ks ++ [k]) (vs ++ [u])).toArray (ks ++ [k]).length);refine ⟨h.map.set_ k u,TKids.snoc (TRep.mono (fun i hi hlt => ⟨hg.block i hlt (fun e => hi.2 (by injection e)),hi⟩) _ _ hv) _ _ (TKids.mono (fun i hi hlt => ⟨hg.block i hlt (fun e => hi.2 (by injection e)),hi⟩) _ _ h.kids),only_new hg h.hb h.below,h.hb⟩
end
section
variable {P : Program} {w : World} {b : Nat} {ks : List (List UInt8)} {vs : List Value} {T K E : TypeId}
theorem run_op_update {o : Oper} {a : Act} {m k x : Operand} (ho : o.op = .mapUpdate T m k x) (hT : P.underlying T = some (.map K E)) (hK : P.underlying K = some .string) (h : MapIs w b ks vs) {key : List UInt8} (hk : key ∉ ks) {u : Value}
 (em : a.eval m = .map (some b)) (ek : a.eval k = S key) (ex : a.eval x = u) :
 (execOp a.eval o).run P w = .ok .skip (ChangeMaps.setBlock w b (.map (ents 0 (ks ++ [key]) (vs ++ [u])).toArray (ks ++ [key]).length)) := by
 have hr := run_update_new (P := P) hT hK h hk u;unfold execOp;simp only [ho,em,ek,ex,Sem.run_bind,Sem.run_pure,hr,Result.andThen_ok]
theorem wpList_skip {ops : Array Oper} {rest : List Oper} {o : Oper} {a : Act} {Q : Exit → Act → World → Prop} (hg : o.guard = none) {w' : World} (hrun : (execOp a.eval o).run P w = .ok .skip w') (hK : wpList P ops Q rest (a.put o.dst undef) w') : wpList P ops Q (o :: rest) a w := by
 refine wpList_plain hg fun K' hK' => ?_
 unfold Oper.wp;simp [hrun];exact hK' _ _ hK
end
theorem dict_any (tw : Nat → Bool) (W0 : World) (m : Nat) (hFr : ObjSaid tw W0 m) (ks : List (List UInt8)) (l : List OObj) (q : List PObj) (xs : List Value) (A A2 : Option Addr) (kc lc : Nat) (w : World)
 (hn : ∀ o ∈ l,SizeOf.sizeOf o ≤ m) (hkl : ks.length = l.length) (hks : InSl W0 W0.heap.size 1 (.slice A ks.length kc) ks.length (ks.map fun k => .string ⟨k.toArray⟩)) (hkd : ks.Pairwise (· ≠ ·)) (hl : InSl W0 W0.heap.size 7 (.slice A2 l.length lc) l.length xs) (hkids : OKids W0 W0.heap.size l xs) (hI : OIntL l) (hb : bulkL l ≤ 1048576) (hq : objL tw l = some q) (hW : Below W0.heap.size W0 w) :
 Calls Tryz.prog 62 #[.slice A ks.length kc,.slice A2 l.length lc] w (DictPost w ks q) := by
 obtain ⟨A',c',hv',hc1',hc2',hll',hlr'⟩ := hks;injection hv' with hv1' hv2' hv3';subst hv1' hv3';obtain ⟨A',c,hv,hc1,hc2,hll,hlr⟩ := hl;injection hv with hv1 hv2 hv3;subst hv1 hv3;have hbl := bulkL_len l;have hls : ks.length ≤ 131072 := by omega
 have hql := objL_len hq;have tkl : ((ks.length : Int) != (l.length : Int)) = false := by simp [hkl]
 have HFr := Lib.hid hFr;have HW := Lib.hid hW;have HL := Lib.hid hlr;have HK := Lib.hid hlr';have HN := Lib.hid hn;have HI := Lib.hid hI;have HB := Lib.hid hb;have HQ := Lib.hid hq;have Hkl := Lib.hid hkl;have Hkd := Lib.hid hkd;have Hql : Hid (q.length = ks.length) := Lib.hid (by omega);unfold maxLen at hc2 hc2';clear hFr hW hlr hlr' hn hI hb hbl hq hv2 hkl hkd hv2' hql hll hll';have hmm := @run_makeMap Tryz.prog;go_enter Tryz.func62,Tryz.ntmps62;go_wp2_with fail;clear hmm
 have hS0 : DS w (w.alloc (.map #[] 0)) w.heap.size [] [] [] := by
  refine ⟨MapIs.new w,?_,(Below.refl _ w).alloc (Nat.le_refl _) _,Nat.le_refl _⟩;unfold TKids;rfl
 obtain ⟨b,hb⟩ : ∃ b,b = w.heap.size := ⟨_,rfl⟩;have Hb := Lib.hid hb;rw [← hb] at hS0 ⊢;clear hb
 go_loopg [19] ks.length (fun g i wr => ∃ (k : Nat) (vs : List Value),i = .int .i64 k ∧ k + g = ks.length ∧ DS w wr b (ks.take k) (q.take k) vs)
 case atStart => exact ⟨0,[],rfl,by omega,hS0⟩
 case round =>
  clear hS0;obtain ⟨k,vs,rfl,hg,hS⟩ := hrel;by_cases hk : k < ks.length
  · have tk : k < ks.length := hk;have hkl : k < l.length := by have := Hkl.out;omega
    obtain ⟨bk,off,rfl,hbk,hrow⟩ := HL.out (by omega);obtain ⟨bk2,off2,rfl,hbk2,hrow2⟩ := HK.out (by omega);obtain ⟨c',hc7,hrep,hat⟩ := hkids.at_ k hkl;have hint := HI.out.at_ k hkl;have hbo := bulkL_at k hkl;have hsz := HN.out _ (List.getElem_mem hkl);have hkq : k < q.length := by have := Hql.out;omega
    have hobj := objL_at HQ.out k hkl hkq;have htk : q.take (k + 1) = q.take k ++ [q[k]] := List.take_succ_eq_append_getElem hkq;have htk2 : ks.take (k + 1) = ks.take k ++ [ks[k]] := List.take_succ_eq_append_getElem hk
    have hnew : ks[k] ∉ ks.take k := by
     have h1 := Hkd.out;rw [← List.take_append_drop k ks,List.pairwise_append] at h1;intro hm;exact h1.2.2 _ hm _ (by have h2 := List.drop_eq_getElem_cons hk;rw [h2];exact List.mem_cons_self) rfl
    obtain ⟨p,hp⟩ : ∃ p,p = q[k] := ⟨_,rfl⟩;obtain ⟨key,hkey⟩ : ∃ p,p = ks[k] := ⟨_,rfl⟩;obtain ⟨o',ho'⟩ : ∃ o',o' = l[k] := ⟨_,rfl⟩;rw [← ho'] at hrep hint hbo hsz hobj;rw [← hp] at htk hobj;rw [← hkey] at htk2 hnew;have hbo2 : bulkO o' ≤ 1048576 := by have := HB.out;omega
    have Htk := Lib.hid htk;have Htk2 := Lib.hid htk2;have Hnew := Lib.hid hnew;have hWr := HW.out.trans (hS.below.mono HW.out.size);have ckey : wr.cell? ⟨bk2,off2 + k,none⟩ = some (S key) := (hWr.cell (p := ⟨bk2,off2 + k,none⟩) hbk2).trans (hrow2 k _ (by simp [hkey,hk]));clear htk htk2 hp ho' hkey hbo hnew hrow2;have hrep2 := hrep;obtain ⟨kd',n',g',x',t',ks',l'⟩ := o';unfold ORep at hrep;obtain ⟨kv',lv',xs',rfl,hk',hl',_⟩ := hrep;obtain ⟨A',kc',rfl,_⟩ := hk';obtain ⟨A2',lc',rfl,_⟩ := hl';obtain ⟨d0,d1,d2,d3,d4,d5,d6⟩ := row7 (fun j u hj => (hWr.cell (p := ⟨bk,off + j,none⟩) hbk).trans (hrow j u hj)) hat rfl;go_wp2_with fail;refine (HFr.out _ p _ _ hsz hrep2 hint hbo2 hobj hWr).mono ?_;rintro e w2 ⟨u,rfl,hu,hB2⟩;have hS2 := hS.keep hB2;have hbl := hS.map.lt;have hwr := hS.below.size;have hu2 : TRep w2 (fun i => w.heap.size ≤ i ∧ i ≠ b) p u := TRep.mono (fun i hi _ => ⟨rfl,by omega,by omega⟩) _ _ hu;have hfin := hS2.set_ key hu2;obtain ⟨w6,hw6⟩ : ∃ w6,w6 = ChangeMaps.setBlock w2 b (.map (ents 0 (ks.take k ++ [key]) (vs ++ [u])).toArray (ks.take k ++ [key]).length) := ⟨_,rfl⟩;have Hw6 := Lib.hid hw6;rw [← hw6,← Htk.out,← Htk2.out] at hfin;clear hw6;have Hfin := Lib.hid hfin;have hmap := hS2.map;clear hu hu2 hrow hat hB2 hS d0 d1 d2 d3 d4 d5 d6 hrep2 hint hbo2 hobj hfin hS2 ckey;go_wp2_with (at_mapUpdate;(refine wpList_skip rfl (w' := w6) (by rw [Hw6.out];exact run_op_update rfl Tryz.underlying74 Tryz.underlying9 hmap Hnew.out (by simp [Act.eval,Act.put]) (by simp [Act.eval,Act.put]) (by simp [Act.eval,Act.put])) ?_))
    go_roundg (ks.length - (k + 1))
    case measure => omega
    case rel => exact ⟨k + 1,_,rfl,by omega,Hfin.out⟩
  have tk : ¬ k < ks.length := hk;have hqe : q.take k = q := List.take_of_length_le (by have := Hql.out;omega);have hke : ks.take k = ks := List.take_of_length_le (by omega);rw [hqe,hke] at hS;go_wp2_with fail;go_ret2;exact ⟨b,vs,rfl,hS.hb,hS.map,TKids.mono (fun i hi _ => ⟨rfl,hi.1⟩) _ _ hS.kids,hS.below⟩
end Go.Proofs.YtcpijmbdibgdmaaGreatDoor
namespace Go.Proofs.YtcpijmbdibgdmaaGreatDoor
open Go.RowKit
attribute [local go_sem] ba_get store_flt
def IsErr (W0 : World) (q : Addr) : Prop := ∃ cs t,W0.heap[q.block]? = some (.cells cs t (0,0))
theorem IsErr.later {W0 w : World} {q : Addr} (h : IsErr W0 q) (hW : Below W0.heap.size W0 w) : IsErr w q := by
 obtain ⟨cs,t,h⟩ := h;exact ⟨cs,t,(hW.block q.block (Array.getElem?_eq_some_iff.1 h).1).trans h⟩
def Glob (w : World) : Prop := ∀ g ∈ [0,1,2,3,4,5,6,7,8,14,15],g < w.heap.size ∧ ∃ a,w.cell? ⟨g,0,none⟩ = some (.iface 207 (.pointer (some a))) ∧ IsErr w a
theorem Glob.later {W0 w : World} (h : Glob W0) (hW : Below W0.heap.size W0 w) : ∀ g ∈ [0,1,2,3,4,5,6,7,8,14,15],g < w.heap.size ∧ ∃ a,w.cell? ⟨g,0,none⟩ = some (.iface 207 (.pointer (some a))) ∧ IsErr W0 a := fun g hg => by
 obtain ⟨h1,a,h2,h3⟩ := h g hg;exact ⟨Nat.lt_of_lt_of_le h1 hW.size,a,(hW.cell (p := ⟨g,0,none⟩) h1).trans h2,h3⟩
def IVal (v : Value) : Prop := v = .nilIface ∨ ∃ T u,v = .iface T u
end Go.Proofs.YtcpijmbdibgdmaaGreatDoor
namespace Go.Proofs.YtcpijmbdibgdmaaGreatDoor
open Go.RowKit
attribute [local go_sem] ba_get store_flt
theorem hx_v (b : UInt8) : 0 ≤ hexV b → Lib.Hx.v b = (hexV b).toNat ∧ (hexV b).toNat ≤ 15 := by
 have H : ∀ b : Fin 256,0 ≤ hexV (UInt8.ofNat b.val) → Lib.Hx.v (UInt8.ofNat b.val) = (hexV (UInt8.ofNat b.val)).toNat ∧ (hexV (UInt8.ofNat b.val)).toNat ≤ 15 := by decide +kernel
 have := H ⟨b.toNat,b.toNat_lt⟩;simpa using this
theorem hx_two {x y : UInt8} (hx : 0 ≤ hexV x) (hy : 0 ≤ hexV y) : Lib.Hx.decode [x,y] = ([UInt8.ofNat (16 * hexV x + hexV y).toNat],.ok) := by
 obtain ⟨h1,h2⟩ := hx_v x hx;obtain ⟨h3,h4⟩ := hx_v y hy;rw [Lib.Hx.decode_two,if_neg (by omega),if_neg (by omega),Lib.Hx.decode_nil,h1,h3];simp only;congr 3;omega
theorem hexd_two (x y : UInt8) (hx : 0 ≤ hexV x) (hy : 0 ≤ hexV y) (ev : Value) (w : World) (hE : w.cell? ⟨18,0,none⟩ = some ev) : Calls Tryz.prog 125 #[S [x,y]] w fun e w' =>
 e = .returned (.tuple #[.slice (some ⟨w.heap.size,0,none⟩) 1 1,.nilIface]) ∧ w'.cell? ⟨w.heap.size,0,none⟩ = some (.int .u8 (16 * hexV x + hexV y)) ∧ w.heap.size < w'.heap.size ∧ Below w.heap.size w w' := by
 have hd : Lib.Hx.decode (ByteArray.mk [x,y].toArray).data.toList = ([UInt8.ofNat (16 * hexV x + hexV y).toNat],.ok) := hx_two hx hy;have h := Tryz.hex_DecodeString ⟨[x,y].toArray⟩ w ev hE (by show 2 ≤ 281474976710656;omega);rw [hd] at h;refine h.mono ?_;rintro e w' ⟨rfl,hrow,hb⟩;have hc := World.rowIs.cell hrow (i := 0) (show 0 < 2 / 2 by omega);have h2 := (hx_v x hx).2;have h4 := (hx_v y hy).2;have hs : (ByteArray.mk [x,y].toArray).size = 2 := rfl;refine ⟨by rw [hs];rfl,?_,?_,hb⟩
 · rw [hc];simp only [Lib.Hx.rowP];rw [if_pos (by simp)];simp only [Nat.sub_zero,List.getElem?_cons_zero,Option.getD_some];congr 2;rw [UInt8.toNat_ofNat'];omega
 rcases Nat.lt_or_ge w.heap.size w'.heap.size with h | h
 · exact h
 obtain ⟨c,h1,_⟩ := hrow;rw [Array.getElem?_eq_none h] at h1;cases h1
theorem copyCheck_over (B b : Nat) (bs : List Value) (w0 w : World) (h0 : Lib.IsBuilder 195 5 B b bs w0) (hw : Below w0.heap.size w0 w) :
 Calls Tryz.prog 166 #[.pointer (some ⟨b,0,none⟩)] w fun e w' => e = .returned (.tuple #[]) ∧ B ≤ b ∧ (∃ v,w'.heap[b]? = some (.cells #[.pointer (some ⟨b,0,none⟩),v] 195 (0,0)) ∧ w'.ownsRow B 5 1 v bs.length bs ∧ v.ownBlock ≠ some b ∧ b < w0.heap.size ∧ ∀ k,v.ownBlock = some k → k < w0.heap.size) ∧ Below B w w' ∧
  ∀ i,w0.heap.size ≤ i → i < w.heap.size → w'.heap[i]? = w.heap[i]? := by
 obtain ⟨p,hp,hB,v,hbk,hown,hne⟩ : ∃ p,(p = .pointer none ∨ p = .pointer (some ⟨b,0,none⟩)) ∧ Lib.BuilderAt 195 5 B b p bs w0 := by
  rcases h0 with h | h
  · exact ⟨_,.inl rfl,h⟩
  exact ⟨_,.inr rfl,h⟩
 have hlt : b < w0.heap.size := by
  rcases Nat.lt_or_ge b w0.heap.size with h' | h'
  · exact h'
  simp [Array.getElem?_eq_none h'] at hbk
 have hbk2 : w.heap[b]? = some (.cells #[p,v] 195 (0,0)) := (hw.block b hlt).trans hbk
 have hown2 : w.ownsRow B 5 1 v bs.length bs := by
  refine World.ownsRow.kept (row := none) hown ⟨hw.os,hw.tape,hw.output,hw.size,fun k hk _ => hw.block k hk⟩ ?_;rcases v.ownBlock with _ | k
  · exact .inl rfl
  right;simp
 have hvl := fun k hk => (World.ownsRow.lt hown k hk).2
 rcases hp with rfl | rfl
 · refine (copyCheck_fresh b w (by simp [World.cell?,hbk2]) (by simp [World.shape?,hbk2]) (by simp [World.frozen?,hbk2])).mono ?_;rintro e w' ⟨rfl,rfl⟩;obtain ⟨_,v',hb',ho',hn'⟩ := Lib.BuilderAt.used (T := 195) (e := 5) (B := B) (b := b) (p := .pointer none) (bs := bs) (w := w) ⟨hB,v,hbk2,hown2,hne⟩ (.pointer (some ⟨b,0,none⟩))
   have e1 : v' = v := by
    have : (w.setCell ⟨b,0,none⟩ (.pointer (some ⟨b,0,none⟩))).heap[b]? = some (.cells #[.pointer (some ⟨b,0,none⟩),v] 195 (0,0)) := by simp [World.setCell,Array.getElem?_modify,hbk2]
    rw [this] at hb';simp at hb';exact hb'.symm
   subst e1;exact ⟨rfl,hB,⟨v',hb',ho',hn',hlt,hvl⟩,(Below.refl B w).setCell (p := ⟨b,0,none⟩) hB _,fun i hi _ => Below.heap_setCell _ _ _ _ (by simp only;omega)⟩
 · refine (copyCheck_used b w (by simp [World.cell?,hbk2])).mono ?_;rintro e w' ⟨rfl,rfl⟩;exact ⟨rfl,hB,⟨v,hbk2,hown2,hne,hlt,hvl⟩,Below.refl B _,fun i _ _ => rfl⟩
theorem writeString_over (B b : Nat) (bs : List Value) (s : ByteArray) (w0 w : World) (h0 : Lib.IsBuilder 195 5 B b bs w0) (hw : Below w0.heap.size w0 w) (hlen : bs.length + s.size ≤ 140737488355328) (hBw : B ≤ w.heap.size) :
 Calls Tryz.prog 126 #[.pointer (some ⟨b,0,none⟩),.string s] w fun e w' => e = .returned (.tuple #[.int .i64 s.size,.nilIface]) ∧ (Lib.BuilderAt 195 5 B b (.pointer (some ⟨b,0,none⟩)) (bs ++ Lib.strCells s) w' ∧ Below B w w' ∧ ∀ i,w0.heap.size ≤ i → i < w.heap.size → w'.heap[i]? = w.heap[i]?) := by
 obtain ⟨i0,hi,hz0,hz1,hz2⟩ := info_parts Tryz.info5;have hcc := copyCheck_over B b bs w0 w h0 hw;go_enter Tryz.func126,Tryz.ntmps126;go_wp2_with (go_at_call 166;refine hcc.mono ?_);rintro e w1 ⟨rfl,hB,⟨v,hbk,hown,hne,hbl,hvl⟩,hb1,hk1⟩;have c0 : w1.cell? ⟨b,0,none⟩ = some (.pointer (some ⟨b,0,none⟩)) := by rw [Lib.cell_of_heap hbk];rfl
 have c1 : w1.cell? ⟨b,1,none⟩ = some v := by rw [Lib.cell_of_heap hbk];rfl
 go_wp2_with (at_builtin;refine Lib.wpList_append_own_string _ rfl _ _ 40 9 rfl B 5 i0 Tryz.underlying40 Tryz.underlying9 hi hz0 hz1 hz2 _ _ _ rfl hown s rfl ?c3 ?c4 ?c5 ?_)
 case c3 => unfold maxLen;omega
 case c4 => omega
 case c5 => have := hb1.size;omega
 intro v' w2 hown' hgrow _
 have hlt : b < w1.heap.size := by
  rcases Nat.lt_or_ge b w1.heap.size with h' | h'
  · exact h'
  simp [Array.getElem?_eq_none h'] at hbk
 have hb2 : w2.heap[b]? = some (.cells #[.pointer (some ⟨b,0,none⟩),v] 195 (0,0)) := by
  rw [hgrow.block b hlt (fun e => hne e.symm)];exact hbk
 have d0 : w2.cell? ⟨b,0,none⟩ = some (.pointer (some ⟨b,0,none⟩)) := by rw [Lib.cell_of_heap hb2];rfl
 have d1 : w2.cell? ⟨b,1,none⟩ = some v := by rw [Lib.cell_of_heap hb2];rfl
 have f1 : w2.frozen? ⟨b,1,none⟩ = false := Lib.frozen_of_heap hb2 1
 obtain ⟨ao,n',cap,rfl⟩ : ∃ ao n' cap,v' = .slice ao n' cap := by
  rcases hown'.2 with ⟨hv,_⟩ | ⟨g,cap,cur,hv,_⟩
  · exact ⟨_,_,_,hv⟩
  exact ⟨_,_,_,hv⟩
 go_wp2;go_ret2;refine ⟨rfl,?_,?_,?_⟩
 · exact Lib.BuilderAt.put (T := 195) (e := 5) hB hb2 (bs' := bs ++ Lib.strCells s) (by simpa [Lib.strCells_length] using hown') (by decide)
 · exact (hb1.grown hgrow (by have := hb1.size;omega) (fun k hk => (hown.lt k hk).1)).setCell (p := ⟨b,1,none⟩) hB _
 · intro i hi hiw;have h1 := hk1 i hi hiw;have hiw1 : i < w1.heap.size := by have := hb1.size;omega
   exact (Below.heap_setCell _ _ _ _ (by simp only;omega)).trans ((hgrow.block i hiw1 (fun e => by have := hvl i e.symm;omega)).trans h1)
theorem byteCells_snoc (bs : List UInt8) (b : UInt8) : Lib.byteCells (bs ++ [b]) = Lib.byteCells bs ++ [.int .u8 ((b.toNat : Nat) : Int)] := by simp [Lib.byteCells]
theorem isB_snoc {B b : Nat} {bs : List UInt8} {c : UInt8} {w : World} (h : Lib.BuilderAt 195 5 B b (.pointer (some ⟨b,0,none⟩)) (Lib.byteCells bs ++ [.int .u8 ((c.toNat : Nat) : Int)]) w) : Lib.IsBuilder 195 5 B b (Lib.byteCells (bs ++ [c])) w := .inr (by rw [byteCells_snoc];exact h)
theorem nbM_35 {b : UInt8} {l : List UInt8} (h : b.toNat = 35) (hn : (nbM (b :: l)).isSome = true) : ∃ x y l',l = x :: y :: l' ∧ 0 ≤ hexV x ∧ 0 ≤ hexV y ∧ 16 * hexV x + hexV y ≠ 0 ∧ (nbM l').isSome = true := by
 by_cases hl : l.length < 2
 · rw [nbM_short h hl] at hn;cases hn
 rcases l with _ | ⟨x,_ | ⟨y,l'⟩⟩
 · simp at hl
 · simp at hl
 rw [nbM_two h] at hn;split at hn
 · cases hn
 rename_i hc;exact ⟨x,y,l',rfl,by omega,by omega,by omega,by simpa using hn⟩
theorem isB_below {B b : Nat} {bs : List Value} {w0 w : World} (h0 : Lib.IsBuilder 195 5 B b bs w0) (hw : Below w0.heap.size w0 w) : Lib.IsBuilder 195 5 B b bs w := by
 have key : ∀ p,Lib.BuilderAt 195 5 B b p bs w0 → Lib.BuilderAt 195 5 B b p bs w := fun p ⟨hB,v,hbk,hown,hne⟩ => by
  have hlt : b < w0.heap.size := by
   rcases Nat.lt_or_ge b w0.heap.size with h' | h'
   · exact h'
   simp [Array.getElem?_eq_none h'] at hbk
  refine ⟨hB,v,(hw.block b hlt).trans hbk,?_,hne⟩;refine World.ownsRow.kept (row := none) hown ⟨hw.os,hw.tape,hw.output,hw.size,fun k hk _ => hw.block k hk⟩ ?_;rcases v.ownBlock with _ | k
  · exact .inl rfl
  right;simp
 rcases h0 with h | h
 · exact .inl (key _ h)
 exact .inr (key _ h)
theorem decName_any (s : List UInt8) (ev : Value) (w : World) (hs : s.length ≤ 1048576) (h18 : 18 < w.heap.size) (hE : w.cell? ⟨18,0,none⟩ = some ev) (hn : (nbM s).isSome = true) (hp : ∀ b ∈ s,b.toNat ≠ 0) :
 Calls Tryz.prog 103 #[S s] w fun e w' => (∃ x : List UInt8,e = .returned (.tuple #[S x,.nilIface])) ∧ Below w.heap.size w w' := by
 go_enter Tryz.func103,Tryz.ntmps103;go_wp2_with fail
 go_loopg [4,6] s.length (fun g s4 s6 wr => ∃ (rp : Bool) (i : Nat) (bs : List UInt8),s4 = .bool rp ∧ s6 = .int .i64 i ∧ i + g = s.length ∧ bs.length ≤ i ∧ (rp = true ∨ bs = []) ∧ Below w.heap.size w wr ∧ Lib.IsBuilder 195 5 w.heap.size w.heap.size (Lib.byteCells bs) wr ∧ Hid ((nbM (s.drop i)).isSome = true))
 case atStart => exact ⟨false,0,[],rfl,rfl,by omega,Nat.le_refl _,.inr rfl,(Below.refl _ w).alloc (Nat.le_refl _) _,Lib.fresh_isBuilder 195 5 w,Lib.hid hn⟩
 case round =>
  obtain ⟨rp,i,bs,rfl,rfl,hg,hbl,hrp,hB,hIB,H⟩ := hrel;have hib : i ≤ 1048576 := by omega
  have Hg := Lib.hid hg;have Hrp := Lib.hid hrp;clear hg hrp;by_cases hi : i < s.length
  · have ti : decide ((i : Int) < (s.length : Int)) = true := by rw [decide_eq_true_eq];omega
    have e1 : s.drop i = s[i] :: s.drop (i + 1) := List.drop_eq_getElem_cons hi;have hz : s[i].toNat ≠ 0 := hp _ (List.getElem_mem hi);have tz : (((s[i].toNat : Nat) : Int) == 0) = false := by rw [beq_eq_false_iff_ne];omega
    by_cases h35 : s[i].toNat = 35
    · have t35 : (((s[i].toNat : Nat) : Int) == 35) = true := by rw [beq_iff_eq];omega
      have t35' : (((s[i].toNat : Nat) : Int) != 35) = false := by rw [bne_eq_false_iff_eq];omega
      obtain ⟨x,y,l',hl,hx,hy,hxy,hnx⟩ := nbM_35 h35 (by have := H.out;rw [e1] at this;exact this);have hll := congrArg List.length hl;rw [List.length_drop] at hll;simp only [List.length_cons] at hll;have hxr := hexV_rng x;have hyr := hexV_rng y
      have hl3 : s.drop (i + 3) = l' := by
       have := congrArg (List.drop 2) hl;rw [List.drop_drop] at this;simpa [Nat.add_assoc] using this
      have hex : (ByteArray.mk s.toArray).extract (i + 1) (i + 3) = ⟨[x,y].toArray⟩ := by
       rw [ByteArray.extract_mk,hl,show i + 3 - (i + 1) = 2 by omega];rfl
      have t3 : decide ((s.length : Int) < (i : Int) + 3) = false := by rw [decide_eq_false_iff_not];omega
      have i3 : (i : Int) + 3 ≤ (s.length : Int) := by omega
      have txy : ((16 * hexV x + hexV y : Int) == 0) = false := by rw [beq_eq_false_iff_ne];exact hxy
      have hEr : wr.cell? ⟨18,0,none⟩ = some ev := (hB.cell (p := ⟨18,0,none⟩) h18).trans hE;obtain ⟨c,hcv⟩ : ∃ c : UInt8,((c.toNat : Nat) : Int) = 16 * hexV x + hexV y := ⟨UInt8.ofNat (16 * hexV x + hexV y).toNat,by rw [UInt8.toNat_ofNat'];omega⟩;have Hnx := Lib.hid (show (nbM (s.drop (i + 3))).isSome = true by rw [hl3];exact hnx);have Hcv := Lib.hid hcv;have Hhx := Lib.hid (And.intro hx hy);have Hh35 := Lib.hid h35;have Hp := Lib.hid hp;clear hnx hl3 hl hcv hx hy h35 hp e1 hn hxy hll;have hd2 := hexd_two x y Hhx.out.1 Hhx.out.2 ev wr hEr
      cases rp with
      | false =>
        go_wp2_with fail;rw [hex];refine hd2.mono ?_;rintro e w2 ⟨rfl,hc0,hlt2,hb2⟩;go_wp2_with fail;have hbs : bs = [] := by rcases Hrp.out with h | h;cases h;exact h
        refine (writeString_over w.heap.size w.heap.size (Lib.byteCells bs) _ wr w2 hIB hb2 (by rw [Lib.byteCells_length,ByteArray.extract_mk];show _ + List.length _ ≤ _;rw [List.length_take];omega) (Nat.le_trans hB.size hb2.size)).mono ?_;rintro e w3 ⟨rfl,hA3,hb3,hk3⟩;have hc3 : w3.cell? ⟨wr.heap.size,0,none⟩ = some (.int .u8 (16 * hexV x + hexV y)) := (World.cell?_of_block (w := w2) (hk3 _ (Nat.le_refl _) hlt2)).trans hc0
        have hwb : w.heap.size < wr.heap.size := by
         rcases hIB with h | h
         · exact Lib.BuilderAt.lt h
         exact Lib.BuilderAt.lt h
        go_wp2_with fail;refine (write_one w.heap.size w.heap.size _ wr.heap.size 1 (16 * hexV x + hexV y) w3 (.inr hA3) (by simp only [List.length_append,Lib.byteCells_length,Lib.strCells_length,ByteArray.extract_mk];show _ + List.length _ + _ ≤ _;rw [List.length_take];omega) (by have := hb3.size;have := hb2.size;have := hB.size;omega) hc3 (by omega)).mono ?_;rintro e w4 ⟨rfl,hA4,hb4⟩;go_wp2_with fail
        go_roundg (s.length - (i + 3))
        case measure => have := Hg.out;omega
        case rel =>
         refine ⟨true,i + 3,s.take i ++ [c],rfl,by go_num,by have := Hg.out;omega,by simp;omega,.inl rfl,hB.trans ((hb2.mono hB.size).trans (hb3.trans hb4)),isB_snoc ?_,Hnx⟩;rw [Hcv.out]
         have e5 : Lib.byteCells bs ++ Lib.strCells ((ByteArray.mk s.toArray).extract 0 i) = Lib.byteCells (s.take i) := by
          rw [hbs,ByteArray.extract_mk,Lib.strCells_eq];simp [Lib.byteCells]
         rw [← e5];exact hA4
      | true =>
        go_wp2_with fail;refine hd2.mono ?_;rintro e w2 ⟨rfl,hc0,hlt2,hb2⟩
        have hwb : w.heap.size < wr.heap.size := by
         rcases hIB with h | h
         · exact Lib.BuilderAt.lt h
         exact Lib.BuilderAt.lt h
        go_wp2_with fail;refine (write_one w.heap.size w.heap.size (Lib.byteCells bs) wr.heap.size 1 (16 * hexV x + hexV y) w2 (isB_below hIB hb2) (by rw [Lib.byteCells_length];omega) (Nat.le_trans hB.size hb2.size) hc0 (by omega)).mono ?_;rintro e w4 ⟨rfl,hA4,hb4⟩;go_wp2_with fail
        go_roundg (s.length - (i + 3))
        case measure => have := Hg.out;omega
        case rel => exact ⟨true,i + 3,bs ++ [c],rfl,by go_num,by have := Hg.out;omega,by simp;omega,.inl rfl,hB.trans ((hb2.mono hB.size).trans hb4),isB_snoc (by rw [Hcv.out];exact hA4),Hnx⟩
    have t35 : (((s[i].toNat : Nat) : Int) == 35) = false := by rw [beq_eq_false_iff_ne];omega
    have t35' : (((s[i].toNat : Nat) : Int) != 35) = true := by rw [bne_iff_ne];omega
    have hnx : (nbM (s.drop (i + 1))).isSome = true := by
     have := H.out;rw [e1,nbM_plain h35] at this;simpa using this
    have Hnx := Lib.hid hnx;have H35 := Lib.hid h35;have Hp := Lib.hid hp;clear hnx h35 hp e1 hn
    cases rp with
    | false =>
      go_wp2_with fail
      go_roundg (s.length - (i + 1))
      case measure => have := Hg.out;omega
      case rel => exact ⟨false,i + 1,bs,rfl,by go_num,by have := Hg.out;omega,by omega,Hrp.out,hB,hIB,Hnx⟩
    | true =>
      go_wp2_with (go_at_call 124;refine (writeByte_any w.heap.size w.heap.size (Lib.byteCells bs) ((s[i].toNat : Nat) : Int) _ hIB (by rw [Lib.byteCells_length];omega) hB.size).mono ?_;rintro e w2 ⟨rfl,h2,h3⟩)
      go_roundg (s.length - (i + 1))
      case measure => have := Hg.out;omega
      case rel => exact ⟨true,i + 1,bs ++ [s[i]],rfl,by go_num,by have := Hg.out;omega,by simp;omega,.inl rfl,hB.trans h3,isB_snoc h2,Hnx⟩
  have ti : decide ((i : Int) < (s.length : Int)) = false := by rw [decide_eq_false_iff_not];omega
  cases rp with
  | false =>
    go_wp2_with fail;refine bodyPost_ret (v := .tuple #[S s,.nilIface]) (by simp [results,Tryz.results103,go_sem]) rfl ?_;exact ⟨⟨_,rfl⟩,hB⟩
  | true =>
    go_wp2_with (go_at_call 128;refine (Tryz.Builder_String_any w.heap.size w.heap.size bs _ hIB hB.size).mono ?_;rintro e w2 ⟨rfl,h3⟩);refine bodyPost_ret (v := .tuple #[S bs,.nilIface]) (by simp [results,Tryz.results103,go_sem]) rfl ?_;exact ⟨⟨_,rfl⟩,hB.trans h3⟩
end Go.Proofs.YtcpijmbdibgdmaaGreatDoor
namespace Go.Proofs.YtcpijmbdibgdmaaGreatDoor
open Go.RowKit
attribute [local go_sem] ba_get store_flt
theorem run_op_lookup_none {P : Program} {w : World} {b : Nat} {ks : List (List UInt8)} {vs : List Value} {T K E : TypeId} {o : Oper} {a : Act} {m x : Operand} (ho : o.op = .lookup T m x true) (hT : P.underlying T = some (.map K E)) (hK : P.underlying K = some .string) {z : Value} (hz : ∀ w,(zeroValue E).run P w = .ok z w) (h : MapIs w b ks vs) {k : List UInt8} (hk : k ∉ ks) (em : a.eval m = .map (some b)) (ex : a.eval x = .string ⟨k.toArray⟩) :
 (execOp a.eval o).run P w = .ok (.value (.tuple #[z,.bool false])) w := by
 have hr := run_lookup_none (P := P) hT hK hz h hk;unfold execOp;simp only [ho,em,ex,Sem.run_bind,Sem.run_pure,hr,Result.andThen_ok]
theorem run_op_range2 {P : Program} {w : World} {b : Nat} {ks : List (List UInt8)} {vs : List Value} {T K E : TypeId} {o : Oper} {a : Act} {m : Operand} (ho : o.op = .range T m) (hT : P.underlying T = some (.map K E)) (h : MapIs w b ks vs) (em : a.eval m = .map (some b)) :
 (execOp a.eval o).run P w = .ok (.value (.pointer (some ⟨w.heap.size,0,none⟩))) (w.alloc (.mapIter (some b) ks.length #[] ks.length)) := by
 have hr := run_range_map (P := P) hT h;unfold execOp;simp only [ho,em,Sem.run_bind,Sem.run_pure,hr,Result.andThen_ok]
theorem run_op_next2 {P : Program} {w w' : World} {r : Nat} {v : Value} {o : Oper} {a : Act} {m : Operand} (ho : o.op = .next m false) (em : a.eval m = .pointer (some ⟨r,0,none⟩)) (hr : (Instr.next (.pointer (some ⟨r,0,none⟩)) false o.type).run P w = .ok v w') :
 (execOp a.eval o).run P w = .ok (.value v) w' := by
 unfold execOp;simp only [ho,em,Sem.run_bind,Sem.run_pure,hr,Result.andThen_ok]
theorem nodup_lt2 : ∀ (n : Nat) (l : List Nat),l.Nodup → (∀ i ∈ l,i < n) → l.length ≤ n
 | 0,l,_,h => by
   cases l with
   | nil => simp
   | cons a l => exact absurd (h a (by simp)) (by omega)
 | n + 1,l,hn,h => by
   have h1 := nodup_lt2 n (l.erase n) (hn.erase n) (fun i hi => by
    have h2 := h i (List.mem_of_mem_erase hi)
    have h3 : i ≠ n := fun e => by subst e;exact (hn.not_mem_erase) hi
    omega)
   have h4 := List.length_erase (a := n) (l := l);split at h4 <;> omega
structure FRg (w wr : World) (mb n : Nat) (seen : List Nat) : Prop where
 it : RangeIs wr w.heap.size mb n seen
 below : Below w.heap.size w wr
theorem FRg.shown {w w1 wr : World} {mb n j : Nat} {seen : List Nat} (h : FRg w wr mb n seen) (hw : w1 = wr ∨ w1 = wr.drew) :
 FRg w (ChangeMaps.setBlock w1 w.heap.size (.mapIter (some mb) n (seen ++ [j]).toArray n)) mb n (seen ++ [j]) := by
 have h1 : FRg w w1 mb n seen := by
  rcases hw with rfl | rfl
  · exact h
  exact ⟨h.it,⟨h.below.os,h.below.tape,h.below.output,h.below.size,h.below.block⟩⟩
 have hg := grown_setBlock w1 w.heap.size (.mapIter (some mb) n (seen ++ [j]).toArray n);refine ⟨?_,only_new hg (Nat.le_refl _) h1.below⟩;unfold RangeIs ChangeMaps.setBlock;have := h1.it.lt;simp [this]
theorem FRg.keep {w wr w' : World} {mb n : Nat} {seen : List Nat} (h : FRg w wr mb n seen) (hB : Below wr.heap.size wr w') : FRg w w' mb n seen :=
 ⟨h.it.keep (hB.block _ h.it.lt),h.below.trans (hB.mono h.below.size)⟩
theorem z63 : ∀ w,(zeroValue 63).run Tryz.prog w = .ok .nilIface w := fun w => by kernel_rfl
def EV18 (W0 : World) : Prop := 18 < W0.heap.size ∧ ∃ ev,W0.cell? ⟨18,0,none⟩ = some ev
def FindPost (w : World) (e : Ending) (w' : World) : Prop := (∃ v f,e = .returned (.tuple #[v,.bool f]) ∧ IVal v) ∧ Below w.heap.size w w'
def InsPost (w : World) (b : Nat) (ks : List (List UInt8)) (vs : List Value) (k : List UInt8) (v : Value) (e : Ending) (w' : World) : Prop := (∃ f,e = .returned (.bool f)) ∧ Only w w' b ∧ (MapIs w' b ks vs ∨ MapIs w' b (ks ++ [k]) (vs ++ [v]))
theorem find_any (W0 : World) (hE : EV18 W0) (b : Nat) (ks : List (List UInt8)) (vs : List Value) (k : List UInt8) (w : World) (hW : Below W0.heap.size W0 w) (hm : MapIs w b ks vs) (hk : k ∉ ks) (hks : ∀ x ∈ ks,x.length ≤ 100 ∧ (nbM x).isSome = true ∧ ∀ b ∈ x,b.toNat ≠ 0) (hvs : ∀ v ∈ vs,∃ T u,v = .iface T u) (hn : ks.length ≤ 100) :
 Calls Tryz.prog 86 #[.map (some b),S k] w (FindPost w) := by
 obtain ⟨h18,ev,hev⟩ := hE;have HW := Lib.hid hW;have Hev := Lib.hid hev;have Hk := Lib.hid hk;have Hks := Lib.hid hks;have Hvs := Lib.hid hvs;have hm0 := hm;have Hm := Lib.hid hm;clear hW hev hk hks hvs hm;go_enter Tryz.func86,Tryz.ntmps86
 go_wp2_with (first
  | (at_lookup;refine wpList_run _ rfl (run_op_lookup_none rfl Tryz.underlying74 Tryz.underlying9 z63 hm0 Hk.out (by simp [Act.eval,Act.put]) (by simp [Act.eval,Act.put])) ?_;go_simp)
  | (at_range;refine wpList_run _ rfl (run_op_range2 rfl Tryz.underlying74 hm0 (by simp [Act.eval,Act.put])) ?_;go_simp))
 go_loopg [] ks.length (fun g wr => ∃ (seen : List Nat),FRg w wr b ks.length seen ∧ Hid (seen.Nodup ∧ (∀ i ∈ seen,i < ks.length)) ∧ seen.length + g = ks.length)
 case atStart => exact ⟨[],⟨heap_alloc_new _ _,(Below.refl _ w).alloc (Nat.le_refl _) _⟩,Lib.hid ⟨List.nodup_nil,fun i h => by simp at h⟩,by simp⟩
 case round =>
  obtain ⟨seen,hK,Hs,hg⟩ := hrel;have hmr := hm0.below hK.below hm0.lt;rcases run_next_map' (P := Tryz.prog) hmr hK.it _ with ⟨hall,hrun⟩ | ⟨j,hj,hv,w1,hnj,hw1,hrun⟩
  · clear hall;go_wp2_with (at_next;refine wpList_run _ rfl (run_op_next2 rfl (by simp [Act.eval,Act.put]) hrun) ?_);refine bodyPost_ret (v := .tuple #[.nilIface,.bool false]) (by simp [results,Tryz.results86,go_sem]) rfl ?_;exact ⟨⟨.nilIface,false,rfl,Or.inl rfl⟩,hK.below⟩
  have hsl : seen.length < ks.length := by
   have h1 : (j :: seen).Nodup := List.nodup_cons.2 ⟨hnj,Hs.out.1⟩
   have h2 : ∀ i ∈ j :: seen,i < ks.length := fun i hi => by
    rcases List.mem_cons.1 hi with rfl | hi
    · exact hj
    exact Hs.out.2 i hi
   have h3 := nodup_lt2 ks.length (j :: seen) h1 h2;rw [List.length_cons] at h3;omega
  have hK2 := hK.shown (j := j) hw1;have hent := run_entry_map (P := Tryz.prog) (hm0.below hK2.below hm0.lt) hK2.it hj hv
  have Hsn : Hid ((seen ++ [j]).Nodup ∧ (∀ i ∈ seen ++ [j],i < ks.length)) := Lib.hid ⟨List.nodup_append.2 ⟨Hs.out.1,by simp,fun a ha b hb => by rw [List.mem_singleton] at hb;subst hb;exact fun e => hnj (e ▸ ha)⟩,fun i hi => by
   rcases List.mem_append.1 hi with hi | hi
   · exact Hs.out.2 i hi
   · rw [List.mem_singleton] at hi;subst hi;exact hj⟩
  have hkj := Hks.out _ (List.getElem_mem hj);obtain ⟨T,u,hu⟩ := Hvs.out _ (List.getElem_mem hv);rw [hu] at hrun hent;have h18w : 18 < w.heap.size := Nat.lt_of_lt_of_le h18 HW.out.size;have hevw : w.cell? ⟨18,0,none⟩ = some ev := (HW.out.cell (p := ⟨18,0,none⟩) h18).trans Hev.out;have hdec := fun (w2 : World) (hB : Below w.heap.size w w2) => decName_any ks[j] ev w2 (by omega) (Nat.lt_of_lt_of_le h18w hB.size) ((hB.cell (p := ⟨18,0,none⟩) h18w).trans hevw) hkj.2.1 hkj.2.2
  obtain ⟨key,hkey⟩ : ∃ key,key = ks[j] := ⟨_,rfl⟩;rw [← hkey] at hrun hent hdec;have Hdec := Lib.hid (hdec _ hK2.below);clear hdec hkey hkj hevw hu;go_wp2_with (at_next;refine wpList_run _ rfl (run_op_next2 rfl (by simp [Act.eval,Act.put]) hrun) ?_);refine Hdec.out.mono ?_;rintro e w3 ⟨⟨x,rfl⟩,hB3⟩;have hK3 := hK2.keep hB3;clear hB3 hrun hent Hdec hK hmr;by_cases hx : x = k
  · have tx : ((⟨x.toArray⟩ : ByteArray) == ⟨k.toArray⟩) = true := by rw [str_beq,hx];simp
    have tx2 : (x == k) = true := by simp [hx]
    go_wp2_with fail;refine bodyPost_ret (v := .tuple #[.iface T u,.bool true]) (by simp [results,Tryz.results86,go_sem]) rfl ?_;exact ⟨⟨.iface T u,true,rfl,Or.inr ⟨_,_,rfl⟩⟩,hK3.below⟩
  have tx : ((⟨x.toArray⟩ : ByteArray) == ⟨k.toArray⟩) = false := by rw [str_beq];simp [hx]
  have tx2 : (x == k) = false := by simp [hx]
  go_wp2_with fail
  go_roundg (ks.length - (seen.length + 1))
  case measure => omega
  case rel => exact ⟨seen ++ [j],hK3,Hsn,by rw [List.length_append,List.length_singleton];omega⟩
theorem insert_any (W0 : World) (hE : EV18 W0) (b : Nat) (ks : List (List UInt8)) (vs : List Value) (k : List UInt8) (T : TypeId) (u : Value) (w : World) (hW : Below W0.heap.size W0 w) (hm : MapIs w b ks vs) (hk : k ∉ ks) (hks : ∀ x ∈ ks,x.length ≤ 100 ∧ (nbM x).isSome = true ∧ ∀ b ∈ x,b.toNat ≠ 0) (hvs : ∀ v ∈ vs,∃ T u,v = .iface T u) (hn : ks.length ≤ 100) :
 Calls Tryz.prog 65 #[.map (some b),S k,.iface T u] w (InsPost w b ks vs k (.iface T u)) := by
 have Hfind := Lib.hid (find_any W0 hE b ks vs k w hW hm hk hks hvs hn);have hm0 := hm;have Hk := Lib.hid hk;clear hk hks hvs hn hW hm hE;go_enter Tryz.func65,Tryz.ntmps65;go_wp2_with fail;refine Hfind.out.mono ?_;rintro e w2 ⟨⟨v,f,rfl,hv⟩,hB⟩;have hm2 := hm0.below hB hm0.lt;rcases hv with rfl | ⟨T1,u1,rfl⟩
 all_goals
  cases f with
  | true =>
    go_wp2_with fail;go_ret;exact ⟨⟨false,rfl⟩,only_of_below hB,.inl hm2⟩
  | false =>
    obtain ⟨w6,hw6⟩ : ∃ w6,w6 = ChangeMaps.setBlock w2 b (.map (ents 0 (ks ++ [k]) (vs ++ [.iface T u])).toArray (ks ++ [k]).length) := ⟨_,rfl⟩;have Hw6 := Lib.hid hw6;clear hw6;go_wp2_with (at_mapUpdate;(refine wpList_skip rfl (w' := w6) (by rw [Hw6.out];exact run_op_update rfl Tryz.underlying74 Tryz.underlying9 hm2 Hk.out (by simp [Act.eval,Act.put]) (by simp [Act.eval,Act.put]) (by simp [Act.eval,Act.put])) ?_));go_ret;rw [Hw6.out];exact ⟨⟨true,rfl⟩,only_trans (only_of_below hB) (grown_setBlock _ _ _),.inr (hm2.set_ _ _)⟩
theorem newdict_any (w : World) : Calls Tryz.prog 64 #[] w fun e w' => e = .returned (.map (some w.heap.size)) ∧ w' = w.alloc (.map #[] 0) := by
 have hmm := @run_makeMap Tryz.prog;go_enter Tryz.func64,Tryz.ntmps64;go_wp2_with fail;go_ret;exact ⟨rfl,rfl⟩
def OsdPost (w : World) (e : Ending) (w' : World) : Prop := ∃ (q : Nat) (dm pl : Value),e = .returned (.pointer (some ⟨q,0,none⟩)) ∧ w.heap.size ≤ q ∧ (∃ b,dm = .map (some b)) ∧ (∃ p a c,pl = .slice p a c) ∧ Blk w' q 82 #[dm,.int .i64 0,.pointer none,.pointer none,pl,.slice none 0 0,.slice none 0 0,.bool false,.int .i64 0,.slice none 0 0,.int .i64 0,.int .i64 0,.int .i64 0,.slice none 0 0] ∧ Below w.heap.size w w'
def osC (dm pl cv pv : Value) (cnt first : Int) : Array Value := #[dm,.int .i64 0,.pointer none,.pointer none,pl,.slice none 0 0,cv,.bool false,.int .i64 0,pv,.int .i64 cnt,.int .i64 first,.int .i64 0,.slice none 0 0]
def sdC (dm pl : Value) : Array Value := #[dm,.int .i64 0,.pointer none,.pointer none,pl,.slice none 0 0,.slice none 0 0,.bool false,.int .i64 0]
theorem newosd_any (W0 : World) (hE : EV18 W0) (w : World) (hW : Below W0.heap.size W0 w) :
 Calls Tryz.prog 30 #[] w (OsdPost w) := by
 have Hins := Lib.hid (insert_any W0 hE);have HW := Lib.hid hW;clear hW hE;go_enter Tryz.func30,Tryz.ntmps30;go_wp2_with fail;refine (newdict_any _).mono ?_;rintro e w1 ⟨rfl,rfl⟩;go_wp2_with fail;obtain ⟨b,hb⟩ : ∃ b,b = w.heap.size := ⟨_,rfl⟩;have hB1 : Below w.heap.size w ((w.alloc (.map #[] 0)).alloc (.cells (sdC (.map (some w.heap.size)) (.slice none 0 0)) 78)) := ((Below.refl _ w).alloc (Nat.le_refl _) _).alloc (by simp) _;have hm1 : MapIs ((w.alloc (.map #[] 0)).alloc (.cells (sdC (.map (some w.heap.size)) (.slice none 0 0)) 78)) w.heap.size [] [] := (MapIs.new w).keep (Below.heap_alloc _ _ _ (by simp));have hq1 : Blk ((w.alloc (.map #[] 0)).alloc (.cells (sdC (.map (some w.heap.size)) (.slice none 0 0)) 78)) (w.heap.size + 1) 78 (sdC (.map (some w.heap.size)) (.slice none 0 0)) := Blk.newAt _ 78 _ _ (by simp);refine (Hins.out w.heap.size [] [] [84,121,112,101] 105 (S [79,98,106,83,116,109]) _ (HW.out.trans (hB1.mono HW.out.size)) hm1 (by simp) (by simp) (by simp) (by simp)).mono ?_;rintro e w2 ⟨⟨f,rfl⟩,hO2,hm2⟩;have hB2 : Below w.heap.size w w2 := hB1.grown hO2 (by simp;omega) (fun k hk => by injection hk with hk;omega);have hq2 : Blk w2 (w.heap.size + 1) 78 (sdC (.map (some w.heap.size)) (.slice none 0 0)) := Blk.grown hq1 hO2 (fun e => by injection e with e;omega)
 obtain ⟨ks,vs,hm2,hks,hvs,hnk,hnl⟩ : ∃ ks vs,MapIs w2 w.heap.size ks vs ∧ (∀ x ∈ ks,x.length ≤ 100 ∧ (nbM x).isSome = true ∧ ∀ b ∈ x,b.toNat ≠ 0) ∧ (∀ v ∈ vs,∃ T u,v = .iface T u) ∧ ([70,105,108,116,101,114] : List UInt8) ∉ ks ∧ ks.length ≤ 100 := by
  rcases hm2 with h | h
  · exact ⟨_,_,h,by simp,by simp,by simp,by simp⟩
  refine ⟨_,_,h,?_,by simp,by decide,by decide⟩;intro x hx;rw [List.nil_append,List.mem_singleton] at hx;subst hx;exact ⟨by decide,by decide,by decide⟩
 clear hq1 hB1 hm1 hO2;have c0 : w2.cell? ⟨w.heap.size + 1,0,none⟩ = some (.map (some w.heap.size)) := hq2.cell 0;have Hm2 := Lib.hid hm2;have Hks := Lib.hid hks;have Hvs := Lib.hid hvs;have Hnk := Lib.hid hnk;clear hm2 hks hvs hnk;go_wp2_with fail;refine (Hins.out w.heap.size ks vs [70,105,108,116,101,114] 105 (S [70,108,97,116,101,68,101,99,111,100,101]) _ (HW.out.trans (hB2.mono HW.out.size)) Hm2.out Hnk.out Hks.out Hvs.out hnl).mono ?_;rintro e w3 ⟨⟨f3,rfl⟩,hO3,_⟩;have hB3 : Below w.heap.size w w3 := hB2.grown hO3 hB2.size (fun k hk => by injection hk with hk;omega);have hq3 : Blk w3 (w.heap.size + 1) 78 (sdC (.map (some w.heap.size)) (.slice none 0 0)) := Blk.grown hq2 hO3 (fun e => by injection e with e;omega);obtain ⟨q1,hq1⟩ : ∃ q,q = w.heap.size + 1 := ⟨_,rfl⟩;rw [← hq1] at hq3 ⊢;obtain ⟨n0,hn0⟩ : ∃ q,q = w.heap.size := ⟨_,rfl⟩;have hq1n : w.heap.size ≤ q1 := by omega
 rw [← hn0] at hq3 ⊢;clear hq2 hO3 hB2 c0 Hm2 Hks Hvs Hnk hq1 hn0;have d0 : w3.cell? ⟨q1,0,none⟩ = some (.map (some n0)) := hq3.cell 0;have d1 : w3.cell? ⟨q1,1,none⟩ = some (.int .i64 0) := hq3.cell 1;have d2 : w3.cell? ⟨q1,2,none⟩ = some (.pointer none) := hq3.cell 2;have d3 : w3.cell? ⟨q1,3,none⟩ = some (.pointer none) := hq3.cell 3;have d4 : w3.cell? ⟨q1,4,none⟩ = some (.slice none 0 0) := hq3.cell 4;have d5 : w3.cell? ⟨q1,5,none⟩ = some (.slice none 0 0) := hq3.cell 5;have d6 : w3.cell? ⟨q1,6,none⟩ = some (.slice none 0 0) := hq3.cell 6;have d7 : w3.cell? ⟨q1,7,none⟩ = some (.bool false) := hq3.cell 7;have d8 : w3.cell? ⟨q1,8,none⟩ = some (.int .i64 0) := hq3.cell 8;have f4 := hq3.frozen 4;have l1 := hq3.lt;go_wp2_with fail;go_ret;refine ⟨_,_,_,rfl,?_,⟨_,rfl⟩,⟨_,_,_,rfl⟩,Blk.newAt _ 82 _ _ (by simp),?_⟩
 · have := hB3.size;simp;omega
 · exact ((hB3.setCell (p := ⟨q1,4,none⟩) hq1n _).alloc (by have := hB3.size;simp;omega) _).alloc (by have := hB3.size;simp;omega) _
end Go.Proofs.YtcpijmbdibgdmaaGreatDoor
