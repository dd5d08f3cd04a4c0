/-
  spec.Nodes, spec.Levels, spec.Modest.
  impl.objects, over what impl.object says of smaller objects.
  types.Array.PDFString, over what is said of smaller objects.
  Type assertions of the package's objects.
  types.Array.PDFString, over what is said of smaller objects.
-/
import Derived.Test.YtcpijmbdibgdmaaGreatDoorMs19
set_option linter.all false
set_option maxHeartbeats 16000000
set_option maxRecDepth 100000
namespace Go.Proofs.YtcpijmbdibgdmaaGreatDoor
open Go.RowKit
attribute [local go_sem] ba_get store_flt
theorem VRep.below {w wr : World} {F : Nat → Prop} {v : SVal} {c : List Value} (h : VRep w F v c) (hB : Below w.heap.size w wr) : VRep wr F v c := VRep.mono (fun i hi hlt => ⟨hB.block i hlt,hi⟩) v c h
structure BoxS (w wr : World) (b : Nat) (C : Array Value) : Prop where
 box : Blk wr b 34 C
 below : Below w.heap.size w wr
 hb : b = w.heap.size
section
variable {w wr w' : World} {b : Nat} {C : Array Value}
theorem BoxS.start (w : World) (C : Array Value) : BoxS w (w.alloc (.cells C 34)) w.heap.size C := ⟨Blk.newAt _ 34 _ _ rfl,(Below.refl _ w).alloc (Nat.le_refl _) _,rfl⟩
theorem BoxS.keep (h : BoxS w wr b C) (hB : Below wr.heap.size wr w') : BoxS w w' b C := ⟨h.box.below hB h.box.lt,h.below.trans (hB.mono h.below.size),h.hb⟩
theorem BoxS.alloc (h : BoxS w wr b C) (o : Obj) : BoxS w (wr.alloc o) b C := h.keep ((Below.refl _ wr).alloc (Nat.le_refl _) _)
theorem BoxS.drewN (h : BoxS w wr b C) (n : Nat) : BoxS w (wr.drewN n) b C := ⟨h.box,below_drewN h.below n,h.hb⟩
end
theorem row_cells {w wr : World} {F : Nat → Prop} {g : Nat} {i : Nat} {u : SVal} {c : List Value} (hg : g < w.heap.size) (hB : Below w.heap.size w wr) (hc : VRep w F u c) (h : ∀ j,j < 7 → w.cell? ⟨g,i * 7 + j,none⟩ = c[j]?) :
 ∃ kp kb vp vb,c = sv7 (kindS u) (numS u) (genS u) (realS u) (textS u) (.slice kp (keysS u).length kb) (.slice vp (kidsS u).length vb) ∧ wr.cell? ⟨g,i * 7,none⟩ = some (.int .i64 (kindS u)) ∧ wr.cell? ⟨g,i * 7 + 1,none⟩ = some (.int .i64 (numS u)) ∧ wr.cell? ⟨g,i * 7 + 2,none⟩ = some (.int .i64 (genS u)) ∧ wr.cell? ⟨g,i * 7 + 3,none⟩ = some (.float .f64 (realS u)) ∧ wr.cell? ⟨g,i * 7 + 4,none⟩ = some (S (textS u)) ∧
   wr.cell? ⟨g,i * 7 + 5,none⟩ = some (.slice kp (keysS u).length kb) ∧ wr.cell? ⟨g,i * 7 + 6,none⟩ = some (.slice vp (kidsS u).length vb) := by
 obtain ⟨k,kv,rfl,⟨kp,kb,rfl,_⟩,vp,vb,rfl,_⟩ := hc.open_
 have f : ∀ j u,j < 7 → (sv7 (kindS _) (numS _) (genS _) (realS _) (textS _) (.slice kp (keysS _).length kb) (.slice vp (kidsS _).length vb))[j]? = some u → wr.cell? ⟨g,i * 7 + j,none⟩ = some u := fun j u hj hu => by
  exact ((hB.cell (p := ⟨g,i * 7 + j,none⟩) hg).trans (h j hj)).trans hu
 exact ⟨kp,kb,vp,vb,rfl,f 0 _ (by decide) rfl,f 1 _ (by decide) rfl,f 2 _ (by decide) rfl,f 3 _ (by decide) rfl,f 4 _ (by decide) rfl,f 5 _ (by decide) rfl,f 6 _ (by decide) rfl⟩
theorem nodes_any : ∀ (n : Nat) (v : SVal) (c : List Value) (F : Nat → Prop) (most : Int) (w : World),SizeOf.sizeOf v ≤ n → VRep w F v c → cntS v ≤ 1048576 → 0 ≤ most → most ≤ 5000 →
 Calls Tryz.prog 25 #[.agg c.toArray,.int .i64 most] w fun e w' => ∃ x : Int,e = .returned (.int .i64 x) ∧ 1 ≤ x ∧ x ≤ cntS v ∧ Below w.heap.size w w'
 | 0,v,_,_,_,_,hn,_,_,_,_ => by cases v <;> simp at hn
 | n + 1,v,c,F,most,w,hn,hR,hc,hm0,hm1 => by
   have ih := nodes_any n;obtain ⟨k,kv,rfl,⟨kp,kb,rfl,_⟩,vp,vb,rfl,hvb,hvm,hrow⟩ := hR.open_;obtain ⟨l,hl⟩ : ∃ l,l = kidsS v := ⟨_,rfl⟩
   have hsz : ∀ i (h : i < l.length),SizeOf.sizeOf l[i] ≤ n := by
    subst hl;intro i h;have := kids_size (v := v) h;omega
   obtain ⟨kl,hkl⟩ : ∃ kl,kl = (keysS v).length := ⟨_,rfl⟩;have hcv : cntS v = 1 + cntSL l := by rw [hl];exact cntS_eq v
   rw [← hl] at hvb hrow ⊢;rw [← hkl];have Hcv := Lib.hid hcv;have Hc := Lib.hid hc;have Hrow := Lib.hid hrow;have Hsz := Lib.hid hsz;have Hih := Lib.hid ih;have hll : l.length ≤ 9223372036854775807 := by have := hvm;unfold maxLen at this;omega
   obtain ⟨a0,ha0⟩ : ∃ a,a = kindS v := ⟨_,rfl⟩;obtain ⟨a1,ha1⟩ : ∃ a,a = numS v := ⟨_,rfl⟩;obtain ⟨a2,ha2⟩ : ∃ a,a = genS v := ⟨_,rfl⟩;obtain ⟨a3,ha3⟩ : ∃ a,a = realS v := ⟨_,rfl⟩;obtain ⟨a4,ha4⟩ : ∃ a,a = textS v := ⟨_,rfl⟩;rw [← ha0,← ha1,← ha2,← ha3,← ha4];clear hcv hc hrow hsz ih hR ha0 ha1 ha2 ha3 ha4 hl hkl hn hvb hvm;obtain ⟨C,hC⟩ : ∃ C,C = (sv7 a0 a1 a2 a3 a4 (.slice kp kl kb) (.slice vp l.length vb)).toArray := ⟨_,rfl⟩;have HC := Lib.hid hC;clear hC;change Calls Tryz.prog 25 #[.agg #[.int .i64 a0,.int .i64 a1,.int .i64 a2,.float .f64 a3,S a4,.slice kp kl kb,.slice vp l.length vb],.int .i64 most] w _;go_enter Tryz.func25,Tryz.ntmps25;go_wp2_with fail;have hS0 : BoxS w (w.alloc (.cells #[.int .i64 a0,.int .i64 a1,.int .i64 a2,.float .f64 a3,S a4,.slice kp kl kb,.slice vp l.length vb] 34)) w.heap.size C := by rw [HC.out];exact BoxS.start w _
   obtain ⟨b,hb⟩ : ∃ b,b = w.heap.size := ⟨_,rfl⟩;rw [← hb] at hS0 ⊢;clear hb
   go_loopg [5,6] l.length (fun g i j wr => ∃ (k : Nat) (y : Int),i = .int .i64 y ∧ j = .int .i64 k ∧ k + g = l.length ∧ 1 ≤ y ∧ Hid (y + cntSL (l.drop k) ≤ cntS v) ∧ BoxS w wr b C)
   case atStart => exact ⟨0,1,rfl,rfl,by omega,by omega,Lib.hid (by have := Hcv.out;simp;omega),hS0⟩
   case round =>
    clear hS0;obtain ⟨k,y,rfl,rfl,hg,hy1,Hy,hS⟩ := hrel;have hyb : y ≤ 1048576 := by have := Hy.out;have := Hc.out;omega
    have c6 : wr.cell? ⟨b,6,none⟩ = some (.slice vp l.length vb) := (hS.box.cell 6).trans (by rw [HC.out];rfl);by_cases hk : k < l.length
    · have tk : k < l.length := hk;by_cases hym : y ≤ most
      · have ty : decide (y ≤ most) = true := decide_eq_true hym;obtain ⟨g0,rfl,_,hg0,hat⟩ := Hrow.out (by omega);obtain ⟨c',hc7,hrep,hcells⟩ := hat k hk;have hrep2 := hrep.below hS.below;have hcd := cntSL_drop l k hk;have hszk := Hsz.out k hk;obtain ⟨u,hu⟩ : ∃ u,u = l[k] := ⟨_,rfl⟩;rw [← hu] at hrep hrep2 hcd hszk;obtain ⟨kp',kb',vp',vb',rfl,d0,d1,d2,d3,d4,d5,d6⟩ := row_cells hg0 hS.below hrep hcells;have hcu : cntS u ≤ 1048576 := by have := Hy.out;have := Hc.out;omega
        have Hcd := Lib.hid hcd;clear hcd hcells hat hrep hu;go_wp2_with fail;refine (Hih.out u _ F (most - y) wr hszk hrep2 hcu (by omega) (by omega)).mono ?_;rintro e w2 ⟨x,rfl,hx1,hx2,hB2⟩;have hS2 := hS.keep hB2;have Hx2 := Lib.hid hx2;have hx3 : x ≤ 1048576 := by omega
        have hyx : y + x ≤ 1048576 := by have := Hy.out;have := Hc.out;have := Hcd.out;omega
        have Hyn : Hid (y + x + cntSL (l.drop (k + 1)) ≤ cntS v) := Lib.hid (by have := Hy.out;have := Hcd.out;omega);clear hx2 d0 d1 d2 d3 d4 d5 d6 hrep2 hB2 hS c6;go_wp2_with fail
        go_roundg (l.length - (k + 1))
        case measure => omega
        case rel => exact ⟨k + 1,y + x,rfl,by go_num,by omega,by omega,Hyn,hS2⟩
      have ty : decide (y ≤ most) = false := decide_eq_false hym;go_wp2_with fail;go_ret;exact ⟨y,rfl,hy1,by have := Hy.out;omega,hS.below⟩
    have tk : ¬ k < l.length := hk;go_wp2_with fail;go_ret;exact ⟨y,rfl,hy1,by have := Hy.out;omega,hS.below⟩
end Go.Proofs.YtcpijmbdibgdmaaGreatDoor
namespace Go.Proofs.YtcpijmbdibgdmaaGreatDoor
open Go.RowKit
attribute [local go_sem] ba_get store_flt
theorem Tryz.info63 : (Tryz.prog.info? 63).map (fun i => (i.zero,i.size,i.bytes)) = some (some .nilIface,1,16) := by kernel_rfl
def ObjsPost (w : World) (q : List PObj) (e : Ending) (w' : World) : Prop := ∃ v xs,e = .returned (.tuple #[v,.bool true]) ∧ w'.ownsRow 0 63 1 v q.length xs ∧ (∀ g,v.ownBlock = some g → w.heap.size ≤ g) ∧ TKids w' (fun i => w.heap.size ≤ i) q xs ∧ Below w.heap.size w w'
theorem objects_any (tw : Nat → Bool) (W0 : World) (m : Nat) (hFr : ObjSaid tw W0 m) (l : List OObj) (q : List PObj) (xs : List Value) (A2 : Option Addr) (lc : Nat) (w : World)
 (hn : ∀ o ∈ l,SizeOf.sizeOf o ≤ m) (hl : InSl W0 W0.heap.size 7 (.slice A2 l.length lc) l.length xs) (hkids : OKids W0 W0.heap.size l xs) (hI : OIntL l) (hb : bulkL l ≤ 1048576) (hq : objL tw l = some q) (hW : Below W0.heap.size W0 w) :
 Calls Tryz.prog 61 #[.slice A2 l.length lc] w (ObjsPost w q) := by
 obtain ⟨A,c,hv,hc1,hc2,hll,hlr⟩ := hl;injection hv with hv1 hv2 hv3;subst hv1 hv3;have hbl := bulkL_len l;have hls : l.length ≤ 131072 := by omega
 have hql := objL_len hq;have HFr := Lib.hid hFr;have HW := Lib.hid hW;have HL := Lib.hid hlr;have HN := Lib.hid hn;have HI := Lib.hid hI;have HB := Lib.hid hb;have HQ := Lib.hid hq;unfold maxLen at hc2;clear hFr hW hlr hn hI hb hbl hq hv2;obtain ⟨i0,hi,hi0,hi1,hi2⟩ := info_parts Tryz.info63;go_enter Tryz.func61,Tryz.ntmps61;go_wp2_with fail
 have hS0 : TS w (w.alloc (.cells #[] 63)) [] (.slice (some ⟨w.heap.size,0,none⟩) 0 0) [] := by
  refine ⟨World.ownsRow_made w #[] 0 (Nat.le_refl _) (by unfold maxLen;omega) rfl,?_,(Below.refl _ w).alloc (Nat.le_refl _) _⟩;unfold TKids;rfl
 go_loopg [4,12] l.length (fun g s i wr => ∃ (k : Nat) (qk : List PObj) (v : Value) (ys : List Value),s = v ∧ i = .int .i64 k ∧ k + g = l.length ∧ Hid (qk = q.take k) ∧ TS w wr qk v ys)
 case atStart => exact ⟨0,[],_,[],rfl,rfl,by omega,Lib.hid rfl,hS0⟩
 case round =>
  clear hS0;obtain ⟨k,qk,v,ys,rfl,rfl,hg,Hqk,hS⟩ := hrel;by_cases hk : k < l.length
  · have tk : k < l.length := hk;obtain ⟨bk,off,rfl,hbk,hrow⟩ := HL.out (by omega);obtain ⟨c',hc7,hrep,hat⟩ := hkids.at_ k hk;have hint := HI.out.at_ k hk;have hbo := bulkL_at k hk;have hsz := HN.out _ (List.getElem_mem hk);have hkq : k < q.length := by omega
    have hobj := objL_at HQ.out k hk hkq;have htk : q.take (k + 1) = qk ++ [q[k]] := by rw [Hqk.out];exact List.take_succ_eq_append_getElem hkq
    obtain ⟨p,hp⟩ : ∃ p,p = q[k] := ⟨_,rfl⟩;obtain ⟨o',ho'⟩ : ∃ o',o' = l[k] := ⟨_,rfl⟩;rw [← ho'] at hrep hint hbo hsz hobj;rw [← hp] at htk hobj;have hqkl : qk.length = k := by rw [Hqk.out];simp;omega
    have hbo2 : bulkO o' ≤ 1048576 := by have := HB.out;omega
    have Htk := Lib.hid htk;clear htk hp ho' hbo Hqk;have hrep2 := hrep;obtain ⟨kd',n',g',x',t',ks',l'⟩ := o';unfold ORep at hrep;obtain ⟨kv',lv',xs',rfl,hk',hl',_⟩ := hrep;obtain ⟨A',kc',rfl,_⟩ := hk';obtain ⟨A2',lc',rfl,_⟩ := hl';have hWr := HW.out.trans (hS.below.mono HW.out.size);obtain ⟨d0,d1,d2,d3,d4,d5,d6⟩ := row7 (fun j u hj => (hWr.cell (p := ⟨bk,off + j,none⟩) hbk).trans (hrow j u hj)) hat rfl;obtain ⟨vp,va,vb,rfl⟩ := ownsRow_slice hS.own;go_wp2_with fail;refine (HFr.out _ p _ _ hsz hrep2 hint hbo2 hobj (hWr.alloc hWr.size _)).mono ?_;rintro e w2 ⟨u,rfl,hu,hB2⟩;have hBa := ((Below.refl _ wr).alloc (Nat.le_refl _) (Obj.cells #[.int .i64 kd',.int .i64 n',.int .i64 g',.float .f64 x',S t',.slice A' ks'.length kc',.slice A2' l'.length lc'] 28));have hB2' : Below wr.heap.size wr w2 := hBa.trans (hB2.mono hBa.size);have hS2 := hS.keep hB2';have hones : ∀ x ∈ [u],x.oneCell' = true := by intro x hx;rw [List.mem_singleton] at hx;rw [hx];exact hu.one
    have hol := fun g hg => World.ownsRow.lt hS.own g hg
    have hwr := hS.below.size
    have hu2 : TRep w2 (fun i => w.heap.size ≤ i ∧ (Value.slice vp va vb).ownBlock ≠ some i) p u := TRep.mono (fun i hi _ => by
     have hi2 : wr.heap.size + 1 ≤ i := by simpa using hi
     exact ⟨rfl,by omega,fun e => by have := hol i e;omega⟩) _ _ hu
    have Hu := Lib.hid hu2;have hown2 := World.ownsRow.alloc hS2.own (.cells #[u] 63);have hmax : qk.length + 1 ≤ maxLen := by unfold maxLen;omega
    have hby : (qk.length + 1) * 16 ≤ 140737488355328 := by omega
    have hbase : w.heap.size ≤ (w2.alloc (.cells #[u] 63)).heap.size := by have := hS2.below.size;simp;omega
    clear hu hu2 hrow hat hB2 hB2' hS d0 d1 d2 d3 d4 d5 d6 hrep2 hint hbo2 hobj hol hBa;rcases Hu.out.shape with rfl | ⟨ut,uv,rfl⟩
    all_goals
     go_wp2_with (at_builtin;(refine wpList_append_lies _ rfl (.tmp 23) (.tmp 25) 80 rfl w.heap.size 63 i0 .nilIface 1 16 Tryz.underlying80 hi hi0 hi1 hi2 rfl (by decide) (.slice vp va vb) qk.length ys (by simp [Act.eval,Act.put]) hown2 ⟨w2.heap.size,0,none⟩ 1 1 [_] (by simp [Act.eval,Act.put]) rfl (World.news_of_block (heap_alloc_new _ _)) hones (by decide) hmax hby hbase _ rfl ?_;intro g9' cap9 w6 hown6 hgrow hat6 hlt6));have hfin := TS.elem hS2 Hu.out hown6 hgrow hat6
     go_roundg (l.length - (k + 1))
     case measure => omega
     case rel => exact ⟨k + 1,qk ++ [p],_,_,rfl,by go_num,by omega,Lib.hid Htk.out.symm,by rw [hqkl] at hfin;exact hfin⟩
  have tk : ¬ k < l.length := hk;have hqe : qk = q := by rw [Hqk.out];exact List.take_of_length_le (by omega)
  subst hqe;clear Hqk;go_wp2_with fail;go_ret2;obtain ⟨h1,h2,h3⟩ := hS.done;exact ⟨_,ys,rfl,h1,h2,h3,hS.below⟩
end Go.Proofs.YtcpijmbdibgdmaaGreatDoor
namespace Go.Proofs.YtcpijmbdibgdmaaGreatDoor
open Go.RowKit
attribute [local go_sem] ba_get store_flt
theorem Tryz.info9 : (Tryz.prog.info? 9).map (fun i => (i.zero,i.size,i.bytes)) = some (some (.string ⟨#[]⟩),1,16) := by kernel_rfl
structure SS (w wr : World) (xs : List ByteArray) (v : Value) : Prop where
 own : wr.ownsRow w.heap.size 9 1 v xs.length (xs.map .string)
 below : Below w.heap.size w wr
theorem SS.keep {w wr w' : World} {xs : List ByteArray} {v : Value} (h : SS w wr xs v) (hB : Below wr.heap.size wr w') : SS w w' xs v :=
 ⟨ownsRow_keepB h.own (fun g hg => hB.block g (World.ownsRow.lt h.own g hg).2),h.below.trans (hB.mono h.below.size)⟩
theorem SS.start (w : World) : SS w (w.alloc (.cells #[] 9)) [] (.slice (some ⟨w.heap.size,0,none⟩) 0 0) :=
 ⟨World.ownsRow_made w #[] 0 (Nat.le_refl _) (by unfold maxLen;omega) rfl,(Below.refl _ w).alloc (Nat.le_refl _) _⟩
theorem wpList_app9 {ops : Array Oper} {rest : List Oper} {o : Oper} {a : Act} {Q : Exit → Act → World → Prop} {w wr : World} {xs : List ByteArray} {v : Value} (hgd : o.guard = none) (s x : Operand)
 (ho : o.op = .call { callee := .builtin .append,args := #[s,x],argTypes := #[25,25] }) (hS : SS w wr xs v) (hn : xs.length ≤ 8000000) (u : ByteArray) (hs : a.eval s = v) (hx : a.eval x = .slice (some ⟨wr.heap.size,0,none⟩) 1 1)
 (h : ∀ v' w',SS w w' (xs ++ [u]) v' → wpList Tryz.prog ops Q rest (a.put o.dst v') w') : wpList Tryz.prog ops Q (o :: rest) a (wr.alloc (.cells #[.string u] 9)) := by
 obtain ⟨i0,hi,hi0,hi1,hi2⟩ := info_parts Tryz.info9;refine wpList_append_own_at _ hgd s x 25 ho w.heap.size 9 i0 (.string ⟨#[]⟩) 1 16 Tryz.underlying25 hi hi0 hi1 hi2 rfl (by decide) v xs.length (xs.map .string) hs (hS.own.alloc _) ⟨wr.heap.size,0,none⟩ 1 1 [.string u] hx rfl (World.news_of_block (heap_alloc_new _ _)) (fun y hy => by rw [List.mem_singleton] at hy;rw [hy];rfl) (by unfold maxLen;omega) (by omega) (by have := hS.below.size;simp;omega) ?_;intro v' w' h1 h2 _ _;refine h v' w' ⟨by simpa using h1,?_⟩;have hb := hS.below;have hog := fun g hg => World.ownsRow.lt hS.own g hg
 refine (hb.alloc hb.size _).grown h2 (by have := hb.size;simp;omega) (fun k hk => (hog k hk).1)
def flat (xs : List ByteArray) : List UInt8 := (xs.map (·.data.toList)).flatten
theorem flat_snoc (xs : List ByteArray) (u : ByteArray) : flat (xs ++ [u]) = flat xs ++ u.data.toList := by simp [flat]
theorem join_flat (xs : List ByteArray) : Lib.join (xs.map (·.data.toList)) [] = flat xs := by
 unfold Lib.join flat;generalize xs.map (·.data.toList) = l
 induction l with
 | nil => rfl
 | cons a l ih =>
   cases l with
   | nil => simp [List.intercalate]
   | cons b l => rw [List.intercalate_cons_cons] ;simp at ih ⊢;exact ih
theorem join_any {w wr : World} {xs : List ByteArray} {v : Value} (hS : SS w wr xs v) (h0 : 0 < xs.length) (hN : xs.length ≤ 8000001) (hl : (flat xs).length ≤ 140737488355328) :
 Calls Tryz.prog 279 #[v,.string ⟨#[]⟩] wr fun e w' => e = .returned (S (flat xs)) ∧ Below wr.heap.size wr w' := by
 obtain ⟨hlen,h⟩ := hS.own;rcases h with ⟨rfl,h1⟩ | ⟨g,cap,cur,rfl,_,hg,hn,hc,hs,ht⟩
 · omega
 · have hj := join_flat xs;refine (Tryz.strings_Join g 0 cap xs ⟨#[]⟩ wr (fun j x hx => ?_) (World.ownsRow.lt hS.own g rfl).2 (by omega) hn (by rw [show (ByteArray.mk #[]).data.toList = [] from rfl,hj];exact hl)).mono ?_
   · rw [Nat.zero_add];have hj2 : j < xs.length := (List.getElem?_eq_some_iff.1 hx).1;rw [World.ownsRow.cellAt hS.own j (by omega),List.getElem?_map,hx];rfl
   rintro e w' ⟨rfl,hB⟩;exact ⟨by rw [show (ByteArray.mk #[]).data.toList = [] from rfl,hj],hB⟩
section
variable (FF : Nat → List UInt8)
theorem printA_snoc : ∀ (l : List PObj) (f : Bool) (p : PObj),printA FF f (l ++ [p]) = printA FF f l ++ ((if (f && l.isEmpty) || !spA p then [] else [32]) ++ printP FF p)
 | [],f,p => by simp [printA]
 | a :: l,f,p => by
   rw [List.cons_append,printA,printA,printA_snoc l false p];simp
end
end Go.Proofs.YtcpijmbdibgdmaaGreatDoor
namespace Go.Proofs.YtcpijmbdibgdmaaGreatDoor
open Go.RowKit
@[go_sem] theorem as74_74 (v : Value) (w : World) : (Instr.typeAssert (.iface 74 v) 63 74 true).run Tryz.prog w = .ok (.tuple #[v,.bool true]) w := by kernel_rfl
@[go_sem] theorem as80_74 (v : Value) (w : World) : (Instr.typeAssert (.iface 80 v) 63 74 true).run Tryz.prog w = .ok (.tuple #[.map none,.bool false]) w := by kernel_rfl
@[go_sem] theorem as80_80 (v : Value) (w : World) : (Instr.typeAssert (.iface 80 v) 63 80 true).run Tryz.prog w = .ok (.tuple #[v,.bool true]) w := by kernel_rfl
@[go_sem] theorem as107_74 (v : Value) (w : World) : (Instr.typeAssert (.iface 107 v) 63 74 true).run Tryz.prog w = .ok (.tuple #[.map none,.bool false]) w := by kernel_rfl
@[go_sem] theorem as107_80 (v : Value) (w : World) : (Instr.typeAssert (.iface 107 v) 63 80 true).run Tryz.prog w = .ok (.tuple #[.slice none 0 0,.bool false]) w := by kernel_rfl
@[go_sem] theorem as107_107 (v : Value) (w : World) : (Instr.typeAssert (.iface 107 v) 63 107 true).run Tryz.prog w = .ok (.tuple #[v,.bool true]) w := by kernel_rfl
@[go_sem] theorem as105_74 (v : Value) (w : World) : (Instr.typeAssert (.iface 105 v) 63 74 true).run Tryz.prog w = .ok (.tuple #[.map none,.bool false]) w := by kernel_rfl
@[go_sem] theorem as105_80 (v : Value) (w : World) : (Instr.typeAssert (.iface 105 v) 63 80 true).run Tryz.prog w = .ok (.tuple #[.slice none 0 0,.bool false]) w := by kernel_rfl
@[go_sem] theorem as105_107 (v : Value) (w : World) : (Instr.typeAssert (.iface 105 v) 63 107 true).run Tryz.prog w = .ok (.tuple #[.agg #[.int .i64 0,.int .i64 0],.bool false]) w := by kernel_rfl
@[go_sem] theorem as105_105 (v : Value) (w : World) : (Instr.typeAssert (.iface 105 v) 63 105 true).run Tryz.prog w = .ok (.tuple #[v,.bool true]) w := by kernel_rfl
@[go_sem] theorem as101_74 (v : Value) (w : World) : (Instr.typeAssert (.iface 101 v) 63 74 true).run Tryz.prog w = .ok (.tuple #[.map none,.bool false]) w := by kernel_rfl
@[go_sem] theorem as101_80 (v : Value) (w : World) : (Instr.typeAssert (.iface 101 v) 63 80 true).run Tryz.prog w = .ok (.tuple #[.slice none 0 0,.bool false]) w := by kernel_rfl
@[go_sem] theorem as101_107 (v : Value) (w : World) : (Instr.typeAssert (.iface 101 v) 63 107 true).run Tryz.prog w = .ok (.tuple #[.agg #[.int .i64 0,.int .i64 0],.bool false]) w := by kernel_rfl
@[go_sem] theorem as101_105 (v : Value) (w : World) : (Instr.typeAssert (.iface 101 v) 63 105 true).run Tryz.prog w = .ok (.tuple #[.string ⟨#[]⟩,.bool false]) w := by kernel_rfl
@[go_sem] theorem as101_101 (v : Value) (w : World) : (Instr.typeAssert (.iface 101 v) 63 101 true).run Tryz.prog w = .ok (.tuple #[v,.bool true]) w := by kernel_rfl
@[go_sem] theorem as102_74 (v : Value) (w : World) : (Instr.typeAssert (.iface 102 v) 63 74 true).run Tryz.prog w = .ok (.tuple #[.map none,.bool false]) w := by kernel_rfl
@[go_sem] theorem as102_80 (v : Value) (w : World) : (Instr.typeAssert (.iface 102 v) 63 80 true).run Tryz.prog w = .ok (.tuple #[.slice none 0 0,.bool false]) w := by kernel_rfl
@[go_sem] theorem as102_107 (v : Value) (w : World) : (Instr.typeAssert (.iface 102 v) 63 107 true).run Tryz.prog w = .ok (.tuple #[.agg #[.int .i64 0,.int .i64 0],.bool false]) w := by kernel_rfl
@[go_sem] theorem as102_105 (v : Value) (w : World) : (Instr.typeAssert (.iface 102 v) 63 105 true).run Tryz.prog w = .ok (.tuple #[.string ⟨#[]⟩,.bool false]) w := by kernel_rfl
@[go_sem] theorem as102_101 (v : Value) (w : World) : (Instr.typeAssert (.iface 102 v) 63 101 true).run Tryz.prog w = .ok (.tuple #[.int .i64 0,.bool false]) w := by kernel_rfl
@[go_sem] theorem as102_102 (v : Value) (w : World) : (Instr.typeAssert (.iface 102 v) 63 102 true).run Tryz.prog w = .ok (.tuple #[v,.bool true]) w := by kernel_rfl
@[go_sem] theorem as100_74 (v : Value) (w : World) : (Instr.typeAssert (.iface 100 v) 63 74 true).run Tryz.prog w = .ok (.tuple #[.map none,.bool false]) w := by kernel_rfl
@[go_sem] theorem as100_80 (v : Value) (w : World) : (Instr.typeAssert (.iface 100 v) 63 80 true).run Tryz.prog w = .ok (.tuple #[.slice none 0 0,.bool false]) w := by kernel_rfl
@[go_sem] theorem as100_107 (v : Value) (w : World) : (Instr.typeAssert (.iface 100 v) 63 107 true).run Tryz.prog w = .ok (.tuple #[.agg #[.int .i64 0,.int .i64 0],.bool false]) w := by kernel_rfl
@[go_sem] theorem as100_105 (v : Value) (w : World) : (Instr.typeAssert (.iface 100 v) 63 105 true).run Tryz.prog w = .ok (.tuple #[.string ⟨#[]⟩,.bool false]) w := by kernel_rfl
@[go_sem] theorem as100_101 (v : Value) (w : World) : (Instr.typeAssert (.iface 100 v) 63 101 true).run Tryz.prog w = .ok (.tuple #[.int .i64 0,.bool false]) w := by kernel_rfl
@[go_sem] theorem as100_102 (v : Value) (w : World) : (Instr.typeAssert (.iface 100 v) 63 102 true).run Tryz.prog w = .ok (.tuple #[.float .f64 0,.bool false]) w := by kernel_rfl
@[go_sem] theorem as100_100 (v : Value) (w : World) : (Instr.typeAssert (.iface 100 v) 63 100 true).run Tryz.prog w = .ok (.tuple #[v,.bool true]) w := by kernel_rfl
@[go_sem] theorem as103_74 (v : Value) (w : World) : (Instr.typeAssert (.iface 103 v) 63 74 true).run Tryz.prog w = .ok (.tuple #[.map none,.bool false]) w := by kernel_rfl
@[go_sem] theorem as103_80 (v : Value) (w : World) : (Instr.typeAssert (.iface 103 v) 63 80 true).run Tryz.prog w = .ok (.tuple #[.slice none 0 0,.bool false]) w := by kernel_rfl
@[go_sem] theorem as103_107 (v : Value) (w : World) : (Instr.typeAssert (.iface 103 v) 63 107 true).run Tryz.prog w = .ok (.tuple #[.agg #[.int .i64 0,.int .i64 0],.bool false]) w := by kernel_rfl
@[go_sem] theorem as103_105 (v : Value) (w : World) : (Instr.typeAssert (.iface 103 v) 63 105 true).run Tryz.prog w = .ok (.tuple #[.string ⟨#[]⟩,.bool false]) w := by kernel_rfl
@[go_sem] theorem as103_101 (v : Value) (w : World) : (Instr.typeAssert (.iface 103 v) 63 101 true).run Tryz.prog w = .ok (.tuple #[.int .i64 0,.bool false]) w := by kernel_rfl
@[go_sem] theorem as103_102 (v : Value) (w : World) : (Instr.typeAssert (.iface 103 v) 63 102 true).run Tryz.prog w = .ok (.tuple #[.float .f64 0,.bool false]) w := by kernel_rfl
@[go_sem] theorem as103_100 (v : Value) (w : World) : (Instr.typeAssert (.iface 103 v) 63 100 true).run Tryz.prog w = .ok (.tuple #[.bool false,.bool false]) w := by kernel_rfl
@[go_sem] theorem as103_103 (v : Value) (w : World) : (Instr.typeAssert (.iface 103 v) 63 103 true).run Tryz.prog w = .ok (.tuple #[v,.bool true]) w := by kernel_rfl
@[go_sem] theorem as104_74 (v : Value) (w : World) : (Instr.typeAssert (.iface 104 v) 63 74 true).run Tryz.prog w = .ok (.tuple #[.map none,.bool false]) w := by kernel_rfl
@[go_sem] theorem as104_80 (v : Value) (w : World) : (Instr.typeAssert (.iface 104 v) 63 80 true).run Tryz.prog w = .ok (.tuple #[.slice none 0 0,.bool false]) w := by kernel_rfl
@[go_sem] theorem as104_107 (v : Value) (w : World) : (Instr.typeAssert (.iface 104 v) 63 107 true).run Tryz.prog w = .ok (.tuple #[.agg #[.int .i64 0,.int .i64 0],.bool false]) w := by kernel_rfl
@[go_sem] theorem as104_105 (v : Value) (w : World) : (Instr.typeAssert (.iface 104 v) 63 105 true).run Tryz.prog w = .ok (.tuple #[.string ⟨#[]⟩,.bool false]) w := by kernel_rfl
@[go_sem] theorem as104_101 (v : Value) (w : World) : (Instr.typeAssert (.iface 104 v) 63 101 true).run Tryz.prog w = .ok (.tuple #[.int .i64 0,.bool false]) w := by kernel_rfl
@[go_sem] theorem as104_102 (v : Value) (w : World) : (Instr.typeAssert (.iface 104 v) 63 102 true).run Tryz.prog w = .ok (.tuple #[.float .f64 0,.bool false]) w := by kernel_rfl
@[go_sem] theorem as104_100 (v : Value) (w : World) : (Instr.typeAssert (.iface 104 v) 63 100 true).run Tryz.prog w = .ok (.tuple #[.bool false,.bool false]) w := by kernel_rfl
@[go_sem] theorem as104_103 (v : Value) (w : World) : (Instr.typeAssert (.iface 104 v) 63 103 true).run Tryz.prog w = .ok (.tuple #[.string ⟨#[]⟩,.bool false]) w := by kernel_rfl
@[go_sem] theorem as104_104 (v : Value) (w : World) : (Instr.typeAssert (.iface 104 v) 63 104 true).run Tryz.prog w = .ok (.tuple #[v,.bool true]) w := by kernel_rfl
end Go.Proofs.YtcpijmbdibgdmaaGreatDoor
namespace Go.Proofs.YtcpijmbdibgdmaaGreatDoor
open Go.RowKit
attribute [local go_sem] ba_get store_flt
def StrOk (FF : Nat → List UInt8) (W0 : World) : PObj → Prop
 | .arr l => ∀ (w : World) (F : Nat → Prop) (s : Value) (xs : List Value),Below W0.heap.size W0 w → w.ownsRow 0 63 1 s l.length xs → TKids w F l xs → Calls Tryz.prog 271 #[s] w fun e w' => e = .returned (S (printP FF (.arr l))) ∧ Below w.heap.size w w'
 | .dict ks l => ∀ (w : World) (F : Nat → Prop) (b : Nat) (vs : List Value),Below W0.heap.size W0 w → MapIs w b ks vs → TKids w F l vs → Calls Tryz.prog 269 #[.map (some b)] w fun e w' => e = .returned (S (printP FF (.dict ks l))) ∧ Below w.heap.size w w'
 | _ => True
theorem TRep.below {w wr : World} {F : Nat → Prop} {p : PObj} {v : Value} (h : TRep w F p v) (hB : Below w.heap.size w wr) : TRep wr F p v := TRep.mono (fun i hi hlt => ⟨hB.block i hlt,hi⟩) p v h
theorem szL_len : ∀ l : List PObj,l.length ≤ szL l
 | [] => by simp
 | p :: l => by
   have := szL_len l;have h3 : 1 ≤ szP p := by cases p <;> simp [szP] <;> omega
   rw [szL,List.length_cons];omega
theorem str_arr {hi lo : Nat → Nat} {W0 : World} (hF : FFW hi lo W0) (l : List PObj) (hst : ∀ p ∈ l,StrOk (ffB hi lo) W0 p) (hpn : LNum (ffB hi lo) l) (hsz : szL l ≤ 1048576) : StrOk (ffB hi lo) W0 (.arr l) := by
 unfold StrOk;intro w F s xs hW hrow hkids;have hlen := szL_len l;have hpl := printA_len l hpn true;have SB : Hid (∀ (b : Bool) (w : World),Calls Tryz.prog 276 #[.bool b] w fun e w' => e = .returned (S (if b then [116,114,117,101] else [102,97,108,115,101])) ∧ Below w.heap.size w w') := Lib.hid (fun b w => (str_bool b w).mono (by rintro e w' ⟨rfl,rfl⟩;exact ⟨rfl,Below.refl _ _⟩));have SL : Hid (∀ (t : List UInt8) (w : World),t.length ≤ 1048576 → Calls Tryz.prog 277 #[S t] w fun e w' => e = .returned (S (40 :: (t ++ [41]))) ∧ Below w.heap.size w w') := Lib.hid (fun t w h => (str_lit t w h).mono (by rintro e w' ⟨rfl,rfl⟩;exact ⟨rfl,Below.refl _ _⟩));have SH : Hid (∀ (t : List UInt8) (w : World),t.length ≤ 1048576 → Calls Tryz.prog 278 #[S t] w fun e w' => e = .returned (S (60 :: (t ++ [62]))) ∧ Below w.heap.size w w') := Lib.hid (fun t w h => (str_hex t w h).mono (by rintro e w' ⟨rfl,rfl⟩;exact ⟨rfl,Below.refl _ _⟩));have hlast : (91 :: (printA (ffB hi lo) true l ++ [93])).length ≤ 140737488355328 := by simp;omega
 have hll : l.length ≤ 1048576 := by omega
 obtain ⟨fin,hfin⟩ : ∃ fin,fin = 91 :: (printA (ffB hi lo) true l ++ [93]) := ⟨_,rfl⟩;have hpe : printP (ffB hi lo) (.arr l) = fin := by rw [hfin,printP]
 rw [hpe];rw [← hfin] at hlast;have Hfin := Lib.hid hfin;have Hst := Lib.hid hst;have Hpn := Lib.hid hpn;have Hsz := Lib.hid hsz;have HW := Lib.hid hW;have Hkids := Lib.hid hkids;have Hrow := Lib.hid hrow;obtain ⟨vp,va,vb,rfl⟩ := ownsRow_slice hrow
 have hva : va = l.length := by
  rcases hrow.2 with ⟨h,h0⟩ | ⟨g,cap,cur,h,_⟩
  · injection h with _ h2 _;omega
  injection h with _ h2 _
 subst hva;clear hst hpn hsz hW hkids hrow hfin hpe hlen hpl;go_enter Tryz.func271,Tryz.ntmps271;go_wp2_with (at_builtin;refine wpList_app9 rfl (.tmp 20) (.tmp 21) rfl (SS.start w) (by simp) _ (by simp [Act.eval,Act.put]) (by simp [Act.eval,Act.put]) ?_;intro v9 w9 hS9)
 go_loopg [3,4,5,25] l.length (fun g s3 s4 s5 s25 wr => ∃ (k : Nat) (xs : List ByteArray) (sp : ByteArray) (fb : Bool),s4 = .bool fb ∧ s5 = .string sp ∧ s25 = .int .i64 k ∧ k + g = l.length ∧ SS w wr xs s3 ∧ xs.length = k + 1 ∧ Hid (fb = decide (k = 0)) ∧ Hid (flat xs = 91 :: printA (ffB hi lo) true (l.take k)))
 case atStart => exact ⟨0,_,_,true,rfl,rfl,rfl,by omega,hS9,rfl,Lib.hid rfl,Lib.hid (by simp [flat,printA])⟩
 case round =>
  clear hS9;obtain ⟨k,xs',sp,fb,rfl,rfl,rfl,hg,hS,hxl,Hfb,Hfl⟩ := hrel;by_cases hk : k < l.length
  · have tk : k < l.length := hk;have hWr := HW.out.trans (hS.below.mono HW.out.size);obtain ⟨v',hv',hT0⟩ := Hkids.out.at_ k hk;have hT := hT0.below hS.below
    obtain ⟨g0,rfl,hc0⟩ : ∃ g,vp = some ⟨g,0,none⟩ ∧ wr.cell? ⟨g,k,none⟩ = some v' := by
     rcases Hrow.out.2 with ⟨h,h0⟩ | ⟨g,cap,cur,h,_⟩
     · omega
     injection h with h1 _ h3;subst h1 h3;refine ⟨g,rfl,?_⟩;rw [hS.below.cell (p := ⟨g,k,none⟩) (World.ownsRow.lt Hrow.out g rfl).2,World.ownsRow.cellAt Hrow.out k (by omega)];exact hv'
    have hst := Hst.out _ (List.getElem_mem hk);have hpn := Hpn.out.at_ k hk;have hps := szL_at (l := l) k hk;have hps2 : szP l[k] ≤ 1048576 := by have := Hsz.out;omega
    have hpl := print_len l[k] hpn;have hpa : printA (ffB hi lo) true (l.take (k + 1)) = printA (ffB hi lo) true (l.take k) ++ ((if (true && (l.take k).isEmpty) || !spA l[k] then [] else [32]) ++ printP (ffB hi lo) l[k]) := by rw [List.take_succ_eq_append_getElem hk,printA_snoc]
    obtain ⟨p,hp⟩ : ∃ p,p = l[k] := ⟨_,rfl⟩;rw [← hp] at hT hst hpn hps2 hpl hpa;have hps := hps2;clear hp hT0 hv' hps2
    cases fb with
    | true =>
      have hk0 := of_decide_eq_true Hfb.out.symm;have hem : (l.take k).isEmpty = true := by rw [hk0];rfl
      subst hk0;rw [hem] at hpa;clear hem Hfb
      cases p with
      | null =>
        unfold TRep at hT;subst hT;have hpe : printP (ffB hi lo) .null = [110,117,108,108] := by rw [printP]
        rw [hpe] at hpa;have Hpa := Lib.hid hpa;clear hpa hpe;go_wp2_with (at_builtin;refine wpList_app9 rfl (.tmp 32) (.tmp 35) rfl hS (by omega) _ (by simp [Act.eval,Act.put]) (by simp [Act.eval,Act.put]) ?_;intro v9 w9 hS9)
        go_roundg (l.length - 1)
        case measure => omega
        case rel => exact ⟨1,_,_,false,rfl,rfl,by go_num,by omega,hS9,by simp [hxl],Lib.hid (by simp),Lib.hid (by rw [flat_snoc,Hfl.out,Hpa.out];simp [spA])⟩
      | bool b =>
        unfold TRep at hT;subst hT;have hcall := SB.out b wr;have hpe : printP (ffB hi lo) (.bool b) = if b then [116,114,117,101] else [102,97,108,115,101] := by rw [printP]
        rw [← hpe] at hcall;obtain ⟨tx,htx⟩ : ∃ tx,tx = printP (ffB hi lo) (.bool b) := ⟨_,rfl⟩;rw [← htx] at hcall hpl hpa;have Hcall := Lib.hid hcall;have Hpa := Lib.hid hpa;clear hcall hpe htx hpa;go_wp2_with fail;refine Hcall.out.mono ?_;rintro e w2 ⟨rfl,hB2⟩;have hS2 := hS.keep hB2;clear hB2;go_wp2_with (at_builtin;refine wpList_app9 rfl (.tmp 94) (.tmp 99) rfl hS2 (by omega) _ (by simp [Act.eval,Act.put]) (by simp [Act.eval,Act.put]) ?_;intro v9 w9 hS9)
        go_roundg (l.length - 1)
        case measure => omega
        case rel => exact ⟨1,_,_,false,rfl,rfl,by go_num,by omega,hS9,by simp [hxl],Lib.hid (by simp),Lib.hid (by rw [flat_snoc,Hfl.out,Hpa.out];simp [spA])⟩
      | int n =>
        unfold TRep at hT;subst hT;unfold PNum at hpn;have hcall := str_int hF n (by omega) (by omega) wr hWr;have hpe : printP (ffB hi lo) (.int n) = Lib.itoa n := by rw [printP]
        rw [← hpe] at hcall;obtain ⟨tx,htx⟩ : ∃ tx,tx = printP (ffB hi lo) (.int n) := ⟨_,rfl⟩;rw [← htx] at hcall hpl hpa;have Hcall := Lib.hid hcall;have Hpa := Lib.hid hpa;clear hcall hpe htx hpa hpn;go_wp2_with fail;refine Hcall.out.mono ?_;rintro e w2 ⟨rfl,hB2⟩;have hS2 := hS.keep hB2;clear hB2;go_wp2_with (at_builtin;refine wpList_app9 rfl (.tmp 74) (.tmp 79) rfl hS2 (by omega) _ (by simp [Act.eval,Act.put]) (by simp [Act.eval,Act.put]) ?_;intro v9 w9 hS9)
        go_roundg (l.length - 1)
        case measure => omega
        case rel => exact ⟨1,_,_,false,rfl,rfl,by go_num,by omega,hS9,by simp [hxl],Lib.hid (by simp),Lib.hid (by rw [flat_snoc,Hfl.out,Hpa.out];simp [spA])⟩
      | real x =>
        unfold TRep at hT;subst hT;unfold PNum at hpn;have hcall := str_real hF x wr hWr hpn.1 hpn.2.1;have hpe : printP (ffB hi lo) (.real x) = ffB hi lo x := by rw [printP]
        rw [← hpe] at hcall;obtain ⟨tx,htx⟩ : ∃ tx,tx = printP (ffB hi lo) (.real x) := ⟨_,rfl⟩;rw [← htx] at hcall hpl hpa;have Hcall := Lib.hid hcall;have Hpa := Lib.hid hpa;clear hcall hpe htx hpa hpn;go_wp2_with fail;refine Hcall.out.mono ?_;rintro e w2 ⟨rfl,hB2⟩;have hS2 := hS.keep hB2;clear hB2;go_wp2_with (at_builtin;refine wpList_app9 rfl (.tmp 84) (.tmp 89) rfl hS2 (by omega) _ (by simp [Act.eval,Act.put]) (by simp [Act.eval,Act.put]) ?_;intro v9 w9 hS9)
        go_roundg (l.length - 1)
        case measure => omega
        case rel => exact ⟨1,_,_,false,rfl,rfl,by go_num,by omega,hS9,by simp [hxl],Lib.hid (by simp),Lib.hid (by rw [flat_snoc,Hfl.out,Hpa.out];simp [spA])⟩
      | lit t =>
        unfold TRep at hT;subst hT;have hcall := SL.out t wr (by rw [szP] at hps;omega);have hpe : printP (ffB hi lo) (.lit t) = 40 :: (t ++ [41]) := by rw [printP]
        rw [← hpe] at hcall;obtain ⟨tx,htx⟩ : ∃ tx,tx = printP (ffB hi lo) (.lit t) := ⟨_,rfl⟩;rw [← htx] at hcall hpl hpa;have Hcall := Lib.hid hcall;have Hpa := Lib.hid hpa;clear hcall hpe htx hpa;go_wp2_with fail;refine Hcall.out.mono ?_;rintro e w2 ⟨rfl,hB2⟩;have hS2 := hS.keep hB2;clear hB2;go_wp2_with (at_builtin;refine wpList_app9 rfl (.tmp 104) (.tmp 109) rfl hS2 (by omega) _ (by simp [Act.eval,Act.put]) (by simp [Act.eval,Act.put]) ?_;intro v9 w9 hS9)
        go_roundg (l.length - 1)
        case measure => omega
        case rel => exact ⟨1,_,_,false,rfl,rfl,by go_num,by omega,hS9,by simp [hxl],Lib.hid (by simp),Lib.hid (by rw [flat_snoc,Hfl.out,Hpa.out];simp [spA])⟩
      | hex t =>
        unfold TRep at hT;subst hT;have hcall := SH.out t wr (by rw [szP] at hps;omega);have hpe : printP (ffB hi lo) (.hex t) = 60 :: (t ++ [62]) := by rw [printP]
        rw [← hpe] at hcall;obtain ⟨tx,htx⟩ : ∃ tx,tx = printP (ffB hi lo) (.hex t) := ⟨_,rfl⟩;rw [← htx] at hcall hpl hpa;have Hcall := Lib.hid hcall;have Hpa := Lib.hid hpa;clear hcall hpe htx hpa;go_wp2_with fail;refine Hcall.out.mono ?_;rintro e w2 ⟨rfl,hB2⟩;have hS2 := hS.keep hB2;clear hB2;go_wp2_with (at_builtin;refine wpList_app9 rfl (.tmp 114) (.tmp 119) rfl hS2 (by omega) _ (by simp [Act.eval,Act.put]) (by simp [Act.eval,Act.put]) ?_;intro v9 w9 hS9)
        go_roundg (l.length - 1)
        case measure => omega
        case rel => exact ⟨1,_,_,false,rfl,rfl,by go_num,by omega,hS9,by simp [hxl],Lib.hid (by simp),Lib.hid (by rw [flat_snoc,Hfl.out,Hpa.out];simp [spA])⟩
      | name t =>
        unfold TRep at hT;subst hT;have hcall := str_name t wr (by rw [szP] at hps;omega);have hpe : printP (ffB hi lo) (.name t) = 47 :: (if t = [] then [32] else encB t) := by rw [printP]
        rw [← hpe] at hcall;obtain ⟨tx,htx⟩ : ∃ tx,tx = printP (ffB hi lo) (.name t) := ⟨_,rfl⟩;rw [← htx] at hcall hpl hpa;have Hcall := Lib.hid hcall;have Hpa := Lib.hid hpa;clear hcall hpe htx hpa;go_wp2_with fail;refine Hcall.out.mono ?_;rintro e w2 ⟨rfl,hB2⟩;have hS2 := hS.keep hB2;clear hB2;go_wp2_with (at_builtin;refine wpList_app9 rfl (.tmp 66) (.tmp 69) rfl hS2 (by omega) _ (by simp [Act.eval,Act.put]) (by simp [Act.eval,Act.put]) ?_;intro v9 w9 hS9)
        go_roundg (l.length - 1)
        case measure => omega
        case rel => exact ⟨1,_,_,false,rfl,rfl,by go_num,by omega,hS9,by simp [hxl],Lib.hid (by simp),Lib.hid (by rw [flat_snoc,Hfl.out,Hpa.out];simp [spA])⟩
      | ref n g =>
        unfold TRep at hT;subst hT;unfold PNum at hpn;have hcall := str_ref hF n g hpn.1.1 hpn.1.2 hpn.2.1 hpn.2.2 (wr.alloc (.cells #[.int .i64 n,.int .i64 g] 107)) (hWr.alloc hWr.size _);have hpe : printP (ffB hi lo) (.ref n g) = Lib.itoa n ++ 32 :: (Lib.itoa g ++ [32,82]) := by rw [printP]
        rw [← hpe] at hcall;obtain ⟨tx,htx⟩ : ∃ tx,tx = printP (ffB hi lo) (.ref n g) := ⟨_,rfl⟩;rw [← htx] at hcall hpl hpa;have Hcall := Lib.hid hcall;have Hpa := Lib.hid hpa;clear hcall hpe htx hpa hpn;go_wp2_with fail;refine Hcall.out.mono ?_;rintro e w2 ⟨rfl,hB2⟩;have hBa := (Below.refl _ wr).alloc (Nat.le_refl _) (.cells #[.int .i64 n,.int .i64 g] 107);have hS2 := hS.keep (hBa.trans (hB2.mono hBa.size));clear hBa hB2;go_wp2_with (at_builtin;refine wpList_app9 rfl (.tmp 56) (.tmp 61) rfl hS2 (by omega) _ (by simp [Act.eval,Act.put]) (by simp [Act.eval,Act.put]) ?_;intro v9 w9 hS9)
        go_roundg (l.length - 1)
        case measure => omega
        case rel => exact ⟨1,_,_,false,rfl,rfl,by go_num,by omega,hS9,by simp [hxl],Lib.hid (by simp),Lib.hid (by rw [flat_snoc,Hfl.out,Hpa.out];simp [spA])⟩
      | arr l' =>
        unfold TRep at hT;obtain ⟨s',xs',rfl,hr',_,hk'⟩ := hT;unfold StrOk at hst;have hcall := hst wr F s' xs' hWr hr' hk';have hpe : printP (ffB hi lo) (.arr l') = printP (ffB hi lo) (.arr l') := by rfl
        rw [← hpe] at hcall;obtain ⟨tx,htx⟩ : ∃ tx,tx = printP (ffB hi lo) (.arr l') := ⟨_,rfl⟩;rw [← htx] at hcall hpl hpa;have Hcall := Lib.hid hcall;have Hpa := Lib.hid hpa;clear hcall hpe htx hpa hst;go_wp2_with fail;refine Hcall.out.mono ?_;rintro e w2 ⟨rfl,hB2⟩;have hS2 := hS.keep hB2;clear hB2;go_wp2_with (at_builtin;refine wpList_app9 rfl (.tmp 48) (.tmp 51) rfl hS2 (by omega) _ (by simp [Act.eval,Act.put]) (by simp [Act.eval,Act.put]) ?_;intro v9 w9 hS9)
        go_roundg (l.length - 1)
        case measure => omega
        case rel => exact ⟨1,_,_,false,rfl,rfl,by go_num,by omega,hS9,by simp [hxl],Lib.hid (by simp),Lib.hid (by rw [flat_snoc,Hfl.out,Hpa.out];simp [spA])⟩
      | dict ks' l' =>
        unfold TRep at hT;obtain ⟨b',vs',rfl,_,hm',hk'⟩ := hT;unfold StrOk at hst;have hcall := hst wr F b' vs' hWr hm' hk';have hpe : printP (ffB hi lo) (.dict ks' l') = printP (ffB hi lo) (.dict ks' l') := by rfl
        rw [← hpe] at hcall;obtain ⟨tx,htx⟩ : ∃ tx,tx = printP (ffB hi lo) (.dict ks' l') := ⟨_,rfl⟩;rw [← htx] at hcall hpl hpa;have Hcall := Lib.hid hcall;have Hpa := Lib.hid hpa;clear hcall hpe htx hpa hst;go_wp2_with fail;refine Hcall.out.mono ?_;rintro e w2 ⟨rfl,hB2⟩;have hS2 := hS.keep hB2;clear hB2;go_wp2_with (at_builtin;refine wpList_app9 rfl (.tmp 40) (.tmp 43) rfl hS2 (by omega) _ (by simp [Act.eval,Act.put]) (by simp [Act.eval,Act.put]) ?_;intro v9 w9 hS9)
        go_roundg (l.length - 1)
        case measure => omega
        case rel => exact ⟨1,_,_,false,rfl,rfl,by go_num,by omega,hS9,by simp [hxl],Lib.hid (by simp),Lib.hid (by rw [flat_snoc,Hfl.out,Hpa.out];simp [spA])⟩
    | false =>
      have hk0 := of_decide_eq_false Hfb.out.symm;have hem : (l.take k).isEmpty = false := by cases h : l.take k with | nil => (have h2 := congrArg List.length h;rw [List.length_take,List.length_nil] at h2;omega) | cons a b => rfl
      rw [hem] at hpa;clear hem Hfb
      cases p with
      | null =>
        unfold TRep at hT;subst hT;have hpe : printP (ffB hi lo) .null = [110,117,108,108] := by rw [printP]
        rw [hpe] at hpa;have Hpa := Lib.hid hpa;clear hpa hpe;go_wp2_with (at_builtin;refine wpList_app9 rfl (.tmp 32) (.tmp 35) rfl hS (by omega) _ (by simp [Act.eval,Act.put]) (by simp [Act.eval,Act.put]) ?_;intro v9 w9 hS9)
        go_roundg (l.length - (k + 1))
        case measure => omega
        case rel => exact ⟨k + 1,_,_,false,rfl,rfl,by go_num,by omega,hS9,by simp [hxl],Lib.hid (by simp),Lib.hid (by rw [flat_snoc,Hfl.out,Hpa.out];simp [spA])⟩
      | bool b =>
        unfold TRep at hT;subst hT;have hcall := SB.out b wr;have hpe : printP (ffB hi lo) (.bool b) = if b then [116,114,117,101] else [102,97,108,115,101] := by rw [printP]
        rw [← hpe] at hcall;obtain ⟨tx,htx⟩ : ∃ tx,tx = printP (ffB hi lo) (.bool b) := ⟨_,rfl⟩;rw [← htx] at hcall hpl hpa;have Hcall := Lib.hid hcall;have Hpa := Lib.hid hpa;clear hcall hpe htx hpa;go_wp2_with fail;refine Hcall.out.mono ?_;rintro e w2 ⟨rfl,hB2⟩;have hS2 := hS.keep hB2;clear hB2;go_wp2_with (at_builtin;refine wpList_app9 rfl (.tmp 94) (.tmp 99) rfl hS2 (by omega) _ (by simp [Act.eval,Act.put]) (by simp [Act.eval,Act.put]) ?_;intro v9 w9 hS9)
        go_roundg (l.length - (k + 1))
        case measure => omega
        case rel => exact ⟨k + 1,_,_,false,rfl,rfl,by go_num,by omega,hS9,by simp [hxl],Lib.hid (by simp),Lib.hid (by rw [flat_snoc,Hfl.out,Hpa.out];simp [spA])⟩
      | int n =>
        unfold TRep at hT;subst hT;unfold PNum at hpn;have hcall := str_int hF n (by omega) (by omega) wr hWr;have hpe : printP (ffB hi lo) (.int n) = Lib.itoa n := by rw [printP]
        rw [← hpe] at hcall;obtain ⟨tx,htx⟩ : ∃ tx,tx = printP (ffB hi lo) (.int n) := ⟨_,rfl⟩;rw [← htx] at hcall hpl hpa;have Hcall := Lib.hid hcall;have Hpa := Lib.hid hpa;clear hcall hpe htx hpa hpn;go_wp2_with fail;refine Hcall.out.mono ?_;rintro e w2 ⟨rfl,hB2⟩;have hS2 := hS.keep hB2;clear hB2;go_wp2_with (at_builtin;refine wpList_app9 rfl (.tmp 74) (.tmp 79) rfl hS2 (by omega) _ (by simp [Act.eval,Act.put]) (by simp [Act.eval,Act.put]) ?_;intro v9 w9 hS9)
        go_roundg (l.length - (k + 1))
        case measure => omega
        case rel => exact ⟨k + 1,_,_,false,rfl,rfl,by go_num,by omega,hS9,by simp [hxl],Lib.hid (by simp),Lib.hid (by rw [flat_snoc,Hfl.out,Hpa.out];simp [spA])⟩
      | real x =>
        unfold TRep at hT;subst hT;unfold PNum at hpn;have hcall := str_real hF x wr hWr hpn.1 hpn.2.1;have hpe : printP (ffB hi lo) (.real x) = ffB hi lo x := by rw [printP]
        rw [← hpe] at hcall;obtain ⟨tx,htx⟩ : ∃ tx,tx = printP (ffB hi lo) (.real x) := ⟨_,rfl⟩;rw [← htx] at hcall hpl hpa;have Hcall := Lib.hid hcall;have Hpa := Lib.hid hpa;clear hcall hpe htx hpa hpn;go_wp2_with fail;refine Hcall.out.mono ?_;rintro e w2 ⟨rfl,hB2⟩;have hS2 := hS.keep hB2;clear hB2;go_wp2_with (at_builtin;refine wpList_app9 rfl (.tmp 84) (.tmp 89) rfl hS2 (by omega) _ (by simp [Act.eval,Act.put]) (by simp [Act.eval,Act.put]) ?_;intro v9 w9 hS9)
        go_roundg (l.length - (k + 1))
        case measure => omega
        case rel => exact ⟨k + 1,_,_,false,rfl,rfl,by go_num,by omega,hS9,by simp [hxl],Lib.hid (by simp),Lib.hid (by rw [flat_snoc,Hfl.out,Hpa.out];simp [spA])⟩
      | lit t =>
        unfold TRep at hT;subst hT;have hcall := SL.out t wr (by rw [szP] at hps;omega);have hpe : printP (ffB hi lo) (.lit t) = 40 :: (t ++ [41]) := by rw [printP]
        rw [← hpe] at hcall;obtain ⟨tx,htx⟩ : ∃ tx,tx = printP (ffB hi lo) (.lit t) := ⟨_,rfl⟩;rw [← htx] at hcall hpl hpa;have Hcall := Lib.hid hcall;have Hpa := Lib.hid hpa;clear hcall hpe htx hpa;go_wp2_with fail;refine Hcall.out.mono ?_;rintro e w2 ⟨rfl,hB2⟩;have hS2 := hS.keep hB2;clear hB2;go_wp2_with (at_builtin;refine wpList_app9 rfl (.tmp 104) (.tmp 109) rfl hS2 (by omega) _ (by simp [Act.eval,Act.put]) (by simp [Act.eval,Act.put]) ?_;intro v9 w9 hS9)
        go_roundg (l.length - (k + 1))
        case measure => omega
        case rel => exact ⟨k + 1,_,_,false,rfl,rfl,by go_num,by omega,hS9,by simp [hxl],Lib.hid (by simp),Lib.hid (by rw [flat_snoc,Hfl.out,Hpa.out];simp [spA])⟩
      | hex t =>
        unfold TRep at hT;subst hT;have hcall := SH.out t wr (by rw [szP] at hps;omega);have hpe : printP (ffB hi lo) (.hex t) = 60 :: (t ++ [62]) := by rw [printP]
        rw [← hpe] at hcall;obtain ⟨tx,htx⟩ : ∃ tx,tx = printP (ffB hi lo) (.hex t) := ⟨_,rfl⟩;rw [← htx] at hcall hpl hpa;have Hcall := Lib.hid hcall;have Hpa := Lib.hid hpa;clear hcall hpe htx hpa;go_wp2_with fail;refine Hcall.out.mono ?_;rintro e w2 ⟨rfl,hB2⟩;have hS2 := hS.keep hB2;clear hB2;go_wp2_with (at_builtin;refine wpList_app9 rfl (.tmp 114) (.tmp 119) rfl hS2 (by omega) _ (by simp [Act.eval,Act.put]) (by simp [Act.eval,Act.put]) ?_;intro v9 w9 hS9)
        go_roundg (l.length - (k + 1))
        case measure => omega
        case rel => exact ⟨k + 1,_,_,false,rfl,rfl,by go_num,by omega,hS9,by simp [hxl],Lib.hid (by simp),Lib.hid (by rw [flat_snoc,Hfl.out,Hpa.out];simp [spA])⟩
      | name t =>
        unfold TRep at hT;subst hT;have hcall := str_name t wr (by rw [szP] at hps;omega);have hpe : printP (ffB hi lo) (.name t) = 47 :: (if t = [] then [32] else encB t) := by rw [printP]
        rw [← hpe] at hcall;obtain ⟨tx,htx⟩ : ∃ tx,tx = printP (ffB hi lo) (.name t) := ⟨_,rfl⟩;rw [← htx] at hcall hpl hpa;have Hcall := Lib.hid hcall;have Hpa := Lib.hid hpa;clear hcall hpe htx hpa;go_wp2_with fail;refine Hcall.out.mono ?_;rintro e w2 ⟨rfl,hB2⟩;have hS2 := hS.keep hB2;clear hB2;go_wp2_with (at_builtin;refine wpList_app9 rfl (.tmp 66) (.tmp 69) rfl hS2 (by omega) _ (by simp [Act.eval,Act.put]) (by simp [Act.eval,Act.put]) ?_;intro v9 w9 hS9)
        go_roundg (l.length - (k + 1))
        case measure => omega
        case rel => exact ⟨k + 1,_,_,false,rfl,rfl,by go_num,by omega,hS9,by simp [hxl],Lib.hid (by simp),Lib.hid (by rw [flat_snoc,Hfl.out,Hpa.out];simp [spA])⟩
      | ref n g =>
        unfold TRep at hT;subst hT;unfold PNum at hpn;have hcall := str_ref hF n g hpn.1.1 hpn.1.2 hpn.2.1 hpn.2.2 (wr.alloc (.cells #[.int .i64 n,.int .i64 g] 107)) (hWr.alloc hWr.size _);have hpe : printP (ffB hi lo) (.ref n g) = Lib.itoa n ++ 32 :: (Lib.itoa g ++ [32,82]) := by rw [printP]
        rw [← hpe] at hcall;obtain ⟨tx,htx⟩ : ∃ tx,tx = printP (ffB hi lo) (.ref n g) := ⟨_,rfl⟩;rw [← htx] at hcall hpl hpa;have Hcall := Lib.hid hcall;have Hpa := Lib.hid hpa;clear hcall hpe htx hpa hpn;go_wp2_with fail;refine Hcall.out.mono ?_;rintro e w2 ⟨rfl,hB2⟩;have hBa := (Below.refl _ wr).alloc (Nat.le_refl _) (.cells #[.int .i64 n,.int .i64 g] 107);have hS2 := hS.keep (hBa.trans (hB2.mono hBa.size));clear hBa hB2;go_wp2_with (at_builtin;refine wpList_app9 rfl (.tmp 56) (.tmp 61) rfl hS2 (by omega) _ (by simp [Act.eval,Act.put]) (by simp [Act.eval,Act.put]) ?_;intro v9 w9 hS9)
        go_roundg (l.length - (k + 1))
        case measure => omega
        case rel => exact ⟨k + 1,_,_,false,rfl,rfl,by go_num,by omega,hS9,by simp [hxl],Lib.hid (by simp),Lib.hid (by rw [flat_snoc,Hfl.out,Hpa.out];simp [spA])⟩
      | arr l' =>
        unfold TRep at hT;obtain ⟨s',xs',rfl,hr',_,hk'⟩ := hT;unfold StrOk at hst;have hcall := hst wr F s' xs' hWr hr' hk';have hpe : printP (ffB hi lo) (.arr l') = printP (ffB hi lo) (.arr l') := by rfl
        rw [← hpe] at hcall;obtain ⟨tx,htx⟩ : ∃ tx,tx = printP (ffB hi lo) (.arr l') := ⟨_,rfl⟩;rw [← htx] at hcall hpl hpa;have Hcall := Lib.hid hcall;have Hpa := Lib.hid hpa;clear hcall hpe htx hpa hst;go_wp2_with fail;refine Hcall.out.mono ?_;rintro e w2 ⟨rfl,hB2⟩;have hS2 := hS.keep hB2;clear hB2;go_wp2_with (at_builtin;refine wpList_app9 rfl (.tmp 48) (.tmp 51) rfl hS2 (by omega) _ (by simp [Act.eval,Act.put]) (by simp [Act.eval,Act.put]) ?_;intro v9 w9 hS9)
        go_roundg (l.length - (k + 1))
        case measure => omega
        case rel => exact ⟨k + 1,_,_,false,rfl,rfl,by go_num,by omega,hS9,by simp [hxl],Lib.hid (by simp),Lib.hid (by rw [flat_snoc,Hfl.out,Hpa.out];simp [spA])⟩
      | dict ks' l' =>
        unfold TRep at hT;obtain ⟨b',vs',rfl,_,hm',hk'⟩ := hT;unfold StrOk at hst;have hcall := hst wr F b' vs' hWr hm' hk';have hpe : printP (ffB hi lo) (.dict ks' l') = printP (ffB hi lo) (.dict ks' l') := by rfl
        rw [← hpe] at hcall;obtain ⟨tx,htx⟩ : ∃ tx,tx = printP (ffB hi lo) (.dict ks' l') := ⟨_,rfl⟩;rw [← htx] at hcall hpl hpa;have Hcall := Lib.hid hcall;have Hpa := Lib.hid hpa;clear hcall hpe htx hpa hst;go_wp2_with fail;refine Hcall.out.mono ?_;rintro e w2 ⟨rfl,hB2⟩;have hS2 := hS.keep hB2;clear hB2;go_wp2_with (at_builtin;refine wpList_app9 rfl (.tmp 40) (.tmp 43) rfl hS2 (by omega) _ (by simp [Act.eval,Act.put]) (by simp [Act.eval,Act.put]) ?_;intro v9 w9 hS9)
        go_roundg (l.length - (k + 1))
        case measure => omega
        case rel => exact ⟨k + 1,_,_,false,rfl,rfl,by go_num,by omega,hS9,by simp [hxl],Lib.hid (by simp),Lib.hid (by rw [flat_snoc,Hfl.out,Hpa.out];simp [spA])⟩
  have tk : ¬ k < l.length := hk;have hte : l.take k = l := List.take_of_length_le (by omega);have hff : flat xs' ++ [93] = fin := by rw [Hfl.out,hte,Hfin.out];simp
  have Hff := Lib.hid hff;have hxs : xs'.length ≤ 1048577 := by omega
  clear Hfl Hfb hte hff;go_wp2_with (at_builtin;refine wpList_app9 rfl (.tmp 122) (.tmp 123) rfl hS (by omega) _ (by simp [Act.eval,Act.put]) (by simp [Act.eval,Act.put]) ?_;intro v9 w9 hS9);refine (join_any hS9 (by simp) (by simp;omega) (by rw [flat_snoc];simp only [Hff.out];exact hlast)).mono ?_;rintro e w2 ⟨rfl,hB2⟩;go_wp2_with fail;go_ret;exact ⟨by rw [flat_snoc];simp only [Hff.out];rfl,hS9.below.trans (hB2.mono hS9.below.size)⟩
end Go.Proofs.YtcpijmbdibgdmaaGreatDoor
