/-
  types.ObjectStreamDict: AddObject, Finalize.
  types.ObjectStreamDict: Finalize; impl.MakeStream.
  The head of an object stream, read back: plain words.
  impl.MakeStream of no objects.
  impl.MakeStream.
  Parts of a slice of bytes that is ours.
-/
import Derived.Test.YtcpijmbdibgdmaaGreatDoorMs21
import Derived.Deep.RegionHeldLaw
import Derived.Deep.RegionHeld
set_option linter.all false
set_option maxHeartbeats 16000000
set_option maxRecDepth 100000
namespace Go.Proofs.YtcpijmbdibgdmaaGreatDoor
open Go.RowKit
attribute [local go_sem] ba_get store_flt
theorem bsz (a : Array UInt8) : (ByteArray.mk a).size = a.size := rfl
theorem wpList_conv {ops : Array Oper} {rest : List Oper} {o : Oper} {a : Act} {Q : Exit → Act → World → Prop} {w : World} (hg : o.guard = none) (x : Operand) (ho : o.op = .convert 9 40 x) (B : ByteArray) (ex : a.eval x = .string B)
 (h : ∀ cap c w1 (L : List UInt8),L = B.data.toList → (∀ j (hj : j < L.length),w1.cell? ⟨c,j,none⟩ = some (bcell L[j])) → Below w.heap.size w w1 → w.heap.size ≤ c → wpList Tryz.prog ops Q rest (a.put o.dst (.slice (some ⟨c,0,none⟩) B.size cap)) w1) : wpList Tryz.prog ops Q (o :: rest) a w := by
 refine wpList_plain hg fun K' hK' => ?_
 have hrun := run_bytes_of_string w 9 40 5 B Tryz.underlying9 Tryz.underlying40 Tryz.underlying5;unfold Oper.wp execOp;simp only [ho,ex,Sem.run_bind,Sem.run_pure,hrun,Result.andThen_ok];refine hK' _ _ (h _ _ _ _ rfl ?_ ?_ (Nat.le_refl _))
 · intro j hj;have hj2 : j < B.size := by simpa using hj
   refine (World.cell?_alloc_mark w.drew _ 5 _ j).trans ?_;have := bytesRow_at B (grownCap w B.size 0 5) j hj2;rw [this];rfl
 · exact (Below.refl _ w).drew.alloc (Nat.le_refl _) _
theorem wpList_app5 {ops : Array Oper} {rest : List Oper} {o : Oper} {a : Act} {Q : Exit → Act → World → Prop} {w : World} (hgd : o.guard = none) (s x : Operand) (ho : o.op = .call { callee := .builtin .append,args := #[s,x],argTypes := #[40,40] })
 (base : Nat) (v : Value) (bs : List UInt8) (hown : Own w base v bs) (hs : a.eval s = v) (B : List UInt8) (c m cap : Nat) (hx : a.eval x = .slice (some ⟨c,0,none⟩) m cap) (hm : B.length = m) (hcells : ∀ j (hj : j < B.length),w.cell? ⟨c,j,none⟩ = some (bcell B[j])) (hb : base ≤ w.heap.size) (hlen : bs.length + m ≤ 1000000000)
 (h : ∀ v' w',Own w' base v' (bs ++ B) → w.grownBy w' v.ownBlock → (v'.ownBlock = v.ownBlock ∨ v'.ownBlock = some w.heap.size) → wpList Tryz.prog ops Q rest (a.put o.dst v') w') : wpList Tryz.prog ops Q (o :: rest) a w := by
 obtain ⟨i0,hi,hz0,hz1,hz2⟩ := info_parts Tryz.info5;refine wpList_append_own_at w hgd s x 40 ho base 5 i0 (.int .u8 0) 1 1 Tryz.underlying40 hi hz0 hz1 hz2 rfl (by decide) v bs.length (bs.map bcell) hs hown ⟨c,0,none⟩ m cap (B.map bcell) hx (by simp [hm]) ?_ ?_ (by unfold maxLen;omega) (by omega) hb ?_
 · intro j u hj;rw [List.getElem?_map] at hj;obtain ⟨y,hy,rfl⟩ := Option.map_eq_some_iff.1 hj;obtain ⟨hj2,rfl⟩ := List.getElem?_eq_some_iff.1 hy;have hadd : (⟨c,0,none⟩ : Addr).add j = ⟨c,j,none⟩ := by unfold Addr.add;split <;> simp_all
   rw [hadd];exact hcells j hj2
 · intro u hu;obtain ⟨y,_,rfl⟩ := List.mem_map.1 hu;rfl
 · intro v' w' h1 h2 _ h4;refine h v' w' ?_ h2 h4;unfold Own;have : (bs ++ B).length = bs.length + m := by simp [hm]
   rw [this,List.map_append];exact h1
structure OS4 (w wr : World) (q : Nat) (C : Array Value) (cv pv : Value) (cb pb : List UInt8) : Prop where
 blk : Blk wr q 82 C
 oc : Own wr (q + 1) cv cb
 op : Own wr (q + 1) pv pb
 ne : ∀ g,cv.ownBlock = some g → pv.ownBlock ≠ some g
 below : Below w.heap.size w wr
 hq : w.heap.size ≤ q
section
variable {w wr w' : World} {q : Nat} {C : Array Value} {cv pv : Value} {cb pb : List UInt8}
theorem OS4.keep (h : OS4 w wr q C cv pv cb pb) (hB : Below wr.heap.size wr w') : OS4 w w' q C cv pv cb pb :=
 ⟨h.blk.below hB h.blk.lt,ownsRow_keepB h.oc (fun g hg => hB.block g (Own.lt h.oc g hg).2),ownsRow_keepB h.op (fun g hg => hB.block g (Own.lt h.op g hg).2),h.ne,h.below.trans (hB.mono h.below.size),h.hq⟩
theorem OS4.set_ (h : OS4 w wr q C cv pv cb pb) (i : Nat) (u : Value) : OS4 w (wr.setCell ⟨q,i,none⟩ u) q (C.setIfInBounds i u) cv pv cb pb :=
 ⟨h.blk.set_ i u,Own.set h.oc (by simp only;omega) u,Own.set h.op (by simp only;omega) u,h.ne,h.below.setCell (by have := h.hq;simp only;omega) _,h.hq⟩
theorem OS4.base (h : OS4 w wr q C cv pv cb pb) : q + 1 ≤ wr.heap.size := h.blk.lt
theorem OS4.appp (h : OS4 w wr q C cv pv cb pb) {pv' : Value} {pb' : List UInt8} (ho : Own w' (q + 1) pv' pb') (hg : wr.grownBy w' pv.ownBlock) (hat : pv'.ownBlock = pv.ownBlock ∨ pv'.ownBlock = some wr.heap.size) : OS4 w w' q C cv pv' cb pb' := by
 have hl := Own.lt h.op;have hc := Own.lt h.oc;have hq := h.hq;refine ⟨Blk.grown h.blk hg (fun e => by have := hl _ e.symm;omega),ownsRow_keepB h.oc (fun g hg' => hg.block g (hc g hg').2 (fun e => h.ne g hg' e.symm)),ho,fun g hg' e => ?_,h.below.grown hg h.below.size (fun k hk => by have := hl k hk;omega),hq⟩;rcases hat with hat | hat
 · exact h.ne g hg' (hat.symm.trans e)
 rw [hat] at e;injection e with e;have := hc g hg';omega
theorem OS4.appc (h : OS4 w wr q C cv pv cb pb) {cv' : Value} {cb' : List UInt8} (ho : Own w' (q + 1) cv' cb') (hg : wr.grownBy w' cv.ownBlock) (hat : cv'.ownBlock = cv.ownBlock ∨ cv'.ownBlock = some wr.heap.size) : OS4 w w' q C cv' pv cb' pb := by
 have hl := Own.lt h.oc;have hc := Own.lt h.op;have hq := h.hq;refine ⟨Blk.grown h.blk hg (fun e => by have := hl _ e.symm;omega),ho,ownsRow_keepB h.op (fun g hg' => hg.block g (hc g hg').2 (fun e => h.ne g e.symm hg')),fun g hg' e => ?_,h.below.grown hg h.below.size (fun k hk => by have := hl k hk;omega),hq⟩;rcases hat with hat | hat
 · exact h.ne g (hat.symm.trans hg') e
 rw [hat] at hg';injection hg' with hg';have := hc g e;omega
end
theorem os_cells {w : World} {q : Nat} {dm pl cv pv : Value} {cnt first : Int} (h : Blk w q 82 (osC dm pl cv pv cnt first)) :
 w.cell? ⟨q,6,none⟩ = some cv ∧ w.cell? ⟨q,9,none⟩ = some pv ∧ w.cell? ⟨q,10,none⟩ = some (.int .i64 cnt) ∧ w.cell? ⟨q,11,none⟩ = some (.int .i64 first) ∧ w.frozen? ⟨q,6,none⟩ = false ∧ w.frozen? ⟨q,9,none⟩ = false ∧ w.frozen? ⟨q,10,none⟩ = false ∧ w.frozen? ⟨q,11,none⟩ = false :=
 ⟨h.cell 6,h.cell 9,h.cell 10,h.cell 11,h.frozen 6,h.frozen 9,h.frozen 10,h.frozen 11⟩
theorem own_slice {w : World} {base : Nat} {v : Value} {bs : List UInt8} (h : Own w base v bs) : ∃ p c,v = .slice p bs.length c := by
 rcases h.2 with ⟨rfl,h0⟩ | ⟨g,cap,cur,rfl,_⟩
 · exact ⟨_,_,by rw [h0]⟩
 exact ⟨_,_,rfl⟩
def AddPost (w0 : World) (q : Nat) (dm pl : Value) (cnt : Nat) (cb pb : List UInt8) (e : Ending) (w' : World) : Prop := e = .returned .nilIface ∧ ∃ cv' pv',OS4 w0 w' q (osC dm pl cv' pv' ((cnt + 1 : Nat) : Int) 0) cv' pv' cb pb
theorem addobj_any {hi lo : Nat → Nat} {W0 : World} (hF : FFW hi lo W0) (w0 w : World) (q : Nat) (dm pl cv pv : Value) (cnt : Nat) (cb pb : List UInt8) (n : Nat) (t : List UInt8) (hW : Below W0.heap.size W0 w) (h : OS4 w0 w q (osC dm pl cv pv cnt 0) cv pv cb pb) (hn : n ≤ 1048576) (hc : cnt ≤ 1000) (hcb : cb.length + t.length ≤ 500000000) (hpb : pb.length ≤ 500000000) :
 Calls Tryz.prog 31 #[.pointer (some ⟨q,0,none⟩),.int .i64 n,S t] w (AddPost w0 q dm pl cnt (cb ++ t) (pb ++ ((if cnt = 0 then [] else [32]) ++ (Lib.itoa n ++ 32 :: Lib.itoa (cb.length : Nat))))) := by
 have hI : ∀ (m : Nat),m ≤ 1000000000 → Hid (∀ w2,Below w.heap.size w w2 → Calls Tryz.prog 66 #[.int .i64 m] w2 fun e w' => e = .returned (S (Lib.itoa m)) ∧ Below w2.heap.size w2 w') ∧ (Lib.itoa (m : Int)).length ≤ 20 := fun m hm => ⟨Lib.hid (fun w2 h => (Tryz.strconv_Itoa m (by omega) (by omega) w2 (hF.ten w2 (hW.trans (h.mono hW.size)))).mono (by
  rintro e w' ⟨rfl,k,os,rfl⟩
  exact ⟨rfl,Go.Lib.below_grow _ _ (Nat.le_refl _) _ _⟩)),itoa_len (by omega) (by omega)⟩
 obtain ⟨H1,hl1⟩ := hI n (by omega);obtain ⟨H2,hl2⟩ := hI cb.length (by omega);obtain ⟨a,ha⟩ : ∃ a,a = Lib.itoa (n : Int) := ⟨_,rfl⟩;obtain ⟨c,hc2⟩ : ∃ a,a = Lib.itoa (cb.length : Int) := ⟨_,rfl⟩;rw [← ha] at hl1 H1 ⊢;rw [← hc2] at hl2 H2 ⊢;obtain ⟨cp,cc,rfl⟩ := own_slice h.oc;obtain ⟨pp,pc,rfl⟩ := own_slice h.op;obtain ⟨k6,k9,k10,k11,f6,f9,f10,f11⟩ := os_cells h.blk;have hS := h;clear ha hc2 hI hW h;by_cases hc0 : cnt = 0
 · have tc : decide ((0 : Int) < (cnt : Int)) = false := by rw [decide_eq_false_iff_not];omega
   subst hc0;rw [if_pos rfl];go_enter Tryz.func31,Tryz.ntmps31;go_wp2_with fail;refine (H1.out _ (Below.refl _ _)).mono ?_;rintro e w2 ⟨rfl,hB2⟩;have hS := hS.keep hB2;go_wp2_with fail;refine (H2.out _ hB2).mono ?_;rintro e w3 ⟨rfl,hB3⟩;have hS := hS.keep hB3;obtain ⟨k6,k9,k10,k11,f6,f9,f10,f11⟩ := os_cells hS.blk;clear hB2 hB3
   go_upto_region 7 with (first
    | (refine wpList_conv rfl _ rfl _ rfl ?_;intro cap1 c1 w4 L hL hc1 hB4 _;have hS := hS.keep hB4;obtain ⟨k6,k9,k10,k11,f6,f9,f10,f11⟩ := os_cells hS.blk)
    | (at_builtin;refine wpList_app5 rfl _ _ rfl (q + 1) _ pb hS.op rfl L c1 _ cap1 rfl (by rw [hL];simp [bsz] <;> omega) hc1 hS.base (by simp [bsz] <;> omega) ?_;intro pv' w5 ho5 hg5 hat5;have hS := hS.appp ho5 hg5 hat5;obtain ⟨p5,n5,q5,rfl⟩ := ownsRow_slice ho5;obtain ⟨k6,k9,k10,k11,f6,f9,f10,f11⟩ := os_cells hS.blk))
   have HL := Lib.hid hL;clear hL;refine wp_gen (fun wr => OS4 w0 wr q (osC dm pl (.slice cp cb.length cc) (.slice p5 n5 q5) ((0 : Nat) : Int) 0) (.slice cp cb.length cc) (.slice p5 n5 q5) cb (pb ++ L)) (hS.set_ 9 _) ?_;clear hS k6 k9 k10 k11 f6 f9 f10 f11 hc1;intro w6 hS;obtain ⟨k6,k9,k10,k11,f6,f9,f10,f11⟩ := os_cells hS.blk
   go_wp2_with (first
    | (refine wpList_conv rfl _ rfl _ rfl ?_;intro cap2 c2 w7 L2 hL2 hc2 hB7 _;have hS := hS.keep hB7;obtain ⟨k6,k9,k10,k11,f6,f9,f10,f11⟩ := os_cells hS.blk)
    | (at_builtin;refine wpList_app5 rfl _ _ rfl (q + 1) _ cb hS.oc rfl L2 c2 _ cap2 rfl (by rw [hL2];simp [bsz] <;> omega) hc2 hS.base (by simp [bsz] <;> omega) ?_;intro cv' w8 ho8 hg8 hat8;have hS := hS.appc ho8 hg8 hat8;obtain ⟨p8,n8,q8,rfl⟩ := ownsRow_slice ho8;obtain ⟨k6,k9,k10,k11,f6,f9,f10,f11⟩ := os_cells hS.blk))
   go_ret;have hLe : L = [] ++ (a ++ 32 :: c) := by rw [HL.out];simp
   have hL2e : L2 = t := by rw [hL2]
   have hf := (hS.set_ 6 (.slice p8 n8 q8)).set_ 10 (.int .i64 ((0 + 1 : Nat) : Int));rw [hLe,hL2e] at hf;exact ⟨rfl,.slice p8 n8 q8,.slice p5 n5 q5,hf⟩
 · have tc : decide ((0 : Int) < (cnt : Int)) = true := by rw [decide_eq_true_eq];omega
   rw [if_neg hc0];go_enter Tryz.func31,Tryz.ntmps31;go_wp2_with fail;refine (H1.out _ (Below.refl _ _)).mono ?_;rintro e w2 ⟨rfl,hB2⟩;have hS := hS.keep hB2;go_wp2_with fail;refine (H2.out _ hB2).mono ?_;rintro e w3 ⟨rfl,hB3⟩;have hS := hS.keep hB3;obtain ⟨k6,k9,k10,k11,f6,f9,f10,f11⟩ := os_cells hS.blk;clear hB2 hB3
   go_upto_region 7 with (first
    | (refine wpList_conv rfl _ rfl _ rfl ?_;intro cap1 c1 w4 L hL hc1 hB4 _;have hS := hS.keep hB4;obtain ⟨k6,k9,k10,k11,f6,f9,f10,f11⟩ := os_cells hS.blk)
    | (at_builtin;refine wpList_app5 rfl _ _ rfl (q + 1) _ pb hS.op rfl L c1 _ cap1 rfl (by rw [hL];simp [bsz] <;> omega) hc1 hS.base (by simp [bsz] <;> omega) ?_;intro pv' w5 ho5 hg5 hat5;have hS := hS.appp ho5 hg5 hat5;obtain ⟨p5,n5,q5,rfl⟩ := ownsRow_slice ho5;obtain ⟨k6,k9,k10,k11,f6,f9,f10,f11⟩ := os_cells hS.blk))
   have HL := Lib.hid hL;clear hL;refine wp_gen (fun wr => OS4 w0 wr q (osC dm pl (.slice cp cb.length cc) (.slice p5 n5 q5) cnt 0) (.slice cp cb.length cc) (.slice p5 n5 q5) cb (pb ++ L)) (hS.set_ 9 _) ?_;clear hS k6 k9 k10 k11 f6 f9 f10 f11 hc1;intro w6 hS;obtain ⟨k6,k9,k10,k11,f6,f9,f10,f11⟩ := os_cells hS.blk
   go_wp2_with (first
    | (refine wpList_conv rfl _ rfl _ rfl ?_;intro cap2 c2 w7 L2 hL2 hc2 hB7 _;have hS := hS.keep hB7;obtain ⟨k6,k9,k10,k11,f6,f9,f10,f11⟩ := os_cells hS.blk)
    | (at_builtin;refine wpList_app5 rfl _ _ rfl (q + 1) _ cb hS.oc rfl L2 c2 _ cap2 rfl (by rw [hL2];simp [bsz] <;> omega) hc2 hS.base (by simp [bsz] <;> omega) ?_;intro cv' w8 ho8 hg8 hat8;have hS := hS.appc ho8 hg8 hat8;obtain ⟨p8,n8,q8,rfl⟩ := ownsRow_slice ho8;obtain ⟨k6,k9,k10,k11,f6,f9,f10,f11⟩ := os_cells hS.blk))
   go_ret;have hLe : L = [32] ++ (a ++ 32 :: c) := by rw [HL.out];simp
   have hL2e : L2 = t := by rw [hL2]
   have hf := (hS.set_ 6 (.slice p8 n8 q8)).set_ 10 (.int .i64 ((cnt + 1 : Nat) : Int));rw [hLe,hL2e] at hf;exact ⟨rfl,.slice p8 n8 q8,.slice p5 n5 q5,hf⟩
end Go.Proofs.YtcpijmbdibgdmaaGreatDoor
namespace Go.Proofs.YtcpijmbdibgdmaaGreatDoor
open Go.RowKit
attribute [local go_sem] ba_get store_flt
theorem step_app5 {w : World} {ops : Array Oper} {o : Oper} {a : Act} {K : Act → World → Prop} {Q : Exit → Act → World → Prop} {E : Prop} (hgd : o.guard = none) (s x : Operand) (ho : o.op = .call { callee := .builtin .append,args := #[s,x],argTypes := #[40,40] })
 (base : Nat) (v : Value) (bs : List UInt8) (hown : Own w base v bs) (hs : a.eval s = v) (base2 : Nat) (v2 : Value) (B : List UInt8) (hown2 : Own w base2 v2 B) (hx : a.eval x = v2) (hB : 0 < B.length) (hb : base ≤ w.heap.size) (hlen : bs.length + B.length ≤ 2000000000)
 (h : ∀ g n cap w',n = bs.length + B.length → Own w' base (.slice (some ⟨g,0,none⟩) n cap) (bs ++ B) → w.grownBy w' v.ownBlock → (v.ownBlock = some g ∨ g = w.heap.size) → K (a.put o.dst (.slice (some ⟨g,0,none⟩) n cap)) w') :
 if Region.wanted o (yielded ops a.tmps) = true then Oper.wp Tryz.prog o a w K Q else E := by
 obtain ⟨i0,hi,hz0,hz1,hz2⟩ := info_parts Tryz.info5;have h2 := hown2;rcases hown2.2 with ⟨_,h0⟩ | ⟨g2,cap2,cur2,rfl,_⟩
 · omega
 · refine step_append_lies w hgd s x 40 ho base 5 i0 (.int .u8 0) 1 1 Tryz.underlying40 hi hz0 hz1 hz2 rfl (by decide) v bs.length (bs.map bcell) hs hown ⟨g2,0,none⟩ B.length cap2 (B.map bcell) hx (by simp) ?_ ?_ hB (by unfold maxLen;omega) (by omega) hb _ rfl ?_
   · intro j u hj;have hj2 : j < B.length := by have := (List.getElem?_eq_some_iff.1 hj).1;simpa using this
     have hadd : (⟨g2,0,none⟩ : Addr).add j = ⟨g2,j,none⟩ := by unfold Addr.add;split <;> simp_all
     rw [hadd,World.ownsRow.cellAt h2 j (by omega)];exact hj
   · intro u hu;obtain ⟨y,_,rfl⟩ := List.mem_map.1 hu;rfl
   intro g cap w' h1 h3 h4 _;refine h g _ cap w' rfl ?_ h3 h4;unfold Own;rw [List.length_append,List.map_append];exact h1
theorem wpList_app5o {w : World} {ops : Array Oper} {rest : List Oper} {o : Oper} {a : Act} {Q : Exit → Act → World → Prop} (hgd : o.guard = none) (s x : Operand) (ho : o.op = .call { callee := .builtin .append,args := #[s,x],argTypes := #[40,40] })
 (base : Nat) (v : Value) (bs : List UInt8) (hown : Own w base v bs) (hs : a.eval s = v) (base2 : Nat) (v2 : Value) (B : List UInt8) (hown2 : Own w base2 v2 B) (hx : a.eval x = v2) (hB : 0 < B.length) (hb : base ≤ w.heap.size) (hlen : bs.length + B.length ≤ 1000000000)
 (h : ∀ v' w',Own w' base v' (bs ++ B) → w.grownBy w' v.ownBlock → (v'.ownBlock = v.ownBlock ∨ v'.ownBlock = some w.heap.size) → wpList Tryz.prog ops Q rest (a.put o.dst v') w') : wpList Tryz.prog ops Q (o :: rest) a w := by
 have h2 := hown2;rcases hown2.2 with ⟨_,h0⟩ | ⟨g2,cap2,cur2,rfl,_⟩
 · omega
 · refine wpList_app5 hgd s x ho base v bs hown hs B g2 B.length cap2 hx rfl (fun j hj => ?_) hb hlen h;rw [World.ownsRow.cellAt h2 j (by omega),List.getElem?_map,List.getElem?_eq_getElem hj];rfl
def FinPost (w : World) (q : Nat) (dm pl pv : Value) (cnt : Int) (cb pb : List UInt8) (e : Ending) (w' : World) : Prop :=
 e = .returned (.tuple #[]) ∧ ∃ nv,Blk w' q 82 (osC dm pl nv pv cnt pb.length) ∧ Own w' (q + 1) nv (pb ++ cb) ∧ w.heap.size ≤ w'.heap.size ∧ w'.os = w.os ∧ w'.tape = w.tape ∧ w'.output = w.output ∧ ∀ i,i < w.heap.size → i ≠ q → pv.ownBlock ≠ some i → w'.heap[i]? = w.heap[i]?
theorem fin_any (w0 w : World) (q : Nat) (dm pl cv pv : Value) (cnt : Int) (cb pb : List UInt8) (h : OS4 w0 w q (osC dm pl cv pv cnt 0) cv pv cb pb) (hcb : 0 < cb.length) (hlen : pb.length + cb.length ≤ 1000000000) (hcl : cb.length ≤ 500000000) (hpl : pb.length ≤ 500000000) :
 Calls Tryz.prog 32 #[.pointer (some ⟨q,0,none⟩)] w (FinPost w q dm pl pv cnt cb pb) := by
 obtain ⟨cp,cn,cc,rfl⟩ := ownsRow_slice h.oc;obtain ⟨pp,pc,hpv⟩ := own_slice h.op;subst hpv;obtain ⟨k6,k9,k10,k11,f6,f9,f10,f11⟩ := os_cells h.blk;have hS := h;have HS0 := Lib.hid h;clear h;have k6' : w.drew.cell? ⟨q,6,none⟩ = _ := k6;have k9' : w.drew.cell? ⟨q,9,none⟩ = _ := k9;have hS : OS4 w0 w.drew q _ _ _ cb pb := hS.keep (Below.refl _ w).drew;go_enter Tryz.func32,Tryz.ntmps32;go_wp2_with fail
 go_region_law (first | (refine step_app5 rfl _ _ rfl (q + 1) _ pb hS.op rfl (q + 1) _ cb hS.oc rfl hcb hS.base (by omega) ?_;intro g n cap w5 hn ho5 hg5 hat5;have hbk := Blk.grown hS.blk hg5 (fun e => by have := Own.lt hS.op _ e.symm;omega);obtain ⟨k62,k92,k102,k112,f62,f92,f102,f112⟩ := os_cells hbk))
 all_goals
  go_wp2_with fail
  go_end0
  subst hn;have hb6 := Blk.set_ (Blk.set_ hbk 6 (.slice (some ⟨g,0,none⟩) (pb.length + cb.length) cap)) 11 (.int .i64 (pb.length : Nat))
  have hgq : g ≠ q := fun e => by
   rcases hat5 with h | h
   · have := Own.lt hS.op _ h;omega
   have := hS.blk.lt;omega
  refine ⟨rfl,_,hb6,Own.set (Own.set ho5 (by simp only;omega) _) (by simp only;omega) _,?_,hg5.os,hg5.tape,hg5.output,fun i hi hne hpi => ?_⟩
  · have := hg5.size;simpa [World.setCell] using this
  · exact ((Below.heap_setCell _ _ _ _ hne).trans (Below.heap_setCell _ _ _ _ hne)).trans (hg5.block i hi (fun e => hpi e.symm))
end Go.Proofs.YtcpijmbdibgdmaaGreatDoor
namespace Go.Proofs.YtcpijmbdibgdmaaGreatDoor
open Go.RowKit
theorem headT_stop (l : List (Int × Nat)) : Stop (headT false l) := by
 intro b r e
 cases l with
 | nil => rw [headT] at e;cases e
 | cons a l =>
   obtain ⟨n,k⟩ := a;rw [headT] at e;injection e with e _;subst e;decide
theorem headT_at : ∀ (l : List (Int × Nat)) (f : Bool) (i : Nat) (h : i < l.length),(headT f l).drop (headT f (l.take i)).length = (if (f && decide (i = 0)) = true then [] else [32]) ++ (Lib.itoa l[i].1 ++ 32 :: (Lib.itoa l[i].2 ++ headT false (l.drop (i + 1))))
 | [],f,i,h => by simp at h
 | (n,k) :: l,f,0,_ => by cases f <;> simp [headT]
 | (n,k) :: l,f,i + 1,h => by
   have ih := headT_at l false i (by simpa using h);have e : headT f ((n,k) :: l) = ((if f = true then [] else [32]) ++ (Lib.itoa n ++ 32 :: Lib.itoa k)) ++ headT false l := by rw [headT];simp
   have e2 : headT f ((n,k) :: l.take i) = ((if f = true then [] else [32]) ++ (Lib.itoa n ++ 32 :: Lib.itoa k)) ++ headT false (l.take i) := by rw [headT];simp
   rw [List.take_succ_cons,e,e2,List.length_append,← List.drop_drop,List.drop_left,ih];simp
theorem headT_len (l : List (Int × Nat)) (i : Nat) (h : i < l.length) : (headT true (l.take (i + 1))).length = (headT true (l.take i)).length + ((if i = 0 then 0 else 1) + ((Lib.itoa l[i].1).length + (1 + (Lib.itoa (l[i].2 : Nat)).length))) := by
 have e : l.take (i + 1) = l.take i ++ [(l[i].1,l[i].2)] := by rw [List.take_succ_eq_append_getElem h]
 rw [e,headT_snoc]
 have he : (l.take i).isEmpty = decide (i = 0) := by
  cases i with
  | zero => rfl
  | succ i => cases l with
    | nil => simp at h
    | cons a l => rfl
 rw [he];by_cases h0 : i = 0
 · subst h0;simp;omega
 simp [h0];omega
theorem itoa_nat {u : Nat} (hu : u < 1000000000000000000) : Lib.itoa (u : Int) = Lib.decDigits u ∧ Lib.atoiAll (Lib.itoa (u : Int)) = .ok (u : Int) := by
 have e : Lib.itoa (u : Int) = Lib.decDigits u := by
  unfold Lib.itoa;rw [if_neg (by omega)];simp
 exact ⟨e,by rw [e];exact (atoi_dd hu).1⟩
theorem itoa_reg {u : Nat} : (∀ b ∈ Lib.itoa (u : Int),regB b = true) ∧ ∃ b r,Lib.itoa (u : Int) = b :: r ∧ SB b := by
 have e : Lib.itoa (u : Int) = Lib.decDigits u := by
  unfold Lib.itoa;rw [if_neg (by omega)];simp
 rw [e];have hd := dd_digits u u (Nat.le_refl _);have hn := dd_ne u;have hr : ∀ b ∈ Lib.decDigits u,regB b = true := fun b hb => numB_reg (.inl (hd b hb))
 refine ⟨hr,?_⟩
 cases hc : Lib.decDigits u with
 | nil => exact absurd hc hn
 | cons b r => exact ⟨b,r,rfl,reg_SB (hr b (by rw [hc];simp))⟩
theorem head_word {s r ws : List UInt8} {k u : Nat} {o o2 : Bool} (hw : WS ws) (h : s.drop k = ws ++ (Lib.itoa (u : Int) ++ r)) (hr : Stop r) :
 (skipAt s k o).1 = k + ws.length ∧ (wordAt s (k + ws.length) o2).1 = Lib.itoa (u : Int) ∧ (wordAt s (k + ws.length) o2).2.1 = k + ws.length + (Lib.itoa (u : Int)).length ∧ s.drop (k + ws.length + (Lib.itoa (u : Int)).length) = r := by
 obtain ⟨hreg,b,r',e,hb⟩ := itoa_reg (u := u);have h' := h;rw [e] at h';obtain ⟨h1,h2⟩ := skip_ws (o := o) (by rw [h'];rfl) hw hb;have h3 : s.drop (k + ws.length) = Lib.itoa (u : Int) ++ r := by rw [h2,e];rfl
 obtain ⟨w1,w2,w3⟩ := word_run (o := o2) h3 hreg hr;exact ⟨by rw [h1],w1,w2,w3⟩
end Go.Proofs.YtcpijmbdibgdmaaGreatDoor
namespace Go.Proofs.YtcpijmbdibgdmaaGreatDoor
open Go.RowKit
attribute [local go_sem] ba_get store_flt
theorem own_empty2 (w : World) {base : Nat} (hb : base ≤ w.heap.size) : Own (w.alloc (.cells #[] 5)) base (.slice (some ⟨w.heap.size,0,none⟩) 0 0) [] := by
 have h := World.ownsRow_made (e := 5) (size := 1) w #[] 0 (Nat.le_refl _) (by unfold maxLen;omega) rfl;refine ⟨h.1,?_⟩;rcases h.2 with hn | ⟨g,cap,cur,hv,hbg,rest⟩
 · exact .inl hn
 exact .inr ⟨g,cap,cur,hv,Nat.le_trans hb hbg,rest⟩
def MkNil (w : World) (e : Ending) (w' : World) : Prop := ∃ pv cv,e = .returned (.tuple #[pv,cv,.int .i64 0,.int .i64 0,.bool true]) ∧ Own w' w.heap.size pv [] ∧ Own w' w.heap.size cv [] ∧ Below w.heap.size w w'
def FinNil (w : World) (q : Nat) (dm pl : Value) (e : Ending) (w' : World) : Prop :=
 e = .returned (.tuple #[]) ∧ Blk w' q 82 (osC dm pl (.slice none 0 0) (.slice none 0 0) 0 0) ∧ Only w w' q
theorem fin_nil (w : World) (q : Nat) (dm pl : Value) (h : Blk w q 82 (osC dm pl (.slice none 0 0) (.slice none 0 0) 0 0)) :
 Calls Tryz.prog 32 #[.pointer (some ⟨q,0,none⟩)] w (FinNil w q dm pl) := by
 obtain ⟨k6,k9,k10,k11,f6,f9,f10,f11⟩ := os_cells h;have hb := h;go_enter Tryz.func32,Tryz.ntmps32;go_wp2_with fail
 go_region
 all_goals
  go_wp2_with fail
  go_end0
  have hb6 := Blk.set_ (Blk.set_ hb 6 (.slice none 0 0)) 11 (.int .i64 0);exact ⟨rfl,hb6,by repeat first | with_reducible exact only_refl _ _ | refine only_set ?_ _ _ | refine only_drew ?_⟩
theorem make_nil {W0 : World} (hE : EV18 W0) (A T : Option Addr) (nc tc : Nat) (w : World) (hW : Below W0.heap.size W0 w) :
 Calls Tryz.prog 13 #[.slice A 0 nc,.slice T 0 tc] w (MkNil w) := by
 have Hn := Lib.hid (newosd_any W0 hE w hW);go_enter Tryz.func13,Tryz.ntmps13;go_wp2_with fail;refine Hn.out.mono ?_;rintro e w1 ⟨q,dm,pl,rfl,hq,⟨bm,rfl⟩,⟨p1,p2,p3,rfl⟩,hblk,hB1⟩;clear Hn;have hblk' : Blk w1 q 82 (osC (.map (some bm)) (.slice p1 p2 p3) (.slice none 0 0) (.slice none 0 0) 0 0) := hblk;obtain ⟨k6,k9,k10,k11,f6,f9,f10,f11⟩ := os_cells hblk';have lq := hblk'.lt;go_wp2_with fail
 go_loopg [21] 0 (fun g j wr => j = .int .i64 0 ∧ w1 = wr)
 case atStart => exact ⟨by go_num,rfl⟩
 case round =>
  obtain ⟨rfl,rfl⟩ := hrel;go_wp2_with fail;have hb2 := hblk'.alloc (.cells #[] 5);have hB2 := hB1.alloc hB1.size (.cells #[] 5);have ho2 := own_empty2 w1 (base := w.heap.size) hB1.size;refine (fin_nil _ q (.map (some bm)) (.slice p1 p2 p3) hb2).mono ?_;rintro e w3 ⟨rfl,hb3,hO3⟩;have hB3 := hB2.grown hO3 hB2.size (fun k hk => by injection hk with hk;omega);have ho3 : Own w3 w.heap.size (.slice (some ⟨w1.heap.size,0,none⟩) 0 0) [] := ownsRow_keepB ho2 (fun g hg => hO3.block g (Own.lt ho2 g hg).2 (fun e => by injection e with e;injection hg with hg;simp only at hg;omega));have Ho3 := Lib.hid ho3;have HB3 := Lib.hid hB3;clear k6 k9 k10 k11 f6 f9 f10 f11 hO3 hb2 hB2 ho2 ho3 hB3 hB1 hblk hblk';obtain ⟨g1,hg1⟩ : ∃ g,g = w1.heap.size := ⟨_,rfl⟩;rw [← hg1] at Ho3 ⊢;clear hg1 lq;obtain ⟨k6,k9,k10,k11,f6,f9,f10,f11⟩ := os_cells hb3;have lq := hb3.lt;go_wp2_with fail;have k6' : w3.drew.cell? ⟨q,6,none⟩ = _ := k6;have k10' : w3.drew.cell? ⟨q,10,none⟩ = _ := k10;have k11' : w3.drew.cell? ⟨q,11,none⟩ = _ := k11
  have ka : ∀ o : Obj,(w3.alloc o).drew.cell? ⟨q,6,none⟩ = some (.slice none 0 0) ∧ (w3.alloc o).drew.cell? ⟨q,10,none⟩ = some (.int .i64 0) ∧ (w3.alloc o).drew.cell? ⟨q,11,none⟩ = some (.int .i64 0) := fun o => by
   have h := os_cells (hb3.alloc o);exact ⟨h.1,h.2.2.1,h.2.2.2.1⟩
  have Hka := Lib.hid ka;clear ka
  go_region_held (fun w' => w'.cell? ⟨q,6,none⟩ = some (.slice none 0 0) ∧ w'.cell? ⟨q,10,none⟩ = some (.int .i64 0) ∧ w'.cell? ⟨q,11,none⟩ = some (.int .i64 0)) (first | with_reducible exact ⟨k6',k10',k11'⟩ | with_reducible exact Hka.out _) (fail)
  all_goals
   go_wp2_with fail;refine bodyPost_ret (v := .tuple #[.slice (some ⟨g1,0,none⟩) 0 0,.slice (some ⟨w3.heap.size,0,none⟩) 0 0,.int .i64 0,.int .i64 0,.bool true]) (by simp [results,Tryz.results13,go_sem]) rfl ?_;have hs3 := HB3.out.size;exact ⟨_,_,rfl,Own.drew (Own.alloc Ho3.out _),Own.drew (own_empty2 w3 hs3),(HB3.out.alloc hs3 _).drew⟩
end Go.Proofs.YtcpijmbdibgdmaaGreatDoor
namespace Go.Proofs.YtcpijmbdibgdmaaGreatDoor
open Go.RowKit
attribute [local go_sem] ba_get store_flt
def catT (ts : List (List UInt8)) : List UInt8 := ts.flatten
theorem catT_snoc (ts : List (List UInt8)) (t : List UInt8) : catT (ts ++ [t]) = catT ts ++ t := by simp [catT]
def headL : List Nat → List (List UInt8) → Nat → List (Int × Nat)
 | n :: ns,t :: ts,k => ((n : Int),k) :: headL ns ts (k + t.length)
 | _,_,_ => []
theorem headL_snoc : ∀ (ns : List Nat) (ts : List (List UInt8)) (k n : Nat) (t : List UInt8),ns.length = ts.length → headL (ns ++ [n]) (ts ++ [t]) k = headL ns ts k ++ [((n : Int),k + (catT ts).length)]
 | [],[],k,n,t,_ => by simp [headL,catT]
 | a :: ns,b :: ts,k,n,t,h => by
   rw [List.cons_append,List.cons_append,headL,headL,headL_snoc ns ts _ n t (by simpa using h)];simp [catT,Nat.add_assoc]
 | [],_ :: _,_,_,_,h => by simp at h
 | _ :: _,[],_,_,_,h => by simp at h
theorem headL_len : ∀ (ns : List Nat) (ts : List (List UInt8)) (k : Nat),ns.length = ts.length → (headL ns ts k).length = ns.length
 | [],[],_,_ => rfl
 | a :: ns,b :: ts,k,h => by rw [headL,List.length_cons,headL_len ns ts _ (by simpa using h),List.length_cons]
 | [],_ :: _,_,h => by simp at h
 | _ :: _,[],_,h => by simp at h
theorem headL_mem : ∀ (ns : List Nat) (ts : List (List UInt8)) (k : Nat) (q : Int × Nat),q ∈ headL ns ts k → ∃ n ∈ ns,q.1 = (n : Int) ∧ q.2 ≤ k + (catT ts).length
 | [],[],_,q,h => by simp [headL] at h
 | a :: ns,b :: ts,k,q,h => by
   rw [headL] at h;rcases List.mem_cons.1 h with rfl | h
   · exact ⟨a,by simp,rfl,by simp⟩
   obtain ⟨n,h1,h2,h3⟩ := headL_mem ns ts _ q h;refine ⟨n,by simp [h1],h2,?_⟩;have : (catT (b :: ts)).length = b.length + (catT ts).length := by simp [catT]
   omega
 | [],_ :: _,_,q,h => by simp [headL] at h
 | _ :: _,[],_,q,h => by simp [headL] at h
theorem headT_le : ∀ (l : List (Int × Nat)) (f : Bool),(∀ q ∈ l,0 ≤ q.1 ∧ q.1 ≤ 2147483647 ∧ q.2 ≤ 2147483647) → (headT f l).length ≤ 42 * l.length
 | [],_,_ => by simp [headT]
 | (n,k) :: l,f,h => by
   have h1 := h (n,k) (by simp);have h2 := headT_le l false (fun q hq => h q (by simp [hq]));have h3 := itoa_len (n := n) (by have := h1.1;simp only at this;omega) h1.2.1;have h4 := itoa_len (n := (k : Int)) (by omega) (by have := h1.2.2;simp only at this;omega);rw [headT,List.length_cons];cases f <;> simp <;> omega
theorem head_bound (ns : List Nat) (ts : List (List UInt8)) (hn : ∀ n ∈ ns,n ≤ 1048576) (hs : (catT ts).length ≤ 200000000) (hl : ns.length = ts.length) : (headT true (headL ns ts 0)).length ≤ 42 * ns.length := by
 have := headT_le (headL ns ts 0) true (fun q hq => by
  obtain ⟨n,h1,h2,h3⟩ := headL_mem ns ts 0 q hq
  have := hn n h1
  omega)
 rwa [headL_len ns ts 0 hl] at this
theorem catT_take (ts : List (List UInt8)) (i : Nat) : (catT (ts.take i)).length ≤ (catT ts).length := by
 have h : catT ts = catT (ts.take i) ++ catT (ts.drop i) := by unfold catT;rw [← List.flatten_append,List.take_append_drop]
 have := congrArg List.length h;rw [List.length_append] at this;omega
theorem ownsRow_lower {w : World} {base base2 : Nat} {e : TypeId} {size n : Nat} {v : Value} {xs : List Value} (h : w.ownsRow base e size v n xs) (hb : base2 ≤ base) : w.ownsRow base2 e size v n xs := by
 refine ⟨h.1,?_⟩;rcases h.2 with hn | ⟨g,cap,cur,hv,hbg,rest⟩
 · exact .inl hn
 exact .inr ⟨g,cap,cur,hv,Nat.le_trans hb hbg,rest⟩
theorem own_empty (w : World) {base : Nat} (hb : base ≤ w.heap.size) : Own (w.alloc (.cells #[] 5)) base (.slice (some ⟨w.heap.size,0,none⟩) 0 0) [] := by
 have h := World.ownsRow_made (e := 5) (size := 1) w #[] 0 (Nat.le_refl _) (by unfold maxLen;omega) rfl;exact ownsRow_lower h hb
def MkPost (w : World) (n : Nat) (pb cb : List UInt8) (e : Ending) (w' : World) : Prop :=
 ∃ pv cv,e = .returned (.tuple #[pv,cv,.int .i64 n,.int .i64 (pb.length : Nat),.bool true]) ∧ Own w' w.heap.size pv pb ∧ Own w' w.heap.size cv (pb ++ cb) ∧ Below w.heap.size w w'
theorem make_any {hi lo : Nat → Nat} {W0 : World} (hF : FFW hi lo W0) (hE : EV18 W0) (ns : List Nat) (ts : List (List UInt8)) (A T : Option Addr) (nc tc : Nat) (w : World) (hW : Below W0.heap.size W0 w) (hnt : ns.length = ts.length) (h100 : ns.length ≤ 100) (hn : ∀ n ∈ ns,n ≤ 1048576) (ht : ∀ t ∈ ts,0 < t.length) (hsum : (catT ts).length ≤ 200000000)
 (hA : 0 < ns.length → ∃ b off,A = some ⟨b,off,none⟩ ∧ b < w.heap.size ∧ ∀ i (h : i < ns.length),w.cell? ⟨b,off + i,none⟩ = some (.int .i64 (ns[i] : Nat))) (hT : 0 < ts.length → ∃ b,T = some ⟨b,0,none⟩ ∧ b < w.heap.size ∧ ∀ i (h : i < ts.length),w.cell? ⟨b,i,none⟩ = some (S ts[i])) :
 Calls Tryz.prog 13 #[.slice A ns.length nc,.slice T ts.length tc] w (MkPost w ns.length (headT true (headL ns ts 0)) (catT ts)) := by
 rcases Nat.eq_zero_or_pos ns.length with hz | hpos
 · have e1 : ns = [] := List.eq_nil_of_length_eq_zero hz;have e2 : ts = [] := List.eq_nil_of_length_eq_zero (by omega);subst e1 e2;exact make_nil hE A T nc tc w hW
 have HF := Lib.hid hF;have HE := Lib.hid hE;have HW := Lib.hid hW;have Hn := Lib.hid hn;have Ht := Lib.hid ht;have HA := Lib.hid hA;have HT := Lib.hid hT;have Hnt := Lib.hid hnt;have tne : ((ns.length : Int) != (ts.length : Int)) = false := by simp [hnt]
 obtain ⟨nT,hnT⟩ : ∃ n,n = ts.length := ⟨_,rfl⟩;rw [← hnT] at tne ⊢;have HnT := Lib.hid hnT;clear hF hE hn ht hA hT hnt hnT hW;go_enter Tryz.func13,Tryz.ntmps13;go_wp2_with fail;refine (newosd_any W0 HE.out w HW.out).mono ?_;rintro e w1 ⟨q,dm,pl,rfl,hq,⟨bm,rfl⟩,⟨p1,p2,p3,rfl⟩,hblk,hB1⟩;have hS0 : OS4 w w1 q (osC (.map (some bm)) (.slice p1 p2 p3) (.slice none 0 0) (.slice none 0 0) ((0 : Nat) : Int) 0) (.slice none 0 0) (.slice none 0 0) [] [] := ⟨hblk,Own.nil _ _,Own.nil _ _,(fun g hg => by cases hg),hB1,hq⟩;clear hblk hB1;go_wp2_with fail
 go_loopg [21] ns.length (fun g j wr => ∃ (i : Nat) (cv pv : Value),j = .int .i64 i ∧ i + g = ns.length ∧ OS4 w wr q (osC (.map (some bm)) (.slice p1 p2 p3) cv pv (i : Int) 0) cv pv (catT (ts.take i)) (headT true (headL (ns.take i) (ts.take i) 0)))
 case atStart => exact ⟨0,_,_,by go_num,by omega,by simpa [catT,headL,headT] using hS0⟩
 case round =>
  clear hS0;obtain ⟨i,cv,pv,rfl,hg,hS⟩ := hrel;by_cases hi2 : i < ns.length
  · have ti : i < ns.length := hi2;have hit : i < ts.length := by have := Hnt.out;omega
    have hitT : i < nT := by have := HnT.out;omega
    obtain ⟨b1,o1,rfl,hb1,hc1⟩ := HA.out (by omega);obtain ⟨b2,rfl,hb2,hc2⟩ := HT.out (by omega);have ca : wr.cell? ⟨b1,o1 + i,none⟩ = some (.int .i64 (ns[i] : Nat)) := (hS.below.cell (p := ⟨b1,o1 + i,none⟩) hb1).trans (hc1 i hi2);have ct : wr.cell? ⟨b2,i,none⟩ = some (S ts[i]) := (hS.below.cell (p := ⟨b2,i,none⟩) hb2).trans (hc2 i hit);have hnb := Hn.out _ (List.getElem_mem hi2);have htk : ts.take (i + 1) = ts.take i ++ [ts[i]] := List.take_succ_eq_append_getElem hit;have hnk : ns.take (i + 1) = ns.take i ++ [ns[i]] := List.take_succ_eq_append_getElem hi2
    have hcb : (catT (ts.take i)).length + ts[i].length ≤ (catT ts).length := by
     have h := congrArg List.length (catT_snoc (ts.take i) ts[i]);rw [← htk,List.length_append] at h;have h2 : catT ts = catT (ts.take (i + 1)) ++ catT (ts.drop (i + 1)) := by unfold catT;rw [← List.flatten_append,List.take_append_drop]
     have h3 := congrArg List.length h2;rw [List.length_append] at h3;omega
    have hlen1 : (headL (ns.take i) (ts.take i) 0).length = i := by rw [headL_len _ _ _ (by rw [List.length_take,List.length_take,Hnt.out]),List.length_take];exact Nat.min_eq_left (by omega)
    have hct := catT_take ts i;have hb := head_bound (ns.take i) (ts.take i) (fun n hn => Hn.out n (List.mem_of_mem_take hn)) (by omega) (by rw [List.length_take,List.length_take,Hnt.out]);have hcall := addobj_any HF.out w wr q (.map (some bm)) (.slice p1 p2 p3) cv pv i (catT (ts.take i)) (headT true (headL (ns.take i) (ts.take i) 0)) ns[i] ts[i] (HW.out.trans (hS.below.mono HW.out.size)) hS hnb (by omega) (by omega) (by rw [List.length_take,Nat.min_eq_left (by omega)] at hb;omega);have hcat : catT (ts.take (i + 1)) = catT (ts.take i) ++ ts[i] := by rw [htk,catT_snoc]
    have hhd : headT true (headL (ns.take (i + 1)) (ts.take (i + 1)) 0) = headT true (headL (ns.take i) (ts.take i) 0) ++ ((if i = 0 then [] else [32]) ++ (Lib.itoa (ns[i] : Nat) ++ 32 :: Lib.itoa ((catT (ts.take i)).length : Nat))) := by
     rw [htk,hnk,headL_snoc _ _ _ _ _ (by rw [List.length_take,List.length_take,Hnt.out]),headT_snoc,Nat.zero_add]
     have he : (headL (ns.take i) (ts.take i) 0).isEmpty = decide (i = 0) := by
      cases hc : headL (ns.take i) (ts.take i) 0 with
      | nil => rw [hc] at hlen1;simp at hlen1;simp [← hlen1]
      | cons a b => rw [hc,List.length_cons] at hlen1;simp;omega
     rw [he];by_cases h0 : i = 0 <;> simp [h0]
    rw [← hcat,← hhd] at hcall;obtain ⟨n1,hn1⟩ : ∃ n,n = ns[i] := ⟨_,rfl⟩;obtain ⟨t1,ht1⟩ : ∃ n,n = ts[i] := ⟨_,rfl⟩;rw [← hn1] at ca hcall;rw [← ht1] at ct hcall;have Hcall := Lib.hid hcall;clear hcall hhd hcat hb hlen1 hcb hnk htk hc1 hc2 hn1 ht1 hnb;go_wp2_with fail;refine Hcall.out.mono ?_;rintro e w2 ⟨rfl,cv',pv',hS2⟩;go_wp2_with fail
    go_roundg (ns.length - (i + 1))
    case measure => omega
    case rel => exact ⟨i + 1,cv',pv',by go_num,by omega,hS2⟩
  have ti : ¬ i < ns.length := hi2;have hin : i = ns.length := by omega
  rw [List.take_of_length_le (l := ns) (by omega),List.take_of_length_le (l := ts) (by have := Hnt.out;omega)] at hS;obtain ⟨pb,hpb⟩ : ∃ p,p = headT true (headL ns ts 0) := ⟨_,rfl⟩;obtain ⟨cb,hcb⟩ : ∃ p,p = catT ts := ⟨_,rfl⟩;have hpl : pb.length ≤ 42 * ns.length := by rw [hpb];exact head_bound ns ts Hn.out hsum Hnt.out
  rw [← hpb,← hcb] at hS ⊢;rw [← hcb] at hsum;have Hpb := Lib.hid hpb;have Hcb := Lib.hid hcb;clear hpb hcb;by_cases h0 : ns.length = 0
  · omega
  have hcb0 : 0 < cb.length := by
   rw [Hcb.out];have h1 : 0 < ts.length := by have := Hnt.out;omega
   have h2 := Ht.out _ (List.getElem_mem h1)
   have h3 : catT ts = ts[0] ++ catT (ts.drop 1) := by
    cases ts with
    | nil => simp at h1
    | cons a b => simp [catT]
   rw [h3,List.length_append];omega
  have hpb0 : 0 < pb.length := by
   rw [Hpb.out];have h1 : 0 < ts.length := by have := Hnt.out;omega
   cases ns with
   | nil => exact absurd rfl h0
   | cons a b =>
     cases ts with
     | nil => simp at h1
     | cons c d => rw [headL,headT];simp;omega
  obtain ⟨pp,pn,pc,rfl⟩ := ownsRow_slice hS.op;obtain ⟨k6,k9,k10,k11,f6,f9,f10,f11⟩ := os_cells hS.blk;have Hin := Lib.hid hin;have Hin2 := Lib.hid (show i ≤ 100 by omega);clear hin hg;have hq1 := hS.base;have lq : q < wr.heap.size := hq1;go_wp2_with (at_builtin;refine wpList_app5o rfl _ _ rfl (q + 1) _ [] (own_empty wr hq1) rfl (q + 1) _ pb (Own.alloc hS.op _) rfl hpb0 (by simp;omega) (by simp;omega) ?_;intro hv w5 ho5 hg5 hat5);have hb5 : Below wr.heap.size wr w5 := ((Below.refl _ wr).alloc (Nat.le_refl _) _).grown hg5 (by simp) (fun k hk => by injection hk with hk;simp only at hk;omega);have hS5 := hS.keep hb5;have ho5' : Own w5 (q + 1) hv pb := by simpa using ho5
  have hvge : ∀ g,hv.ownBlock = some g → wr.heap.size ≤ g := fun g hg => by
   rcases hat5 with h | h
   · rw [h] at hg;injection hg with hg;simp only at hg;omega
   rw [h] at hg;injection hg with hg;simp at hg;omega
  have hpvlt : ∀ g,(Value.slice pp pn pc).ownBlock = some g → g < wr.heap.size := fun g hg => (Own.lt hS.op g hg).2
  clear hS k6 k9 k10 k11 f6 f9 f10 f11 ho5 hg5 hat5;refine (fin_any w w5 q (.map (some bm)) (.slice p1 p2 p3) cv (.slice pp pn pc) (i : Int) cb pb hS5 hcb0 (by omega) (by omega) (by omega)).mono ?_;rintro e w6 ⟨rfl,nv,hblk,honv,hsz,hos,htape,hout,hheap⟩;have hq5 : q < w5.heap.size := hS5.blk.lt
  have hB6 : Below w.heap.size w w6 := by
   have h1 := hS5.below;have h2 := hS5.hq;exact ⟨hos.trans h1.os,htape.trans h1.tape,hout.trans h1.output,Nat.le_trans h1.size hsz,fun j hj => (hheap j (Nat.lt_of_lt_of_le hj h1.size) (by omega) (fun e => by have := Own.lt hS5.op j e;omega)).trans (h1.block j hj)⟩
  have hov6 : Own w6 (q + 1) hv pb := ownsRow_keepB ho5' (fun g hg => hheap g (Own.lt ho5' g hg).2 (by have := (Own.lt ho5' g hg).1;omega) (fun e => by have h1 := hvge g hg;have h2 := hpvlt g e;omega));obtain ⟨np,nn,nc2,rfl⟩ := ownsRow_slice honv;have hhone : ∃ p a c,hv = .slice p a c := ownsRow_slice ho5';obtain ⟨hp1,hp2,hp3,rfl⟩ := hhone;obtain ⟨k6,k9,k10,k11,f6,f9,f10,f11⟩ := os_cells hblk;have hq6 : q + 1 ≤ w6.heap.size := hblk.lt;have Hov := Lib.hid hov6;clear hS5 hb5 hov6 ho5' hvge hpvlt hos htape hout hheap hsz f6 f9 f10 f11 k9 hq5;have k6' : w6.drew.cell? ⟨q,6,none⟩ = _ := k6;have k10' : w6.drew.cell? ⟨q,10,none⟩ = _ := k10;have k11' : w6.drew.cell? ⟨q,11,none⟩ = _ := k11
  have ka : ∀ o : Obj,(w6.alloc o).drew.cell? ⟨q,6,none⟩ = some (.slice np nn nc2) ∧ (w6.alloc o).drew.cell? ⟨q,10,none⟩ = some (.int .i64 (i : Int)) ∧ (w6.alloc o).drew.cell? ⟨q,11,none⟩ = some (.int .i64 (pb.length : Nat)) := fun o => by
   have h := os_cells (hblk.alloc o);exact ⟨h.1,h.2.2.1,h.2.2.2.1⟩
  have Hka := Lib.hid ka;clear ka;go_wp2_with fail
  go_region_held_law (fun w' => w'.cell? ⟨q,6,none⟩ = some (.slice np nn nc2) ∧ w'.cell? ⟨q,10,none⟩ = some (.int .i64 (i : Int)) ∧ w'.cell? ⟨q,11,none⟩ = some (.int .i64 (pb.length : Nat))) (first | with_reducible exact ⟨k6',k10',k11'⟩ | with_reducible exact Hka.out _ | with_reducible exact ⟨m6,m10,m11⟩)
   (first | (refine step_app5 rfl _ _ rfl (q + 1) _ [] (Own.drew (own_empty w6 hq6)) rfl (q + 1) _ (pb ++ cb) (Own.drew (Own.alloc honv _)) rfl (by simp;omega) (by simp;omega) (by simp;omega) ?_;intro g n2 cap w7 hn2 ho7 hg7 hat7;have hbk7 := Blk.grown (Blk.drew (hblk.alloc (.cells #[] 5))) hg7 (fun e => by injection e with e;simp only at e;omega);obtain ⟨m6,m9,m10,m11,_⟩ := os_cells hbk7;have Hn2 := Lib.hid hn2;clear hn2))
  all_goals
   go_wp2_with fail;refine bodyPost_ret (v := .tuple #[.slice hp1 hp2 hp3,.slice (some ⟨g,0,none⟩) n2 cap,.int .i64 (i : Int),.int .i64 (pb.length : Nat),.bool true]) (by simp [results,Tryz.results13,go_sem]) rfl ?_;have hwq := hq;have hs7 := hg7.size;have hk7 : ∀ j,j < w6.heap.size → w7.heap[j]? = w6.heap[j]? := fun j hj => (hg7.block j (by show j < (w6.alloc (.cells #[] 5)).heap.size;simp;omega) (fun e => by injection e with e;simp only at e;omega)).trans (Below.heap_alloc w6 _ j hj)
   unfold MkPost;rw [← Hpb.out,← Hcb.out];refine ⟨.slice hp1 hp2 hp3,.slice (some ⟨g,0,none⟩) n2 cap,by rw [Hin.out],ownsRow_lower (ownsRow_keepB Hov.out (fun j hj => hk7 j (Own.lt Hov.out j hj).2)) (by omega),(by have h := ownsRow_lower (base2 := w.heap.size) ho7 (by omega);rw [List.nil_append] at h;exact h),?_⟩;have hz6 : w6.heap.size ≤ w7.heap.size := Nat.le_trans (by show _ ≤ (w6.alloc (.cells #[] 5)).heap.size;simp) hs7;exact hB6.trans ⟨hg7.os,hg7.tape,hg7.output,hz6,fun j hj => hk7 j (Nat.lt_of_lt_of_le hj hB6.size)⟩
end Go.Proofs.YtcpijmbdibgdmaaGreatDoor
namespace Go.Proofs.YtcpijmbdibgdmaaGreatDoor
open Go.RowKit
theorem Tryz.slice40 : Tryz.prog.underlying 40 = some (.slice (Tryz.prog.elem 40)) := by kernel_rfl
theorem size40 (wx : World) : (sizeOf (Tryz.prog.elem 40)).run Tryz.prog wx = .ok 1 wx := by kernel_rfl
theorem own_open {w : World} {base cn cc : Nat} {cp : Option Addr} {bs : List UInt8} (h : Own w base (.slice cp cn cc) bs) : cn = bs.length ∧ cn ≤ cc ∧ ((cp = none ∧ bs = [] ∧ cc = 0) ∨ ∃ g,cp = some ⟨g,0,none⟩ ∧ ∀ j (hj : j < bs.length),w.cell? ⟨g,j,none⟩ = some (bcell bs[j])) := by
 have h' := h;rcases h.2 with ⟨h1,h2⟩ | ⟨g,cap,cur,hv,_,_,hnc,_⟩
 · injection h1 with e1 e2 e3;exact ⟨by omega,by omega,.inl ⟨e1,List.eq_nil_of_length_eq_zero h2,e3⟩⟩
 injection hv with e1 e2 e3;subst e1 e2 e3;refine ⟨rfl,hnc,.inr ⟨g,rfl,fun j hj => ?_⟩⟩;have hl := h'.1;rw [World.ownsRow.cellAt h' j (by omega),List.getElem?_map,List.getElem?_eq_getElem hj];rfl
theorem sl_head {w : World} {base cn cc : Nat} {cp : Option Addr} {pb cb : List UInt8} (h : Own w base (.slice cp cn cc) (pb ++ cb)) (wx : World) : (Instr.slice 40 (.slice cp cn cc) none (some (.int .i64 (pb.length : Nat))) none).run Tryz.prog wx = .ok (.slice cp pb.length cc) wx := by
 obtain ⟨h1,h2,h3⟩ := own_open h;rw [List.length_append] at h1;rw [run_slice_h wx 40 cp cn cc Tryz.slice40 .i64 (pb.length : Int) (by omega) (by omega),size40];rcases h3 with ⟨rfl,_,_⟩ | ⟨g,rfl,_⟩ <;> simp [Result.andThen,sliced,Addr.add]
theorem cv_head {w : World} {base cn cc : Nat} {cp : Option Addr} {pb cb : List UInt8} (h : Own w base (.slice cp cn cc) (pb ++ cb)) : (convert 40 9 (.slice cp pb.length cc)).run Tryz.prog w = .ok (S pb) w := by
 obtain ⟨h1,h2,h3⟩ := own_open h;rcases h3 with ⟨rfl,he,rfl⟩ | ⟨g,rfl,hc⟩
 · have : pb = [] := (List.append_eq_nil_iff.1 he).1;subst this;exact run_str_own (bs := []) (Own.nil w base)
 exact run_convert_bytes_back w 40 9 5 ⟨g,0,none⟩ cc pb Tryz.underlying40 Tryz.underlying5 Tryz.underlying9 (fun j hj => by
  have := hc j (by rw [List.length_append];omega)
  rw [List.getElem_append_left hj] at this
  rw [Addr.add_lit,Nat.zero_add,this])
theorem sl_tail {w : World} {base cn cc : Nat} {cp : Option Addr} {bs : List UInt8} (h : Own w base (.slice cp cn cc) bs) (k : Nat) (hk : k < bs.length) : ∃ g,(∀ wx,(Instr.slice 40 (.slice cp cn cc) (some (.int .i64 (k : Nat))) none none).run Tryz.prog wx = .ok (.slice (some ⟨g,k,none⟩) (bs.drop k).length (cc - k)) wx) ∧ ∀ wx,Own wx base (.slice cp cn cc) bs → (convert 40 9 (.slice (some ⟨g,k,none⟩) (bs.drop k).length (cc - k))).run Tryz.prog wx = .ok (S (bs.drop k)) wx := by
 obtain ⟨h1,h2,h3⟩ := own_open h;rcases h3 with ⟨rfl,he,rfl⟩ | ⟨g,rfl,_⟩
 · subst he;simp at hk
 refine ⟨g,fun wx => ?_,fun wx hx => ?_⟩
 · rw [run_slice_l wx 40 _ cn cc Tryz.slice40 .i64 (k : Int) (by omega) (by omega),size40];simp only [Result.andThen,sliced,Int.toNat_natCast];rw [if_neg (by omega),List.length_drop,h1];simp [Addr.add]
   try omega
 obtain ⟨_,_,h4⟩ := own_open hx;rcases h4 with ⟨h4,_⟩ | ⟨g',h4,hc⟩
 · cases h4
 injection h4 with h4;injection h4 with h4;subst h4
 exact run_convert_bytes_back wx 40 9 5 ⟨g,k,none⟩ (cc - k) (bs.drop k) Tryz.underlying40 Tryz.underlying5 Tryz.underlying9 (fun j hj => by
  rw [List.length_drop] at hj
  have := hc (k + j) (by omega)
  rw [Addr.add_lit,this,List.getElem_drop])
end Go.Proofs.YtcpijmbdibgdmaaGreatDoor
