/-
  FnMakeStream: what the listed package-level variables are known to hold: from the rows' lists to the walks' facts.
  Closed facts of FnMakeStream' row.
-/
import Derived.Test.YtcpijmbdibgdmaaGreatDoorMs31
import Derived.Lib.LaidU8T
import Derived.LaidSub
import Derived.Stop.LaidErr
import Derived.MakeChecks
import Derived.JoinedOf
import Derived.KernelRfl
set_option linter.all false
set_option maxHeartbeats 16000000
set_option maxRecDepth 100000
namespace Go.Proofs.YtcpijmbdibgdmaaGreatDoor
open Go.RowKit Go.Lib
section
variable {H : Type} {enc : TypeId × Value → H} {P : Program} {w : World} {base : Nat} {sp : Nat → Bool} {held : Bool} {fuel : Nat} {t e : TypeId} {cs : List Value} {p : List MemPlace}
theorem struct_elem {fs : Array Field} {ds : List (DataW H)} (ht : P.underlying t = some (.struct fs)) (h : DataW.trod enc P w base sp held fuel t cs = some (.agg ds,p)) {i : Nat} {f : Field} (hf : fs[i]? = some f) :
 ∃ fuel' d q,ds[i]? = some d ∧ DataW.trod enc P w base sp held fuel' f.type ((cs.drop f.offset).take (P.cellsOf f.type)) = some (d,q) := by
 obtain ⟨xs,n,rfl,hx,hl,hxl,hall⟩ := DataW.trod_struct ht h;have hds : xs.map (·.1) = ds := by have := congrArg Prod.fst hx;simpa using this.symm
 have hi : i < fs.size := (Array.getElem?_eq_some_iff.1 hf).1;have h1 := hall i f hf;obtain ⟨b,hb⟩ : ∃ b,xs[i]? = some b := ⟨xs[i]'(by omega),List.getElem?_eq_getElem (by omega)⟩;exact ⟨n,b.1,b.2,by rw [← hds];simp [hb],by rw [h1,hb]⟩
theorem one_at {l : List Value} {o : Nat} {v : Value} (h : (l.drop o).take 1 = [v]) : l[o]? = some v := by
 have := congrArg (·[0]?) h;simpa [List.getElem?_take,List.getElem?_drop] using this
theorem int_at {k : IntKind} {n : Int} {o : Nat} (ht : P.underlying t = some (.int k)) (hc : P.cellsOf t = 1) (h : DataW.trod enc P w base sp held fuel t ((cs.drop o).take (P.cellsOf t)) = some (.lit (.int k n),p)) : cs[o]? = some (.int k n) := by
 rw [hc] at h;obtain ⟨z,hz,hx,_⟩ := DataW.trod_int ht h;simp only [Prod.mk.injEq,DataW.lit.injEq,Lit.int.injEq,true_and] at hx;rw [hx.1];exact one_at hz
theorem str_at {bs : List UInt8} {o : Nat} (ht : P.underlying t = some .string) (hc : P.cellsOf t = 1) (h : DataW.trod enc P w base sp held fuel t ((cs.drop o).take (P.cellsOf t)) = some (.lit (.string bs),p)) : cs[o]? = some (.string ⟨bs.toArray⟩) := by
 rw [hc] at h;obtain ⟨z,hz,hx,_⟩ := DataW.trod_string ht h;simp only [Prod.mk.injEq,DataW.lit.injEq,Lit.string.injEq] at hx;rw [hx.1];exact one_at hz
theorem flt_at {k : FloatKind} {n : Nat} {o : Nat} (ht : P.underlying t = some (.float k)) (hc : P.cellsOf t = 1) (h : DataW.trod enc P w base sp held fuel t ((cs.drop o).take (P.cellsOf t)) = some (.lit (.float k n),p)) : cs[o]? = some (.float k n) := by
 rw [hc] at h;generalize hl : (cs.drop o).take 1 = l at h
 cases fuel with
 | zero => simp [DataW.trod] at h
 | succ m =>
   unfold DataW.trod at h;rw [ht] at h;split at h <;> simp_all
   exact one_at hl
theorem slice_elems {n : String} {g : Nat} {ds rest : List (DataW Unit)} (hn : P.globalNamed n = some g) (hy : (P.globals[g]?).map (·.type) = some t) (ht : P.underlying t = some (.slice e)) (h0 : 0 < ds.length) (hc0 : 0 < P.cellsOf e)
 (h : VarReads P w n (.slice ds rest)) : ∃ b o cap,w.cell? ⟨g,0,none⟩ = some (.slice (some ⟨b,o,none⟩) ds.length cap) ∧ ∀ i,i < ds.length → ∃ fuel' ce d q,ds[i]? = some d ∧ ce.length = P.cellsOf e ∧
  (∀ j,j < P.cellsOf e → w.cell? ⟨b,o + i * P.cellsOf e + j,none⟩ = ce[j]?) ∧ DataW.trod (fun _ => ()) P w 0 (fun _ => true) false fuel' e ce = some (d,q) := by
 obtain ⟨g',t',cs,fuel,p,hg,hty,hvar,hd⟩ := h;obtain rfl := Option.some.inj (hn.symm.trans hg);obtain rfl := Option.some.inj (hy.symm.trans hty);rcases DataW.trod_slice ht hd with ⟨_,hx⟩ | ⟨a,len,cap,el,rs,m,rfl,hcs,hx,_,hlc,_,hel,helem,hsp,_⟩
 · cases hx
 have e0 := congrArg Prod.fst hx;simp only [DataW.slice.injEq] at e0;obtain ⟨eE,eR⟩ := e0
 have hlen : len = ds.length := by
  have := congrArg List.length eE;simp at this;omega
 have hcell : ∀ i,i < ds.length → ∃ ce d q,ds[i]? = some d ∧ ce.length = P.cellsOf e ∧ (∀ j,j < P.cellsOf e → w.cell? ((a.add (i * P.cellsOf e)).add j) = ce[j]?) ∧ DataW.trod (fun _ => ()) P w 0 (fun _ => true) false m e ce = some (d,q) := by
  intro i hi;have h1 := helem i (by omega);obtain ⟨b,hb⟩ : ∃ b,el[i]? = some b := ⟨el[i]'(by omega),List.getElem?_eq_getElem (by omega)⟩;rw [hb] at h1;obtain ⟨ce,hce,hte⟩ := Option.bind_eq_some_iff.1 h1;obtain ⟨_,hl,hcc⟩ := World.cells?_some hce;exact ⟨ce,b.1,b.2,by rw [eE];simp [hb],hl,hcc,hte⟩
 obtain ⟨R,o,sR⟩ := a
 obtain rfl : sR = none := by
  obtain ⟨ce,d,q,_,hl,hcc,_⟩ := hcell 0 h0;have h00 := hcc 0 hc0;obtain ⟨v,hv⟩ : ∃ v,ce[0]? = some v := ⟨ce[0]'(by omega),List.getElem?_eq_getElem (by omega)⟩;rw [hv] at h00;have e1 : ((Addr.add ⟨R,o,sR⟩ (0 * P.cellsOf e)).add 0) = ⟨R,o,sR⟩ := by simp [Addr.add]
  rw [e1] at h00;exact Go.Proofs.cell_spot h00
 refine ⟨R,o,cap,?_,fun i hi => ?_⟩
 · rw [World.var?_cell hg hvar 0,← Array.getElem?_toList,hcs,hlen];rfl
 · obtain ⟨ce,d,q,h1,h2,h3,h4⟩ := hcell i hi;refine ⟨m,ce,d,q,h1,h2,fun j hj => ?_,h4⟩;have := h3 j hj
   rwa [Addr.add_lit,Addr.add_lit] at this
end
theorem cell_lt {w : World} {b o : Nat} {v : Value} (h : w.cell? ⟨b,o,none⟩ = some v) : b < w.heap.size := by
 rcases Nat.lt_or_ge b w.heap.size with h1 | h1
 · exact h1
 unfold World.cell? at h;simp [Array.getElem?_eq_none h1] at h
def fvT : List Nat := [4607182418800017408,4621819117588971520,4636737291354636288,4652007308841189376,4666723172467343360,4681608360884174848,4696837146684686336,4711630319722168320,4726483295884279808,4741671816366391296,4756540486875873280,4771362005757984768,4786511204640096256,4801453603149578240,4816244402031689728,4831355200913801216,4846369599423283200,4861130398305394688,4876203697187506176,4891288408196988160,4906019910204099648,4921056587992461136,4936209963552724370]
def fvN (j : Nat) : Nat := fvT.getD j 0
def hiN (i : Nat) : Nat := (Pinned.pow10Rows.getD i (0,0)).1
def loN (i : Nat) : Nat := (Pinned.pow10Rows.getD i (0,0)).2
def pnB (b : Nat) : Bool := match Ieee.double.read b with | .number _ m _ => decide (m ≠ 0) | _ => false
theorem pn_of {b : Nat} (h : pnB b = true) : PN b := by
 unfold pnB at h;split at h
 · rename_i s m i e;exact ⟨s,m,i,e,of_decide_eq_true h⟩
 cases h
theorem fv_pn : ∀ j,j < 23 → PN (fvN j) := by
 have h : ∀ j : Fin 23,pnB (fvN j.val) = true := by decide +kernel
 exact fun j hj => pn_of (h ⟨j,hj⟩)
theorem num_lt : ∀ i,i < 696 → hiN i < 18446744073709551616 ∧ loN i < 18446744073709551616 := by
 have h : ∀ i : Fin 696,hiN i.val < 18446744073709551616 ∧ loN i.val < 18446744073709551616 := by decide +kernel
 exact fun i hi => h ⟨i,hi⟩
theorem dg_unD_aux : ∀ (r : List UInt8),(∀ b ∈ r,48 ≤ b.toNat ∧ b.toNat ≤ 57) → r.getLast? ≠ some 48 → dg (unD 0 r.reverse) = r.reverse
 | [],_,_ => by rw [List.reverse_nil,unD_nil,dg_zero]
 | b :: l,h,h0 => by
   have hb := h b (by simp);have hl : ∀ b ∈ l,48 ≤ b.toNat ∧ b.toNat ≤ 57 := fun b hb => h b (by simp [hb])
   rw [List.reverse_cons,unD_append,show unD 0 l.reverse * 10 + (b.toNat - 48) = 10 * unD 0 l.reverse + (b.toNat - 48) by omega];have eb : UInt8.ofNat (48 + (b.toNat - 48)) = b := by rw [show 48 + (b.toNat - 48) = b.toNat by omega,UInt8.ofNat_toNat]
   cases l with
   | nil =>
     have : b.toNat ≠ 48 := by intro e;exact h0 (by rw [List.getLast?_singleton];exact congrArg some (UInt8.toNat_inj.1 (by rw [e];rfl)))
     rw [List.reverse_nil,unD_nil,dg_snoc (.inr (by omega)) (by omega),dg_zero,eb]
   | cons c l' =>
     have ih := dg_unD_aux (c :: l') hl (by simpa using h0)
     have hne : unD 0 (c :: l').reverse ≠ 0 := by
      intro e;rw [e,dg_zero] at ih;simp at ih
     rw [dg_snoc (.inl hne) (by omega),ih,eb]
theorem dg_unD (l : List UInt8) (h : ∀ b ∈ l,48 ≤ b.toNat ∧ b.toNat ≤ 57) (h0 : l.head? ≠ some 48) : dg (unD 0 l) = l := by
 have := dg_unD_aux l.reverse (fun b hb => h b (by simpa using hb)) (by simpa using h0);simpa using this
def cheatB (k : Nat) (r : Nat × List UInt8) : Bool := (r.2.all fun b => decide (48 ≤ b.toNat ∧ b.toNat ≤ 57)) && decide (r.2.head? ≠ some 48) && decide (unD 0 r.2 = 5 ^ k) && decide (k - r.2.length + 1 = r.1)
theorem cheats : ∀ k,1 ≤ k → k ≤ 60 → (Pinned.cheatRows.getD k (0,[])).1 = k - nd (5 ^ k) + 1 ∧ (Pinned.cheatRows.getD k (0,[])).2 = dg (5 ^ k) := by
 have h : ∀ k : Fin 61,1 ≤ k.val → cheatB k.val (Pinned.cheatRows.getD k.val (0,[])) = true := by decide +kernel
 intro k h1 h2;have := h ⟨k,by omega⟩ h1;simp only [cheatB,Bool.and_eq_true,decide_eq_true_eq,List.all_eq_true] at this;obtain ⟨⟨⟨a,b⟩,c⟩,d⟩ := this;have e := dg_unD _ a b;rw [c] at e;refine ⟨?_,e.symm⟩;rw [← d];unfold nd;rw [e]
abbrev laidE := Rows.fnMakeStreamUptoRow.laid
theorem laidE_plain : (laidE.all fun x => x.2.handleName?.isNone) = true := by kernel_rfl
theorem laidE_met {W : World} (h : laidMetH Tryz.prog laidE W) : laidMet Tryz.prog laidE W := by rw [MakeChecks.laidMetH_plain _ _ _ laidE_plain] at h;exact h
theorem readE {W : World} (h : laidMet Tryz.prog laidE W) (i : Nat) {n : String} {d : DataW Unit} (hi : laidE[i]? = some (n,d)) : VarReads Tryz.prog W n d := Lib.laidMet.reads h (List.mem_of_getElem? hi)
theorem U.t3 : Tryz.prog.underlying 3 = some (.int .i64) := by kernel_rfl
theorem U.t4 : Tryz.prog.underlying 4 = some .bool := by kernel_rfl
theorem U.t9 : Tryz.prog.underlying 9 = some .string := by kernel_rfl
theorem U.t24 : Tryz.prog.underlying 24 = some (.float .f64) := by kernel_rfl
theorem U.t158 : Tryz.prog.underlying 158 = some (.int .u64) := by kernel_rfl
theorem U.t161 : Tryz.prog.underlying 161 = some (.int .u64) := by kernel_rfl
theorem U.c3 : Tryz.prog.cellsOf 3 = 1 := by kernel_rfl
theorem U.c4 : Tryz.prog.cellsOf 4 = 1 := by kernel_rfl
theorem U.c9 : Tryz.prog.cellsOf 9 = 1 := by kernel_rfl
theorem U.c24 : Tryz.prog.cellsOf 24 = 1 := by kernel_rfl
theorem U.c158 : Tryz.prog.cellsOf 158 = 1 := by kernel_rfl
theorem U.c161 : Tryz.prog.cellsOf 161 = 1 := by kernel_rfl
theorem powtab_facts {W : World} (h : VarReads Tryz.prog W "internal/strconv.powtab" Rows.laid_internal_strconv_powtab) : ∃ pb po pc,W.cell? ⟨20,0,none⟩ = some (.slice (some ⟨pb,po,none⟩) 9 pc) ∧ ∀ j,j < 9 → W.cell? ⟨pb,po + j,none⟩ = some (.int .i64 (pw j : Nat)) := by
 have e : Rows.laid_internal_strconv_powtab = (.slice ((List.range 9).map fun j => .lit (.int .i64 (pw j : Nat))) [] : DataW Unit) := by kernel_rfl
 rw [e] at h;obtain ⟨b,o,cap,h1,h2⟩ := slice_elems (g := 20) (t := 31) (e := 3) (by kernel_rfl) (by kernel_rfl) (by kernel_rfl) (by decide) (by rw [U.c3];decide) h;refine ⟨b,o,cap,h1,fun j hj => ?_⟩;obtain ⟨f,ce,d,q,hd,hl,hc,ht⟩ := h2 j (by simpa using hj);simp only [List.getElem?_map,List.getElem?_range hj,Option.map_some,Option.some.injEq] at hd;subst hd;have hc0 := hc 0 (by rw [U.c3];decide);rw [U.c3,Nat.mul_one,Nat.add_zero] at hc0;rw [hc0];exact int_at (cs := ce) (o := 0) U.t3 U.c3 (by rw [List.drop_zero,List.take_of_length_le (by omega)];exact ht)
theorem pow10_facts {W : World} (h : VarReads Tryz.prog W "internal/strconv.float64pow10" Rows.laid_internal_strconv_float64pow10) : ∃ pb po pc,W.cell? ⟨21,0,none⟩ = some (.slice (some ⟨pb,po,none⟩) 23 pc) ∧ ∀ j,j < 23 → W.cell? ⟨pb,po + j,none⟩ = some (.float .f64 (fvN j)) := by
 have e : Rows.laid_internal_strconv_float64pow10 = (.slice ((List.range 23).map fun j => .lit (.float .f64 (fvN j))) [] : DataW Unit) := by kernel_rfl
 rw [e] at h;obtain ⟨b,o,cap,h1,h2⟩ := slice_elems (g := 21) (t := 314) (e := 24) (by kernel_rfl) (by kernel_rfl) (by kernel_rfl) (by decide) (by rw [U.c24];decide) h;refine ⟨b,o,cap,h1,fun j hj => ?_⟩;obtain ⟨f,ce,d,q,hd,hl,hc,ht⟩ := h2 j (by simpa using hj);simp only [List.getElem?_map,List.getElem?_range hj,Option.map_some,Option.some.injEq] at hd;subst hd;have hc0 := hc 0 (by rw [U.c24];decide);rw [U.c24,Nat.mul_one,Nat.add_zero] at hc0;rw [hc0];exact flt_at (cs := ce) (o := 0) U.t24 U.c24 (by rw [List.drop_zero,List.take_of_length_le (by omega)];exact ht)
theorem cheat_facts {W : World} (h : VarReads Tryz.prog W "internal/strconv.leftcheats" Rows.laid_internal_strconv_leftcheats) : ∃ lb lo lc,W.cell? ⟨23,0,none⟩ = some (.slice (some ⟨lb,lo,none⟩) 61 lc) ∧
 ∀ k,1 ≤ k → k ≤ 60 → W.cell? ⟨lb,lo + k * 2,none⟩ = some (.int .i64 ((k - nd (5 ^ k) + 1 : Nat) : Int)) ∧ W.cell? ⟨lb,lo + k * 2 + 1,none⟩ = some (S (dg (5 ^ k))) := by
 have e : Rows.laid_internal_strconv_leftcheats = (.slice ((List.range 61).map fun k => .agg [.lit (.int .i64 (Pinned.cheatRows.getD k (0,[])).1),.lit (.string (Pinned.cheatRows.getD k (0,[])).2)]) [] : DataW Unit) := by kernel_rfl
 rw [e] at h;have c323 : Tryz.prog.cellsOf 323 = 2 := by kernel_rfl
 obtain ⟨b,o,cap,h1,h2⟩ := slice_elems (g := 23) (t := 324) (e := 323) (by kernel_rfl) (by kernel_rfl) (by kernel_rfl) (by decide) (by rw [c323];decide) h;refine ⟨b,o,cap,h1,fun k hk1 hk2 => ?_⟩;obtain ⟨f,ce,d,q,hd,hl,hc,ht⟩ := h2 k (by simp;omega);simp only [List.getElem?_map,List.getElem?_range (show k < 61 by omega),Option.map_some,Option.some.injEq] at hd;subst hd;obtain ⟨g1,g2⟩ := cheats k hk1 hk2;rw [g1,g2] at ht;have hu : Tryz.prog.underlying 323 = some (.struct #[{ name := "delta",type := 3,offset := 0,embedded := false,tag := "",pkgPath := "internal/strconv",byteOffset := 0 },{ name := "cutoff",type := 9,offset := 1,embedded := false,tag := "",pkgPath := "internal/strconv",byteOffset := 8 }]) := by kernel_rfl
 have hc0 := hc 0 (by rw [c323];decide);have hc1 := hc 1 (by rw [c323];decide);rw [c323] at hc0 hc1;rw [Nat.add_zero] at hc0;constructor
 · rw [hc0];obtain ⟨f',d',q',e1,e2⟩ := struct_elem hu ht (i := 0) rfl;simp only [List.getElem?_cons_zero,Option.some.injEq] at e1;subst e1;exact int_at U.t3 U.c3 e2
 · rw [hc1];obtain ⟨f',d',q',e1,e2⟩ := struct_elem hu ht (i := 1) rfl;simp only [List.getElem?_cons_succ,List.getElem?_cons_zero,Option.some.injEq] at e1;subst e1;exact str_at U.t9 U.c9 e2
theorem hilo_facts {W : World} (h : VarReads Tryz.prog W "internal/strconv.pow10Tab" Rows.laid_internal_strconv_pow10Tab) : ∀ i,i < 696 → W.cell? ⟨22,i * 2,none⟩ = some (.int .u64 (hiN i)) ∧ W.cell? ⟨22,i * 2 + 1,none⟩ = some (.int .u64 (loN i)) := by
 have e : Rows.laid_internal_strconv_pow10Tab = (.agg ((List.range 696).map fun i => .agg [.lit (.int .u64 (hiN i)),.lit (.int .u64 (loN i))]) : DataW Unit) := by kernel_rfl
 rw [e] at h;obtain ⟨g,t,cs,fuel,p,hg,hty,hvar,hd⟩ := h;obtain rfl := Option.some.inj ((show Tryz.prog.globalNamed "internal/strconv.pow10Tab" = some 22 by kernel_rfl).symm.trans hg);obtain rfl := Option.some.inj ((show (Tryz.prog.globals[22]?).map (·.type) = some 318 by kernel_rfl).symm.trans hty);intro i hi;have he : Tryz.prog.underlying 318 = some (.array 696 (Tryz.prog.elem 318)) := by kernel_rfl
 have hc : Tryz.prog.cellsOf (Tryz.prog.elem 318) = 2 := by kernel_rfl
 have hu : Tryz.prog.underlying (Tryz.prog.elem 318) = some (.struct #[{ name := "hi",type := 158,offset := 0,embedded := false,tag := "",pkgPath := "internal/strconv",byteOffset := 0 },{ name := "lo",type := 158,offset := 1,embedded := false,tag := "",pkgPath := "internal/strconv",byteOffset := 8 }]) := by kernel_rfl
 obtain ⟨f',d,q,hdi,ht⟩ := array_elem he hd i hi;simp only [List.getElem?_map,List.getElem?_range hi,Option.map_some,Option.some.injEq] at hdi;subst hdi;rw [hc] at ht
 have key : ∀ j v,((cs.toList.drop (i * 2)).take 2)[j]? = some v → W.cell? ⟨22,i * 2 + j,none⟩ = some v := by
  intro j v hv;rw [World.var?_cell hg hvar (i * 2 + j),← Array.getElem?_toList];rw [List.getElem?_take] at hv;split at hv
  · rw [List.getElem?_drop] at hv;exact hv
  cases hv
 constructor
 · obtain ⟨f2,d2,q2,e1,e2⟩ := struct_elem hu ht (i := 0) rfl;simp only [List.getElem?_cons_zero,Option.some.injEq] at e1;subst e1;exact key 0 _ (int_at U.t158 U.c158 e2)
 obtain ⟨f2,d2,q2,e1,e2⟩ := struct_elem hu ht (i := 1) rfl;simp only [List.getElem?_cons_succ,List.getElem?_cons_zero,Option.some.injEq] at e1;subst e1;exact key 1 _ (int_at U.t158 U.c158 e2)
theorem info_facts {W : World} (h : VarReads Tryz.prog W "internal/strconv.float64info" Rows.laid_internal_strconv_float64info) : W.cell? ⟨17,0,none⟩ = some (.int .u64 52) ∧ W.cell? ⟨17,1,none⟩ = some (.int .u64 11) ∧ W.cell? ⟨17,2,none⟩ = some (.int .i64 (-1023)) := by
 obtain ⟨g,t,cs,fuel,p,hg,hty,hvar,hd⟩ := h;obtain rfl := Option.some.inj ((show Tryz.prog.globalNamed "internal/strconv.float64info" = some 17 by kernel_rfl).symm.trans hg);obtain rfl := Option.some.inj ((show (Tryz.prog.globals[17]?).map (·.type) = some 272 by kernel_rfl).symm.trans hty);have hu : Tryz.prog.underlying 272 = some (.struct #[{ name := "mantbits",type := 161,offset := 0,embedded := false,tag := "",pkgPath := "internal/strconv",byteOffset := 0 },{ name := "expbits",type := 161,offset := 1,embedded := false,tag := "",pkgPath := "internal/strconv",byteOffset := 8 },{ name := "bias",type := 3,offset := 2,embedded := false,tag := "",pkgPath := "internal/strconv",byteOffset := 16 }]) := by kernel_rfl
 have key : ∀ j v,cs.toList[j]? = some v → W.cell? ⟨17,j,none⟩ = some v := by
  intro j v hv;rw [World.var?_cell hg hvar j,← Array.getElem?_toList];exact hv
 refine ⟨?_,?_,?_⟩
 · obtain ⟨f2,d2,q2,e1,e2⟩ := struct_elem hu hd (i := 0) rfl;simp only [List.getElem?_cons_zero,Option.some.injEq] at e1;subst e1;exact key 0 _ (int_at U.t161 U.c161 e2)
 · obtain ⟨f2,d2,q2,e1,e2⟩ := struct_elem hu hd (i := 1) rfl;simp only [List.getElem?_cons_succ,List.getElem?_cons_zero,Option.some.injEq] at e1;subst e1;exact key 1 _ (int_at U.t161 U.c161 e2)
 obtain ⟨f2,d2,q2,e1,e2⟩ := struct_elem hu hd (i := 2) rfl;simp only [List.getElem?_cons_succ,List.getElem?_cons_zero,Option.some.injEq] at e1;subst e1;exact key 2 _ (int_at U.t3 U.c3 e2)
theorem opt_facts {W : World} (h : VarReads Tryz.prog W "internal/strconv.optimize" Rows.laid_internal_strconv_optimize) : W.cell? ⟨9,0,none⟩ = some (.bool true) := by
 obtain ⟨g,t,cs,fuel,p,hg,hty,hvar,hd⟩ := h;obtain rfl := Option.some.inj ((show Tryz.prog.globalNamed "internal/strconv.optimize" = some 9 by kernel_rfl).symm.trans hg);obtain rfl := Option.some.inj ((show (Tryz.prog.globals[9]?).map (·.type) = some 4 by kernel_rfl).symm.trans hty);obtain ⟨b,hb,hx⟩ := DataW.trod_bool U.t4 hd;simp only [Rows.laid_internal_strconv_optimize,Prod.mk.injEq,DataW.lit.injEq,Lit.bool.injEq] at hx;rw [World.var?_cell hg hvar 0,← Array.getElem?_toList,hb,← hx.1];rfl
def txt (l : List (String × DataW Unit)) (n : String) : List UInt8 := match (l.filter fun x => x.1 == n) with | [(_,.iface _ (.ptr (.agg [.lit (.string t)])))] => t | _ => []
theorem Sz.start24 : (((begin Tryz.prog (fun _ _ => 0) default).world.heap[24]?).bind Obj.row?).isSome = true := by kernel_rfl
theorem Sz.globals24 : 24 < Tryz.prog.globals.size := of_decide_eq_true (by kernel_rfl)
theorem Sz.size24 {W : World} (h : W.ShapedOpen Tryz.prog) : 24 < W.heap.size := by
 obtain ⟨⟨z,t⟩,hz⟩ := Option.isSome_iff_exists.1 Sz.start24;obtain ⟨cs,hc,_⟩ := h.1 24 z t Sz.globals24 hz;exact (Array.getElem?_eq_some_iff.1 hc).1
theorem iface_one {P : Program} {w : World} {base : Nat} {sp : Nat → Bool} {held : Bool} {fuel : Nat} {t : TypeId} {cs : List Value} {ms} {n : String} {d : DataW Unit} {q : List MemPlace} (ht : P.underlying t = some (.interface ms)) (h : DataW.trod (fun _ => ()) P w base sp held fuel t cs = some (.iface n d,q)) : ∃ v,cs = [v] := by
 cases fuel with
 | zero => simp [DataW.trod] at h
 | succ m =>
   unfold DataW.trod at h;rw [ht] at h;split at h <;> simp_all
theorem iface_cell {W : World} {n nm : String} {d : DataW Unit} {g : Nat} (h : VarReads Tryz.prog W n (.iface nm d)) (hg : Tryz.prog.globalNamed n = some g) (ht : (Tryz.prog.globals[g]?).map (·.type) = some 71) : ∃ v,W.cell? ⟨g,0,none⟩ = some v := by
 obtain ⟨g',t,cs,fuel,p,hg',hty,hvar,hd⟩ := h;obtain rfl := Option.some.inj (hg.symm.trans hg');obtain rfl := Option.some.inj (ht.symm.trans hty);obtain ⟨v,hv⟩ := iface_one Tryz.underlying71 hd;exact ⟨v,by rw [World.var?_cell hg hvar 0,← Array.getElem?_toList,hv];rfl⟩
theorem vars_later {P : Program} {B g : Nat} {W W' : World} {n : String} {cs : Array Value} (h : Below B W W') (hg : P.globalNamed n = some g) (hgB : g < B) (hv : W.var? P n = some cs) : W'.var? P n = some cs := by
 unfold World.var? at hv ⊢;simp only [hg,Option.bind_some] at hv ⊢;rw [h.block g hgB];exact hv
theorem ten_row : ∀ i,i < 20 → Lib.pow10Tab[i]? = some ((10 ^ i : Nat) : Int) := by
 have h : ∀ i : Fin 20,Lib.pow10Tab[i.val]? = some ((10 ^ i.val : Nat) : Int) := by decide +kernel
 exact fun i hi => h ⟨i,hi⟩
theorem ten_facts {W : World} (h : laidMet Tryz.prog laidE W) : Lib.TabIs Tryz.prog W "internal/strconv.uint64pow10" .u64 Lib.pow10Tab := by
 have h1 := Go.laidMet.filter (fun x => x.1 == "internal/strconv.uint64pow10") h;have e : (laidE.filter fun x => x.1 == "internal/strconv.uint64pow10") = [("internal/strconv.uint64pow10",Lib.tabData .u64 Lib.pow10Tab)] := by kernel_rfl
 rw [e] at h1;exact Lib.tabIs_of_head (g := 10) (t := ((Tryz.prog.globals[10]?).map (·.type)).getD 0) (e := Tryz.prog.elem (((Tryz.prog.globals[10]?).map (·.type)).getD 0)) (n := 20) (by kernel_rfl) (by kernel_rfl) (by kernel_rfl) (by kernel_rfl) (by kernel_rfl) (by kernel_rfl) h1
theorem mk_of {W : World} (hL : laidMetH Tryz.prog laidE W) (hsh : W.ShapedOpen Tryz.prog) : FFW hiN loN W ∧ EV18 W ∧ PFAll (atF fvN hiN loN) W := by
 have h := laidE_met hL;have h24 := Sz.size24 hsh;obtain ⟨lb,lo,lc,k1,k2⟩ := cheat_facts (readE h 12 (by kernel_rfl));obtain ⟨pb,po,pc,p1,p2⟩ := powtab_facts (readE h 5 (by kernel_rfl));obtain ⟨fb,fo,fc,f1,f2⟩ := pow10_facts (readE h 6 (by kernel_rfl));obtain ⟨i0,i1,i2⟩ := info_facts (readE h 3 (by kernel_rfl));have hT := ten_facts h;have ht := hilo_facts (readE h 13 (by kernel_rfl));have ho := opt_facts (readE h 4 (by kernel_rfl));have hP : PW fvN hiN loN lb lo lc pb po pc fb fo fc W := ⟨⟨k1,k2,p1,p2,i0,i1,i2⟩,⟨i0,f1,f2,fv_pn⟩,ht,num_lt,ho,h24,cell_lt (k2 1 (by omega) (by omega)).1,cell_lt (p2 0 (by omega)),cell_lt (f2 0 (by omega))⟩;refine ⟨⟨ht,num_lt,fun i hi => ?_,fun w' hB => vars_later hB (g := 10) (by kernel_rfl) (by omega) hT,ho,by omega⟩,⟨by omega,iface_cell (n := "encoding/hex.ErrLength") (nm := "*errors.errorString") (d := .ptr (.agg [.lit (.string (txt laidE "encoding/hex.ErrLength"))])) (readE h 11 (by kernel_rfl)) (by kernel_rfl) (by kernel_rfl)⟩,pfa_of _ _ _ _ _ _ _ _ _ _ _ _ W hP⟩;have hh := ten_row i hi;obtain ⟨hi2,he⟩ := List.getElem?_eq_some_iff.1 hh;have := Lib.TabIs.cell hT (g := 10) (by kernel_rfl) i hi2;rw [this,List.getD,hh];rfl
end Go.Proofs.YtcpijmbdibgdmaaGreatDoor
namespace Go.Proofs.YtcpijmbdibgdmaaGreatDoor
theorem factsM : joinedFacts Tryz.prog 4 Tryz.f4 Rows.fnMakeStreamSpec Rows.fnMakeStreamUptoRow = true := by
 unfold joinedFacts;simp only [Bool.and_eq_true]
 repeat' apply And.intro
 all_goals (as_aux_lemma => kernel_rfl)
end Go.Proofs.YtcpijmbdibgdmaaGreatDoor
