/-
  What the listed package-level variables are known to hold: from the rows' lists to the walks' facts.
  The facts of FnParseEnds' list: numbers' tables, errors, the decoder's tables.
  package model: parseObjectValue of words and numbers.
  package model: parseObjectContext, over parseObjectValue.
-/
import Derived.Test.YtcpijmbdibgdmaaGreatDoorRows
import Derived.Test.YtcpijmbdibgdmaaGreatDoorMe13
import Derived.Test.YtcpijmbdibgdmaaGreatDoorMe17
import Derived.Lib.LaidU8T
import Derived.Stop.LaidErr
import Derived.MakeChecks
import Derived.LaidSub
set_option linter.all false
namespace Go.Proofs.YtcpijmbdibgdmaaGreatDoor
open Go.RowKit Go.Lib

section
variable {H : Type} {enc : TypeId × Value → H} {P : Program} {w : World} {base : Nat} {sp : Nat → Bool} {held : Bool} {fuel : Nat} {t e : TypeId} {cs : List Value} {p : List MemPlace}
theorem struct_elem {fs : Array Field} {ds : List (DataW H)} (ht : P.underlying t = some (.struct fs)) (h : DataW.trod enc P w base sp held fuel t cs = some (.agg ds, p)) {i : Nat} {f : Field} (hf : fs[i]? = some f) :
    ∃ fuel' d q, ds[i]? = some d ∧ DataW.trod enc P w base sp held fuel' f.type ((cs.drop f.offset).take (P.cellsOf f.type)) = some (d, q) := by
  obtain ⟨xs, n, rfl, hx, hl, hxl, hall⟩ := DataW.trod_struct ht h
  have hds : xs.map (·.1) = ds := by have := congrArg Prod.fst hx; simpa using this.symm
  have hi : i < fs.size := (Array.getElem?_eq_some_iff.1 hf).1
  have h1 := hall i f hf
  obtain ⟨b, hb⟩ : ∃ b, xs[i]? = some b := ⟨xs[i]'(by omega), List.getElem?_eq_getElem (by omega)⟩
  exact ⟨n, b.1, b.2, by rw [← hds]; simp [hb], by rw [h1, hb]⟩
theorem one_at {l : List Value} {o : Nat} {v : Value} (h : (l.drop o).take 1 = [v]) : l[o]? = some v := by
  have := congrArg (·[0]?) h
  simpa [List.getElem?_take, List.getElem?_drop] using this
theorem int_at {k : IntKind} {n : Int} {o : Nat} (ht : P.underlying t = some (.int k)) (hc : P.cellsOf t = 1) (h : DataW.trod enc P w base sp held fuel t ((cs.drop o).take (P.cellsOf t)) = some (.lit (.int k n), p)) : cs[o]? = some (.int k n) := by
  rw [hc] at h
  obtain ⟨z, hz, hx, _⟩ := DataW.trod_int ht h
  simp only [Prod.mk.injEq, DataW.lit.injEq, Lit.int.injEq, true_and] at hx
  rw [hx.1]
  exact one_at hz
theorem str_at {bs : List UInt8} {o : Nat} (ht : P.underlying t = some .string) (hc : P.cellsOf t = 1) (h : DataW.trod enc P w base sp held fuel t ((cs.drop o).take (P.cellsOf t)) = some (.lit (.string bs), p)) : cs[o]? = some (.string ⟨bs.toArray⟩) := by
  rw [hc] at h
  obtain ⟨z, hz, hx, _⟩ := DataW.trod_string ht h
  simp only [Prod.mk.injEq, DataW.lit.injEq, Lit.string.injEq] at hx
  rw [hx.1]
  exact one_at hz
theorem bool_at {b : Bool} {o : Nat} (ht : P.underlying t = some .bool) (hc : P.cellsOf t = 1) (h : DataW.trod enc P w base sp held fuel t ((cs.drop o).take (P.cellsOf t)) = some (.lit (.bool b), p)) : cs[o]? = some (.bool b) := by
  rw [hc] at h
  obtain ⟨z, hz, hx⟩ := DataW.trod_bool ht h
  simp only [Prod.mk.injEq, DataW.lit.injEq, Lit.bool.injEq] at hx
  rw [hx.1]
  exact one_at hz
theorem flt_at {k : FloatKind} {n : Nat} {o : Nat} (ht : P.underlying t = some (.float k)) (hc : P.cellsOf t = 1) (h : DataW.trod enc P w base sp held fuel t ((cs.drop o).take (P.cellsOf t)) = some (.lit (.float k n), p)) : cs[o]? = some (.float k n) := by
  rw [hc] at h
  generalize hl : (cs.drop o).take 1 = l at h
  cases fuel with
  | zero => simp [DataW.trod] at h
  | succ m =>
    unfold DataW.trod at h
    rw [ht] at h
    split at h <;> simp_all
    exact one_at hl
theorem slice_elems {n : String} {g : Nat} {ds rest : List (DataW Unit)} (hn : P.globalNamed n = some g) (hy : (P.globals[g]?).map (·.type) = some t) (ht : P.underlying t = some (.slice e)) (h0 : 0 < ds.length) (hc0 : 0 < P.cellsOf e)
    (h : VarReads P w n (.slice ds rest)) : ∃ b o cap, w.cell? ⟨g, 0, none⟩ = some (.slice (some ⟨b, o, none⟩) ds.length cap) ∧ ∀ i, i < ds.length → ∃ fuel' ce d q, ds[i]? = some d ∧ ce.length = P.cellsOf e ∧
      (∀ j, j < P.cellsOf e → w.cell? ⟨b, o + i * P.cellsOf e + j, none⟩ = ce[j]?) ∧ DataW.trod (fun _ => ()) P w 0 (fun _ => true) false fuel' e ce = some (d, q) := by
  obtain ⟨g', t', cs, fuel, p, hg, hty, hvar, hd⟩ := h
  obtain rfl := Option.some.inj (hn.symm.trans hg)
  obtain rfl := Option.some.inj (hy.symm.trans hty)
  rcases DataW.trod_slice ht hd with ⟨_, hx⟩ | ⟨a, len, cap, el, rs, m, rfl, hcs, hx, _, hlc, _, hel, helem, hsp, _⟩
  · cases hx
  have e0 := congrArg Prod.fst hx
  simp only [DataW.slice.injEq] at e0
  obtain ⟨eE, eR⟩ := e0
  have hlen : len = ds.length := by
    have := congrArg List.length eE
    simp at this
    omega
  have hcell : ∀ i, i < ds.length → ∃ ce d q, ds[i]? = some d ∧ ce.length = P.cellsOf e ∧ (∀ j, j < P.cellsOf e → w.cell? ((a.add (i * P.cellsOf e)).add j) = ce[j]?) ∧ DataW.trod (fun _ => ()) P w 0 (fun _ => true) false m e ce = some (d, q) := by
    intro i hi
    have h1 := helem i (by omega)
    obtain ⟨b, hb⟩ : ∃ b, el[i]? = some b := ⟨el[i]'(by omega), List.getElem?_eq_getElem (by omega)⟩
    rw [hb] at h1
    obtain ⟨ce, hce, hte⟩ := Option.bind_eq_some_iff.1 h1
    obtain ⟨_, hl, hcc⟩ := World.cells?_some hce
    exact ⟨ce, b.1, b.2, by rw [eE]; simp [hb], hl, hcc, hte⟩
  obtain ⟨R, o, sR⟩ := a
  obtain rfl : sR = none := by
    obtain ⟨ce, d, q, _, hl, hcc, _⟩ := hcell 0 h0
    have h00 := hcc 0 hc0
    obtain ⟨v, hv⟩ : ∃ v, ce[0]? = some v := ⟨ce[0]'(by omega), List.getElem?_eq_getElem (by omega)⟩
    rw [hv] at h00
    have e1 : ((Addr.add ⟨R, o, sR⟩ (0 * P.cellsOf e)).add 0) = ⟨R, o, sR⟩ := by simp [Addr.add]
    rw [e1] at h00
    exact Go.Proofs.cell_spot h00
  refine ⟨R, o, cap, ?_, fun i hi => ?_⟩
  · rw [World.var?_cell hg hvar 0, ← Array.getElem?_toList, hcs, hlen]
    rfl
  · obtain ⟨ce, d, q, h1, h2, h3, h4⟩ := hcell i hi
    refine ⟨m, ce, d, q, h1, h2, fun j hj => ?_, h4⟩
    have := h3 j hj
    rwa [Addr.add_lit, Addr.add_lit] at this
end
theorem cell_lt {w : World} {b o : Nat} {v : Value} (h : w.cell? ⟨b, o, none⟩ = some v) : b < w.heap.size := by
  rcases Nat.lt_or_ge b w.heap.size with h1 | h1
  · exact h1
  · unfold World.cell? at h
    simp [Array.getElem?_eq_none h1] at h
end Go.Proofs.YtcpijmbdibgdmaaGreatDoor

namespace Go.Proofs.YtcpijmbdibgdmaaGreatDoor
open Go.RowKit Go.Lib

def fvT : List Nat := [4607182418800017408, 4621819117588971520, 4636737291354636288, 4652007308841189376, 4666723172467343360, 4681608360884174848, 4696837146684686336, 4711630319722168320, 4726483295884279808, 4741671816366391296, 4756540486875873280, 4771362005757984768, 4786511204640096256, 4801453603149578240, 4816244402031689728, 4831355200913801216, 4846369599423283200, 4861130398305394688, 4876203697187506176, 4891288408196988160, 4906019910204099648, 4921056587992461136, 4936209963552724370]
def fvN (j : Nat) : Nat := fvT.getD j 0
def hiN (i : Nat) : Nat := (Pinned.pow10Rows.getD i (0, 0)).1
def loN (i : Nat) : Nat := (Pinned.pow10Rows.getD i (0, 0)).2
def pnB (b : Nat) : Bool := match Ieee.double.read b with | .number _ m _ => decide (m ≠ 0) | _ => false
theorem pn_of {b : Nat} (h : pnB b = true) : PN b := by
  unfold pnB at h
  split at h
  · rename_i s m i e
    exact ⟨s, m, i, e, of_decide_eq_true h⟩
  · cases h
theorem fv_pn : ∀ j, j < 23 → PN (fvN j) := by
  have h : ∀ j : Fin 23, pnB (fvN j.val) = true := by decide +kernel
  exact fun j hj => pn_of (h ⟨j, hj⟩)
theorem num_lt : ∀ i, i < 696 → hiN i < 18446744073709551616 ∧ loN i < 18446744073709551616 := by
  have h : ∀ i : Fin 696, hiN i.val < 18446744073709551616 ∧ loN i.val < 18446744073709551616 := by decide +kernel
  exact fun i hi => h ⟨i, hi⟩
theorem dg_unD_aux : ∀ (r : List UInt8), (∀ b ∈ r, 48 ≤ b.toNat ∧ b.toNat ≤ 57) → r.getLast? ≠ some 48 → dg (unD 0 r.reverse) = r.reverse
  | [], _, _ => by rw [List.reverse_nil, unD_nil, dg_zero]
  | b :: l, h, h0 => by
    have hb := h b (by simp)
    have hl : ∀ b ∈ l, 48 ≤ b.toNat ∧ b.toNat ≤ 57 := fun b hb => h b (by simp [hb])
    rw [List.reverse_cons, unD_append, show unD 0 l.reverse * 10 + (b.toNat - 48) = 10 * unD 0 l.reverse + (b.toNat - 48) by omega]
    have eb : UInt8.ofNat (48 + (b.toNat - 48)) = b := by rw [show 48 + (b.toNat - 48) = b.toNat by omega, UInt8.ofNat_toNat]
    cases l with
    | nil =>
      have : b.toNat ≠ 48 := by intro e; exact h0 (by rw [List.getLast?_singleton]; exact congrArg some (UInt8.toNat_inj.1 (by rw [e]; rfl)))
      rw [List.reverse_nil, unD_nil, dg_snoc (.inr (by omega)) (by omega), dg_zero, eb]
    | cons c l' =>
      have ih := dg_unD_aux (c :: l') hl (by simpa using h0)
      have hne : unD 0 (c :: l').reverse ≠ 0 := by
        intro e
        rw [e, dg_zero] at ih
        simp at ih
      rw [dg_snoc (.inl hne) (by omega), ih, eb]
theorem dg_unD (l : List UInt8) (h : ∀ b ∈ l, 48 ≤ b.toNat ∧ b.toNat ≤ 57) (h0 : l.head? ≠ some 48) : dg (unD 0 l) = l := by
  have := dg_unD_aux l.reverse (fun b hb => h b (by simpa using hb)) (by simpa using h0)
  simpa using this
def cheatB (k : Nat) (r : Nat × List UInt8) : Bool := (r.2.all fun b => decide (48 ≤ b.toNat ∧ b.toNat ≤ 57)) && decide (r.2.head? ≠ some 48) && decide (unD 0 r.2 = 5 ^ k) && decide (k - r.2.length + 1 = r.1)
theorem cheats : ∀ k, 1 ≤ k → k ≤ 60 → (Pinned.cheatRows.getD k (0, [])).1 = k - nd (5 ^ k) + 1 ∧ (Pinned.cheatRows.getD k (0, [])).2 = dg (5 ^ k) := by
  have h : ∀ k : Fin 61, 1 ≤ k.val → cheatB k.val (Pinned.cheatRows.getD k.val (0, [])) = true := by decide +kernel
  intro k h1 h2
  have := h ⟨k, by omega⟩ h1
  simp only [cheatB, Bool.and_eq_true, decide_eq_true_eq, List.all_eq_true] at this
  obtain ⟨⟨⟨a, b⟩, c⟩, d⟩ := this
  have e := dg_unD _ a b
  rw [c] at e
  refine ⟨?_, e.symm⟩
  rw [← d]
  unfold nd
  rw [e]

abbrev laidE := Rows.fnParseEndsRow.laid
theorem laidE_plain : (laidE.all fun x => x.2.handleName?.isNone) = true := by kernel_rfl
theorem laidE_met {W : World} (h : laidMetH Tryz.prog laidE W) : laidMet Tryz.prog laidE W := by rw [MakeChecks.laidMetH_plain _ _ _ laidE_plain] at h; exact h
theorem readE {W : World} (h : laidMet Tryz.prog laidE W) (i : Nat) {n : String} {d : DataW Unit} (hi : laidE[i]? = some (n, d)) : VarReads Tryz.prog W n d := Lib.laidMet.reads h (List.mem_of_getElem? hi)

theorem U.t3 : Tryz.prog.underlying 3 = some (.int .i64) := by kernel_rfl
theorem U.t4 : Tryz.prog.underlying 4 = some .bool := by kernel_rfl
theorem U.t9 : Tryz.prog.underlying 9 = some .string := by kernel_rfl
theorem U.t24 : Tryz.prog.underlying 24 = some (.float .f64) := by kernel_rfl
theorem U.t158 : Tryz.prog.underlying 158 = some (.int .u64) := by kernel_rfl
theorem U.t161 : Tryz.prog.underlying 161 = some (.int .u64) := by kernel_rfl
theorem U.c3 : Tryz.prog.cellsOf 3 = 1 := by kernel_rfl
theorem U.c4 : Tryz.prog.cellsOf 4 = 1 := by kernel_rfl
theorem U.c9 : Tryz.prog.cellsOf 9 = 1 := by kernel_rfl
theorem U.c24 : Tryz.prog.cellsOf 24 = 1 := by kernel_rfl
theorem U.c158 : Tryz.prog.cellsOf 158 = 1 := by kernel_rfl
theorem U.c161 : Tryz.prog.cellsOf 161 = 1 := by kernel_rfl

theorem powtab_facts {W : World} (h : VarReads Tryz.prog W "internal/strconv.powtab" Rows.laid_internal_strconv_powtab) : ∃ pb po pc, W.cell? ⟨20, 0, none⟩ = some (.slice (some ⟨pb, po, none⟩) 9 pc) ∧ ∀ j, j < 9 → W.cell? ⟨pb, po + j, none⟩ = some (.int .i64 (pw j : Nat)) := by
  have e : Rows.laid_internal_strconv_powtab = (.slice ((List.range 9).map fun j => .lit (.int .i64 (pw j : Nat))) [] : DataW Unit) := by kernel_rfl
  rw [e] at h
  obtain ⟨b, o, cap, h1, h2⟩ := slice_elems (g := 20) (t := 31) (e := 3) (by kernel_rfl) (by kernel_rfl) (by kernel_rfl) (by decide) (by rw [U.c3]; decide) h
  refine ⟨b, o, cap, h1, fun j hj => ?_⟩
  obtain ⟨f, ce, d, q, hd, hl, hc, ht⟩ := h2 j (by simpa using hj)
  simp only [List.getElem?_map, List.getElem?_range hj, Option.map_some, Option.some.injEq] at hd
  subst hd
  have hc0 := hc 0 (by rw [U.c3]; decide)
  rw [U.c3, Nat.mul_one, Nat.add_zero] at hc0
  rw [hc0]
  exact int_at (cs := ce) (o := 0) U.t3 U.c3 (by rw [List.drop_zero, List.take_of_length_le (by omega)]; exact ht)
theorem pow10_facts {W : World} (h : VarReads Tryz.prog W "internal/strconv.float64pow10" Rows.laid_internal_strconv_float64pow10) : ∃ pb po pc, W.cell? ⟨21, 0, none⟩ = some (.slice (some ⟨pb, po, none⟩) 23 pc) ∧ ∀ j, j < 23 → W.cell? ⟨pb, po + j, none⟩ = some (.float .f64 (fvN j)) := by
  have e : Rows.laid_internal_strconv_float64pow10 = (.slice ((List.range 23).map fun j => .lit (.float .f64 (fvN j))) [] : DataW Unit) := by kernel_rfl
  rw [e] at h
  obtain ⟨b, o, cap, h1, h2⟩ := slice_elems (g := 21) (t := 314) (e := 24) (by kernel_rfl) (by kernel_rfl) (by kernel_rfl) (by decide) (by rw [U.c24]; decide) h
  refine ⟨b, o, cap, h1, fun j hj => ?_⟩
  obtain ⟨f, ce, d, q, hd, hl, hc, ht⟩ := h2 j (by simpa using hj)
  simp only [List.getElem?_map, List.getElem?_range hj, Option.map_some, Option.some.injEq] at hd
  subst hd
  have hc0 := hc 0 (by rw [U.c24]; decide)
  rw [U.c24, Nat.mul_one, Nat.add_zero] at hc0
  rw [hc0]
  exact flt_at (cs := ce) (o := 0) U.t24 U.c24 (by rw [List.drop_zero, List.take_of_length_le (by omega)]; exact ht)
theorem cheat_facts {W : World} (h : VarReads Tryz.prog W "internal/strconv.leftcheats" Rows.laid_internal_strconv_leftcheats) : ∃ lb lo lc, W.cell? ⟨23, 0, none⟩ = some (.slice (some ⟨lb, lo, none⟩) 61 lc) ∧
    ∀ k, 1 ≤ k → k ≤ 60 → W.cell? ⟨lb, lo + k * 2, none⟩ = some (.int .i64 ((k - nd (5 ^ k) + 1 : Nat) : Int)) ∧ W.cell? ⟨lb, lo + k * 2 + 1, none⟩ = some (S (dg (5 ^ k))) := by
  have e : Rows.laid_internal_strconv_leftcheats = (.slice ((List.range 61).map fun k => .agg [.lit (.int .i64 (Pinned.cheatRows.getD k (0, [])).1), .lit (.string (Pinned.cheatRows.getD k (0, [])).2)]) [] : DataW Unit) := by kernel_rfl
  rw [e] at h
  have c323 : Tryz.prog.cellsOf 323 = 2 := by kernel_rfl
  obtain ⟨b, o, cap, h1, h2⟩ := slice_elems (g := 23) (t := 324) (e := 323) (by kernel_rfl) (by kernel_rfl) (by kernel_rfl) (by decide) (by rw [c323]; decide) h
  refine ⟨b, o, cap, h1, fun k hk1 hk2 => ?_⟩
  obtain ⟨f, ce, d, q, hd, hl, hc, ht⟩ := h2 k (by simp; omega)
  simp only [List.getElem?_map, List.getElem?_range (show k < 61 by omega), Option.map_some, Option.some.injEq] at hd
  subst hd
  obtain ⟨g1, g2⟩ := cheats k hk1 hk2
  rw [g1, g2] at ht
  have hu : Tryz.prog.underlying 323 = some (.struct #[{ name := "delta", type := 3, offset := 0, embedded := false, tag := "", pkgPath := "internal/strconv", byteOffset := 0 }, { name := "cutoff", type := 9, offset := 1, embedded := false, tag := "", pkgPath := "internal/strconv", byteOffset := 8 }]) := by kernel_rfl
  have hc0 := hc 0 (by rw [c323]; decide)
  have hc1 := hc 1 (by rw [c323]; decide)
  rw [c323] at hc0 hc1
  rw [Nat.add_zero] at hc0
  constructor
  · rw [hc0]
    obtain ⟨f', d', q', e1, e2⟩ := struct_elem hu ht (i := 0) rfl
    simp only [List.getElem?_cons_zero, Option.some.injEq] at e1
    subst e1
    exact int_at U.t3 U.c3 e2
  · rw [hc1]
    obtain ⟨f', d', q', e1, e2⟩ := struct_elem hu ht (i := 1) rfl
    simp only [List.getElem?_cons_succ, List.getElem?_cons_zero, Option.some.injEq] at e1
    subst e1
    exact str_at U.t9 U.c9 e2
theorem hilo_facts {W : World} (h : VarReads Tryz.prog W "internal/strconv.pow10Tab" Rows.laid_internal_strconv_pow10Tab) : ∀ i, i < 696 → W.cell? ⟨22, i * 2, none⟩ = some (.int .u64 (hiN i)) ∧ W.cell? ⟨22, i * 2 + 1, none⟩ = some (.int .u64 (loN i)) := by
  have e : Rows.laid_internal_strconv_pow10Tab = (.agg ((List.range 696).map fun i => .agg [.lit (.int .u64 (hiN i)), .lit (.int .u64 (loN i))]) : DataW Unit) := by kernel_rfl
  rw [e] at h
  obtain ⟨g, t, cs, fuel, p, hg, hty, hvar, hd⟩ := h
  obtain rfl := Option.some.inj ((show Tryz.prog.globalNamed "internal/strconv.pow10Tab" = some 22 by kernel_rfl).symm.trans hg)
  obtain rfl := Option.some.inj ((show (Tryz.prog.globals[22]?).map (·.type) = some 318 by kernel_rfl).symm.trans hty)
  intro i hi
  have he : Tryz.prog.underlying 318 = some (.array 696 (Tryz.prog.elem 318)) := by kernel_rfl
  have hc : Tryz.prog.cellsOf (Tryz.prog.elem 318) = 2 := by kernel_rfl
  have hu : Tryz.prog.underlying (Tryz.prog.elem 318) = some (.struct #[{ name := "hi", type := 158, offset := 0, embedded := false, tag := "", pkgPath := "internal/strconv", byteOffset := 0 }, { name := "lo", type := 158, offset := 1, embedded := false, tag := "", pkgPath := "internal/strconv", byteOffset := 8 }]) := by kernel_rfl
  obtain ⟨f', d, q, hdi, ht⟩ := array_elem he hd i hi
  simp only [List.getElem?_map, List.getElem?_range hi, Option.map_some, Option.some.injEq] at hdi
  subst hdi
  rw [hc] at ht
  have key : ∀ j v, ((cs.toList.drop (i * 2)).take 2)[j]? = some v → W.cell? ⟨22, i * 2 + j, none⟩ = some v := by
    intro j v hv
    rw [World.var?_cell hg hvar (i * 2 + j), ← Array.getElem?_toList]
    rw [List.getElem?_take] at hv
    split at hv
    · rw [List.getElem?_drop] at hv
      exact hv
    · cases hv
  constructor
  · obtain ⟨f2, d2, q2, e1, e2⟩ := struct_elem hu ht (i := 0) rfl
    simp only [List.getElem?_cons_zero, Option.some.injEq] at e1
    subst e1
    exact key 0 _ (int_at U.t158 U.c158 e2)
  · obtain ⟨f2, d2, q2, e1, e2⟩ := struct_elem hu ht (i := 1) rfl
    simp only [List.getElem?_cons_succ, List.getElem?_cons_zero, Option.some.injEq] at e1
    subst e1
    exact key 1 _ (int_at U.t158 U.c158 e2)
theorem info_facts {W : World} (h : VarReads Tryz.prog W "internal/strconv.float64info" Rows.laid_internal_strconv_float64info) : W.cell? ⟨17, 0, none⟩ = some (.int .u64 52) ∧ W.cell? ⟨17, 1, none⟩ = some (.int .u64 11) ∧ W.cell? ⟨17, 2, none⟩ = some (.int .i64 (-1023)) := by
  obtain ⟨g, t, cs, fuel, p, hg, hty, hvar, hd⟩ := h
  obtain rfl := Option.some.inj ((show Tryz.prog.globalNamed "internal/strconv.float64info" = some 17 by kernel_rfl).symm.trans hg)
  obtain rfl := Option.some.inj ((show (Tryz.prog.globals[17]?).map (·.type) = some 272 by kernel_rfl).symm.trans hty)
  have hu : Tryz.prog.underlying 272 = some (.struct #[{ name := "mantbits", type := 161, offset := 0, embedded := false, tag := "", pkgPath := "internal/strconv", byteOffset := 0 }, { name := "expbits", type := 161, offset := 1, embedded := false, tag := "", pkgPath := "internal/strconv", byteOffset := 8 }, { name := "bias", type := 3, offset := 2, embedded := false, tag := "", pkgPath := "internal/strconv", byteOffset := 16 }]) := by kernel_rfl
  have key : ∀ j v, cs.toList[j]? = some v → W.cell? ⟨17, j, none⟩ = some v := by
    intro j v hv
    rw [World.var?_cell hg hvar j, ← Array.getElem?_toList]
    exact hv
  refine ⟨?_, ?_, ?_⟩
  · obtain ⟨f2, d2, q2, e1, e2⟩ := struct_elem hu hd (i := 0) rfl
    simp only [List.getElem?_cons_zero, Option.some.injEq] at e1
    subst e1
    exact key 0 _ (int_at U.t161 U.c161 e2)
  · obtain ⟨f2, d2, q2, e1, e2⟩ := struct_elem hu hd (i := 1) rfl
    simp only [List.getElem?_cons_succ, List.getElem?_cons_zero, Option.some.injEq] at e1
    subst e1
    exact key 1 _ (int_at U.t161 U.c161 e2)
  · obtain ⟨f2, d2, q2, e1, e2⟩ := struct_elem hu hd (i := 2) rfl
    simp only [List.getElem?_cons_succ, List.getElem?_cons_zero, Option.some.injEq] at e1
    subst e1
    exact key 2 _ (int_at U.t3 U.c3 e2)
theorem opt_facts {W : World} (h : VarReads Tryz.prog W "internal/strconv.optimize" Rows.laid_internal_strconv_optimize) : W.cell? ⟨9, 0, none⟩ = some (.bool true) := by
  obtain ⟨g, t, cs, fuel, p, hg, hty, hvar, hd⟩ := h
  obtain rfl := Option.some.inj ((show Tryz.prog.globalNamed "internal/strconv.optimize" = some 9 by kernel_rfl).symm.trans hg)
  obtain rfl := Option.some.inj ((show (Tryz.prog.globals[9]?).map (·.type) = some 4 by kernel_rfl).symm.trans hty)
  obtain ⟨b, hb, hx⟩ := DataW.trod_bool U.t4 hd
  simp only [Rows.laid_internal_strconv_optimize, Prod.mk.injEq, DataW.lit.injEq, Lit.bool.injEq] at hx
  rw [World.var?_cell hg hvar 0, ← Array.getElem?_toList, hb, ← hx.1]
  rfl
theorem U.star : "*errors.errorString" = "*" ++ "errors.errorString" := by rfl
theorem U.t207 : ∀ u, Tryz.prog.typeName? 3 u = some "*errors.errorString" → u = 207 := fun u h => typeName_ptr_named (nm := "errors.errorString") (by rw [← U.star]; kernel_rfl) (by kernel_rfl) (by decide) u (by rw [← U.star]; exact h)
set_option maxRecDepth 100000 in
theorem sentinel_is {W : World} {n : String} {text : List UInt8} {g : Nat} (h : laidMet Tryz.prog [(n, .iface "*errors.errorString" (.ptr (.agg [.lit (.string text)])))] W) (hg : Tryz.prog.globalNamed n = some g) (ht : (Tryz.prog.globals[g]?).map (·.type) = some 71) :
    ∃ a, W.cell? ⟨g, 0, none⟩ = some (.iface 207 (.pointer (some a))) ∧ IsErr W a := by
  obtain ⟨ps, ⟨g0, t0, cs0, f0, p0, q0, hg0, ht0, hv0, hd0, hq, e0⟩, _, hrows⟩ := h
  obtain rfl := Option.some.inj (hg.symm.trans hg0)
  obtain rfl := Option.some.inj (ht.symm.trans ht0)
  have hq' : q0 = [] := hq
  subst hq' e0
  rw [List.append_nil] at hrows
  obtain ⟨l0⟩ := cs0
  have ok0 : ∀ u v, l0 = [.iface u v] → Value.okWide Tryz.prog W .any 0 u v := fun u v e => by
    subst e
    exact (hrows g 0 (by simp [MemPlace.row])).2 u v (World.var?_cell hg0 hv0 0)
  obtain ⟨a, s0, hl, hc0, hs0, hz0, hp⟩ := errorString_of_trod (te := 209) (ts := 9) Tryz.underlying71 U.t207 Tryz.underlying207 Tryz.underlying209 rfl rfl U.t9 (by kernel_rfl) U.c9 hd0 ok0
  have hl' : l0 = [.iface 207 (.pointer (some a))] := hl
  subst hl' hp
  refine ⟨a, World.var?_cell hg0 hv0 0, ?_⟩
  obtain ⟨⟨c, t, hc⟩, _⟩ := hrows a.block a.off (by simp [MemPlace.row])
  exact ⟨c, t, hc⟩
def txt (l : List (String × DataW Unit)) (n : String) : List UInt8 := match (l.filter fun x => x.1 == n) with | [(_, .iface _ (.ptr (.agg [.lit (.string t)])))] => t | _ => []
theorem sentinel_in {W : World} (h : laidMet Tryz.prog laidE W) (n : String) (g : Nat) (hf : (laidE.filter fun x => x.1 == n) = [(n, .iface "*errors.errorString" (.ptr (.agg [.lit (.string (txt laidE n))])))]) (hg : Tryz.prog.globalNamed n = some g) (ht : (Tryz.prog.globals[g]?).map (·.type) = some 71) :
    g < W.heap.size ∧ ∃ a, W.cell? ⟨g, 0, none⟩ = some (.iface 207 (.pointer (some a))) ∧ IsErr W a := by
  have h1 := Go.laidMet.filter (fun x => x.1 == n) h
  rw [hf] at h1
  obtain ⟨a, h2, h3⟩ := sentinel_is h1 hg ht
  exact ⟨cell_lt h2, a, h2, h3⟩
theorem glob_of {W : World} (h : laidMet Tryz.prog laidE W) : Glob W := by
  intro g hg
  simp only [List.mem_cons, List.not_mem_nil, or_false] at hg
  rcases hg with rfl | rfl | rfl | rfl | rfl | rfl | rfl | rfl | rfl | rfl | rfl
  · exact sentinel_in h "given.example/pub-foolscap/pub/pdfcpu/pkg/pdfcpu/model.errBufNotAvailable" 0 (by kernel_rfl) (by kernel_rfl) (by kernel_rfl)
  · exact sentinel_in h "given.example/pub-foolscap/pub/pdfcpu/pkg/pdfcpu/model.ErrMaxRecursionDepthExceeded" 1 (by kernel_rfl) (by kernel_rfl) (by kernel_rfl)
  · exact sentinel_in h "strconv.ErrSyntax" 2 (by kernel_rfl) (by kernel_rfl) (by kernel_rfl)
  · exact sentinel_in h "strconv.ErrRange" 3 (by kernel_rfl) (by kernel_rfl) (by kernel_rfl)
  · exact sentinel_in h "given.example/pub-foolscap/pub/pdfcpu/pkg/pdfcpu/model.errNoArray" 4 (by kernel_rfl) (by kernel_rfl) (by kernel_rfl)
  · exact sentinel_in h "given.example/pub-foolscap/pub/pdfcpu/pkg/pdfcpu/model.errArrayCorrupt" 5 (by kernel_rfl) (by kernel_rfl) (by kernel_rfl)
  · exact sentinel_in h "given.example/pub-foolscap/pub/pdfcpu/pkg/pdfcpu/model.errArrayNotTerminated" 6 (by kernel_rfl) (by kernel_rfl) (by kernel_rfl)
  · exact sentinel_in h "given.example/pub-foolscap/pub/pdfcpu/pkg/pdfcpu/model.errNameObjectCorrupt" 7 (by kernel_rfl) (by kernel_rfl) (by kernel_rfl)
  · exact sentinel_in h "given.example/pub-foolscap/pub/pdfcpu/pkg/pdfcpu/model.errStringLiteralCorrupt" 8 (by kernel_rfl) (by kernel_rfl) (by kernel_rfl)
  · exact sentinel_in h "given.example/pub-foolscap/pub/pdfcpu/pkg/pdfcpu/model.errHexLiteralCorrupt" 14 (by kernel_rfl) (by kernel_rfl) (by kernel_rfl)
  · exact sentinel_in h "given.example/pub-foolscap/pub/pdfcpu/pkg/pdfcpu/model.errHexLiteralNotTerminated" 15 (by kernel_rfl) (by kernel_rfl) (by kernel_rfl)
def u8ren : Shelf.Ren := ⟨fun n => n, fun | 5 => 5 | 119 => 333 | 138 => 335 | 139 => 336 | n => n, fun | 3 => 26 | 4 => 27 | n => n⟩
theorem tabs_of {W : World} (h : laidMet Tryz.prog laidE W) : Lib.Utf8Tabs 26 27 W := by
  have h1 : VarReads Tryz.prog W "unicode/utf8.first" firstData := by
    have e : (firstData : DataW Unit) = Rows.laid_unicode_utf8_first := by kernel_rfl
    rw [e]
    exact readE h 27 (by kernel_rfl)
  have h2 : VarReads Tryz.prog W "unicode/utf8.acceptRanges" acceptData := by
    have e : (acceptData : DataW Unit) = Rows.laid_unicode_utf8_acceptRanges := by kernel_rfl
    rw [e]
    exact readE h 9 (by kernel_rfl)
  exact Go.Proofs.utf8Tabs_of_readsT (P := Tryz.prog) (ρ := u8ren) ⟨by kernel_rfl, by kernel_rfl, by kernel_rfl, by kernel_rfl⟩ ⟨by kernel_rfl, by kernel_rfl, by kernel_rfl, by kernel_rfl, by kernel_rfl, by kernel_rfl, by kernel_rfl⟩ h1 h2

/-- All that the walks ask of the package's variables. -/
theorem pg_of {W : World} (hL : laidMetH Tryz.prog laidE W) : PG (atF fvN hiN loN) W := by
  have h := laidE_met hL
  have hT := tabs_of h
  obtain ⟨lb, lo, lc, k1, k2⟩ := cheat_facts (readE h 25 (by kernel_rfl))
  obtain ⟨pb, po, pc, p1, p2⟩ := powtab_facts (readE h 5 (by kernel_rfl))
  obtain ⟨fb, fo, fc, f1, f2⟩ := pow10_facts (readE h 6 (by kernel_rfl))
  obtain ⟨i0, i1, i2⟩ := info_facts (readE h 3 (by kernel_rfl))
  have hG := glob_of h
  have hB := sentinel_in h "encoding/hex.ErrLength" 18 (by kernel_rfl) (by kernel_rfl) (by kernel_rfl)
  obtain ⟨hB1, ev, hB2, _⟩ := hB
  have h27 := cell_lt (hT.2 0 (by omega)).1
  have hP : PW fvN hiN loN lb lo lc pb po pc fb fo fc W := ⟨⟨k1, k2, p1, p2, i0, i1, i2⟩, ⟨i0, f1, f2, fv_pn⟩, hilo_facts (readE h 26 (by kernel_rfl)), num_lt, opt_facts (readE h 4 (by kernel_rfl)), by omega, cell_lt (k2 1 (by omega) (by omega)).1, cell_lt (p2 0 (by omega)), cell_lt (f2 0 (by omega))⟩
  obtain ⟨h2, a, h3, _⟩ := hG 2 (by simp)
  exact ⟨hG, hT, hB1, ⟨_, hB2⟩, pfs_of _ _ _ _ _ _ _ _ _ _ _ _ W hP, pfb_of W h2 ⟨_, _, h3⟩⟩
end Go.Proofs.YtcpijmbdibgdmaaGreatDoor

namespace Go.Proofs.YtcpijmbdibgdmaaGreatDoor
open Go.RowKit
attribute [local go_sem] ba_get store_flt

set_option maxHeartbeats 4000000 in
set_option maxRecDepth 100000 in
theorem val_true (r : List UInt8) (p lv : Nat) (rx : Bool) (w : World) (hs : r.length ≤ 1048570) (hL : Blk w p 9 #[S (wTrue ++ r)]) :
    Calls Tryz.prog 98 (pargs p lv rx) w fun e w' => OkP w p r (.iface 100 (.bool true)) e w' := by
  have hbn := fun w => boolNull_true r w hs
  obtain ⟨t, ht⟩ : ∃ t : List UInt8, t = wTrue ++ r := ⟨_, rfl⟩
  have h0 : 0 < t.length := by rw [ht]; simp [wTrue]
  have hb : (t[0]'h0).toNat = 116 := by simp [ht, wTrue]
  have hdr : t.drop 4 = r := by rw [ht]; rfl
  have htl : t.length ≤ 1048576 := by rw [ht]; simp [wTrue]; omega
  rw [← ht] at hL hbn
  have c0 : w.cell? ⟨p, 0, none⟩ = some (S t) := hL.cell 0
  have f0 := hL.frozen 0
  have hpl := hL.lt
  have t91 : ((((t[0]'h0).toNat : Nat) : Int) == 91) = false := by rw [beq_eq_false_iff_ne]; omega
  have t47 : ((((t[0]'h0).toNat : Nat) : Int) == 47) = false := by rw [beq_eq_false_iff_ne]; omega
  have t60 : ((((t[0]'h0).toNat : Nat) : Int) == 60) = false := by rw [beq_eq_false_iff_ne]; omega
  have t40 : ((((t[0]'h0).toNat : Nat) : Int) == 40) = false := by rw [beq_eq_false_iff_ne]; omega
  clear hb ht
  go_enter Tryz.func98, Tryz.ntmps98
  go_wp2_with fail
  refine (hbn _).mono ?_
  rintro e w1 ⟨rfl, hB1⟩
  have hB : Below w.heap.size w w1 := ((Below.refl _ w).alloc (Nat.le_refl _) _).trans (hB1.mono (by simp))
  have c1 : w1.cell? ⟨p, 0, none⟩ = some (S t) := (hB.cell (p := ⟨p, 0, none⟩) hpl).trans c0
  have f1 : w1.frozen? ⟨p, 0, none⟩ = false := (hB.frozen (p := ⟨p, 0, none⟩) hpl).trans f0
  have hL1 : Blk w1 p 9 #[S t] := hL.below hB hpl
  have hwl : wTrue.length = 4 := rfl
  go_wp2_with fail
  refine (forward_any t 4 w1 htl (by omega)).mono ?_
  rintro e w2 ⟨rfl, rfl⟩
  rw [hdr]
  go_wp2_with fail
  refine bodyPost_ret (v := .tuple #[.iface 100 (.bool true), .nilIface]) (by simp [results, Tryz.results98, go_sem]) rfl ?_
  exact ⟨rfl, by have := Blk.set_ hL1 0 (S r); simpa using this, only_set (only_of_below hB) _ _⟩

set_option maxHeartbeats 4000000 in
set_option maxRecDepth 100000 in
theorem val_false (r : List UInt8) (p lv : Nat) (rx : Bool) (w : World) (hs : r.length ≤ 1048570) (hL : Blk w p 9 #[S (wFalse ++ r)]) :
    Calls Tryz.prog 98 (pargs p lv rx) w fun e w' => OkP w p r (.iface 100 (.bool false)) e w' := by
  have hbn := fun w => boolNull_false r w hs
  obtain ⟨t, ht⟩ : ∃ t : List UInt8, t = wFalse ++ r := ⟨_, rfl⟩
  have h0 : 0 < t.length := by rw [ht]; simp [wFalse]
  have hb : (t[0]'h0).toNat = 102 := by simp [ht, wFalse]
  have hdr : t.drop 5 = r := by rw [ht]; rfl
  have htl : t.length ≤ 1048576 := by rw [ht]; simp [wFalse]; omega
  rw [← ht] at hL hbn
  have c0 : w.cell? ⟨p, 0, none⟩ = some (S t) := hL.cell 0
  have f0 := hL.frozen 0
  have hpl := hL.lt
  have t91 : ((((t[0]'h0).toNat : Nat) : Int) == 91) = false := by rw [beq_eq_false_iff_ne]; omega
  have t47 : ((((t[0]'h0).toNat : Nat) : Int) == 47) = false := by rw [beq_eq_false_iff_ne]; omega
  have t60 : ((((t[0]'h0).toNat : Nat) : Int) == 60) = false := by rw [beq_eq_false_iff_ne]; omega
  have t40 : ((((t[0]'h0).toNat : Nat) : Int) == 40) = false := by rw [beq_eq_false_iff_ne]; omega
  clear hb ht
  go_enter Tryz.func98, Tryz.ntmps98
  go_wp2_with fail
  refine (hbn _).mono ?_
  rintro e w1 ⟨rfl, hB1⟩
  have hB : Below w.heap.size w w1 := ((Below.refl _ w).alloc (Nat.le_refl _) _).trans (hB1.mono (by simp))
  have c1 : w1.cell? ⟨p, 0, none⟩ = some (S t) := (hB.cell (p := ⟨p, 0, none⟩) hpl).trans c0
  have f1 : w1.frozen? ⟨p, 0, none⟩ = false := (hB.frozen (p := ⟨p, 0, none⟩) hpl).trans f0
  have hL1 : Blk w1 p 9 #[S t] := hL.below hB hpl
  have hwl : wFalse.length = 5 := rfl
  go_wp2_with fail
  refine (forward_any t 5 w1 htl (by omega)).mono ?_
  rintro e w2 ⟨rfl, rfl⟩
  rw [hdr]
  go_wp2_with fail
  refine bodyPost_ret (v := .tuple #[.iface 100 (.bool false), .nilIface]) (by simp [results, Tryz.results98, go_sem]) rfl ?_
  exact ⟨rfl, by have := Blk.set_ hL1 0 (S r); simpa using this, only_set (only_of_below hB) _ _⟩

set_option maxHeartbeats 4000000 in
set_option maxRecDepth 100000 in
theorem val_null (r : List UInt8) (p lv : Nat) (rx : Bool) (w : World) (hs : r.length ≤ 1048570) (hL : Blk w p 9 #[S (wNull ++ r)]) :
    Calls Tryz.prog 98 (pargs p lv rx) w fun e w' => OkP w p r (.nilIface) e w' := by
  have hbn := fun w => boolNull_null r w hs
  obtain ⟨t, ht⟩ : ∃ t : List UInt8, t = wNull ++ r := ⟨_, rfl⟩
  have h0 : 0 < t.length := by rw [ht]; simp [wNull]
  have hb : (t[0]'h0).toNat = 110 := by simp [ht, wNull]
  have hdr : t.drop 4 = r := by rw [ht]; rfl
  have htl : t.length ≤ 1048576 := by rw [ht]; simp [wNull]; omega
  rw [← ht] at hL hbn
  have c0 : w.cell? ⟨p, 0, none⟩ = some (S t) := hL.cell 0
  have f0 := hL.frozen 0
  have hpl := hL.lt
  have t91 : ((((t[0]'h0).toNat : Nat) : Int) == 91) = false := by rw [beq_eq_false_iff_ne]; omega
  have t47 : ((((t[0]'h0).toNat : Nat) : Int) == 47) = false := by rw [beq_eq_false_iff_ne]; omega
  have t60 : ((((t[0]'h0).toNat : Nat) : Int) == 60) = false := by rw [beq_eq_false_iff_ne]; omega
  have t40 : ((((t[0]'h0).toNat : Nat) : Int) == 40) = false := by rw [beq_eq_false_iff_ne]; omega
  clear hb ht
  go_enter Tryz.func98, Tryz.ntmps98
  go_wp2_with fail
  refine (hbn _).mono ?_
  rintro e w1 ⟨rfl, hB1⟩
  have hB : Below w.heap.size w w1 := ((Below.refl _ w).alloc (Nat.le_refl _) _).trans (hB1.mono (by simp))
  have c1 : w1.cell? ⟨p, 0, none⟩ = some (S t) := (hB.cell (p := ⟨p, 0, none⟩) hpl).trans c0
  have f1 : w1.frozen? ⟨p, 0, none⟩ = false := (hB.frozen (p := ⟨p, 0, none⟩) hpl).trans f0
  have hL1 : Blk w1 p 9 #[S t] := hL.below hB hpl
  have hwl : wNull.length = 4 := rfl
  go_wp2_with fail
  refine (forward_any t 4 w1 htl (by omega)).mono ?_
  rintro e w2 ⟨rfl, rfl⟩
  rw [hdr]
  go_wp2_with fail
  refine bodyPost_ret (v := .tuple #[.nilIface, .nilIface]) (by simp [results, Tryz.results98, go_sem]) rfl ?_
  exact ⟨rfl, by have := Blk.set_ hL1 0 (S r); simpa using this, only_set (only_of_below hB) _ _⟩

set_option maxHeartbeats 4000000 in
set_option maxRecDepth 100000 in
theorem val_else (b : UInt8) (l : List UInt8) (p lv : Nat) (rx : Bool) (W0 w : World) (Q : Value → List UInt8 → Prop) (hW : Below W0.heap.size W0 w) (hp : W0.heap.size ≤ p) (hs : l.length ≤ 1048575) (hb : b.toNat ≠ 91 ∧ b.toNat ≠ 47 ∧ b.toNat ≠ 60 ∧ b.toNat ≠ 40)
    (hlo : lowB b ≠ 110 ∧ lowB b ≠ 116 ∧ lowB b ≠ 102) (hL : Blk w p 9 #[S (b :: l)])
    (hA : ∀ w, Below W0.heap.size W0 w → Blk w p 9 #[S (b :: l)] → Calls Tryz.prog 120 #[.pointer (some ⟨p, 0, none⟩)] w fun e w' => ∃ v rest, Q v rest ∧ OkP w p rest v e w') :
    Calls Tryz.prog 98 (pargs p lv rx) w fun e w' => ∃ v rest, Q v rest ∧ OkP w p rest v e w' := by
  have hbn := fun w => boolNull_not b l w hs hlo
  obtain ⟨t, ht⟩ : ∃ t : List UInt8, t = b :: l := ⟨_, rfl⟩
  have h0 : 0 < t.length := by rw [ht]; simp
  have hb0 : (t[0]'h0) = b := by simp [ht]
  rw [← ht] at hL hbn hA
  rw [← hb0] at hb
  have c0 : w.cell? ⟨p, 0, none⟩ = some (S t) := hL.cell 0
  have f0 := hL.frozen 0
  have hpl := hL.lt
  have t91 : ((((t[0]'h0).toNat : Nat) : Int) == 91) = false := by rw [beq_eq_false_iff_ne]; omega
  have t47 : ((((t[0]'h0).toNat : Nat) : Int) == 47) = false := by rw [beq_eq_false_iff_ne]; omega
  have t60 : ((((t[0]'h0).toNat : Nat) : Int) == 60) = false := by rw [beq_eq_false_iff_ne]; omega
  have t40 : ((((t[0]'h0).toNat : Nat) : Int) == 40) = false := by rw [beq_eq_false_iff_ne]; omega
  clear hb ht hb0 hlo
  go_enter Tryz.func98, Tryz.ntmps98
  go_wp2_with fail
  refine (hbn _).mono ?_
  rintro e w1 ⟨rfl, hB1⟩
  have hB : Below w.heap.size w w1 := ((Below.refl _ w).alloc (Nat.le_refl _) _).trans (hB1.mono (by simp))
  go_wp2_with fail
  refine (hA w1 (hW.trans (hB.mono hW.size)) (hL.below hB hpl)).mono ?_
  rintro e w2 ⟨v, rest, hQ, rfl, hb, ho⟩
  have HQ := Lib.hid hQ
  clear hQ
  go_wp2_with fail
  refine bodyPost_ret (v := .tuple #[v, .nilIface]) (by simp [results, Tryz.results98, go_sem]) rfl ?_
  exact ⟨v, rest, HQ.out, rfl, hb, only_trans (only_of_below hB) ho⟩

theorem val_num (t rest : List UInt8) (v : SVal) (p lv : Nat) (rx : Bool) (pf : List UInt8 → Nat) (W0 w : World) (hG : PG pf W0) (hW : Below W0.heap.size W0 w) (hp : W0.heap.size ≤ p) (hs : t.length ≤ 1048570) (hL : Blk w p 9 #[S t])
    (hb : ∀ h : 0 < t.length, t[0].toNat ≠ 91 ∧ t[0].toNat ≠ 47 ∧ t[0].toNat ≠ 60 ∧ t[0].toNat ≠ 40) (hn : NumOk t rest v) :
    Calls Tryz.prog 98 (pargs p lv rx) w fun e w' => ∃ val, IVal val ∧ (∀ n, v = .int n → val = .iface 101 (.int .i64 n)) ∧ OkP w p rest val e w' := by
  rcases hn with ⟨h1 | h1 | h1, hv⟩ | ⟨b, l, n1, hbl, hlo, hcl, hnx, hn0, hz, hcase⟩
  · subst h1
    exact (val_true rest p lv rx w (by simp [wTrue] at hs; omega) hL).mono fun e w' h => ⟨_, .inr ⟨_, _, rfl⟩, fun n e => absurd e (hv n), h⟩
  · subst h1
    exact (val_false rest p lv rx w (by simp [wFalse] at hs; omega) hL).mono fun e w' h => ⟨_, .inr ⟨_, _, rfl⟩, fun n e => absurd e (hv n), h⟩
  · subst h1
    exact (val_null rest p lv rx w (by simp [wNull] at hs; omega) hL).mono fun e w' h => ⟨_, .inl rfl, fun n e => absurd e (hv n), h⟩
  · have hA : ∀ w, Below W0.heap.size W0 w → Blk w p 9 #[S t] → Calls Tryz.prog 120 #[.pointer (some ⟨p, 0, none⟩)] w fun e w' => ∃ val rest', (rest' = rest ∧ IVal val ∧ ∀ n, v = .int n → val = .iface 101 (.int .i64 n)) ∧ OkP w p rest' val e w' := fun w hW hL => by
      rcases hcase with ⟨hr, hno, h44, hrest, hv⟩ | ⟨n, rest2, REF, hok, hend, hgo, hfin⟩
      · refine (num_real pf t n1 p W0 w hG.glob hG.pfs hW hp (by omega) hcl hnx hn0 hz hr hno h44 hL).mono ?_
        rintro e w' ⟨u, hu, h⟩
        exact ⟨u, _, ⟨hrest.symm, hu, fun n e => absurd e (hv n)⟩, h⟩
      · refine (num_int t n1 p n rest2 REF W0 w hG.glob hW hp (by omega) hcl hnx hn0 hz hok hend hgo hL).mono ?_
        rintro e w' ⟨u, h1, h2⟩
        rcases hfin with ⟨hR, hrest, hv⟩ | ⟨hR, hrest, hv⟩
        · obtain ⟨hu, h⟩ := h1 hR
          exact ⟨u, _, ⟨hrest.symm, hu, fun n e => absurd e (hv n)⟩, h⟩
        · obtain ⟨rfl, h⟩ := h2 hR
          exact ⟨_, _, ⟨hrest.symm, .inr ⟨_, _, rfl⟩, fun m e => by rw [hv] at e; injection e with e; rw [e]⟩, h⟩
    have h0 : 0 < t.length := by rw [hbl]; simp
    have hb0 := hb h0
    simp only [hbl, List.getElem_cons_zero] at hb0
    rw [hbl] at hL hA
    refine (val_else b l p lv rx W0 w (fun val rest' => rest' = rest ∧ IVal val ∧ ∀ n, v = .int n → val = .iface 101 (.int .i64 n)) hW hp (by rw [hbl] at hs; simp at hs; omega) hb0 hlo hL hA).mono ?_
    rintro e w' ⟨val, rest', ⟨rfl, h2, h3⟩, h⟩
    exact ⟨val, h2, h3, h⟩
theorem val_pct (p lv : Nat) (rx : Bool) (pf : List UInt8 → Nat) (W0 w : World) (hG : PG pf W0) (hW : Below W0.heap.size W0 w) (hp : W0.heap.size ≤ p) (hL : Blk w p 9 #[S [37]]) :
    Calls Tryz.prog 98 (pargs p lv rx) w fun e w' => ∃ val, IVal val ∧ OkP w p [] val e w' := by
  refine (val_else 37 [] p lv rx W0 w (fun val rest' => rest' = [] ∧ IVal val) hW hp (by simp) (by decide) (by decide) hL (fun w hW hL => ?_)).mono ?_
  · refine (num_pct p W0 w hG.glob hG.pfb hW hp hL).mono ?_
    rintro e w' ⟨v, hv, h⟩
    exact ⟨v, [], ⟨rfl, hv⟩, h⟩
  · rintro e w' ⟨val, rest', ⟨rfl, h2⟩, h⟩
    exact ⟨val, h2, h⟩
end Go.Proofs.YtcpijmbdibgdmaaGreatDoor

namespace Go.Proofs.YtcpijmbdibgdmaaGreatDoor
open Go.RowKit
attribute [local go_sem] ba_get store_flt

set_option maxHeartbeats 1000000 in
theorem depth2_any (m : List UInt8) (lv : Nat) (W0 w : World) (hG : Glob W0) (hW : Below W0.heap.size W0 w) (hl : lv ≤ 1000) : Calls Tryz.prog 96 #[S m, .int .i64 lv, .int .i64 100] w fun e w' =>
    (∃ v, e = .returned v ∧ (v = .nilIface ∧ lv ≤ 100 ∨ ∃ q, v = .iface 207 (.pointer (some q)) ∧ IsErr W0 q ∧ 100 < lv)) ∧ w' = w := by
  obtain ⟨h1, a, hc, he⟩ := hG.later hW 1 (by simp)
  by_cases h : 100 < lv
  · have t1 : decide ((100 : Int) < (lv : Int)) = true := by rw [decide_eq_true_eq]; omega
    go_enter Tryz.func96, Tryz.ntmps96
    go_wp2_with fail
    go_ret
    exact ⟨⟨_, rfl, .inr ⟨a, rfl, he, h⟩⟩, rfl⟩
  · have t1 : decide ((100 : Int) < (lv : Int)) = false := by rw [decide_eq_false_iff_not]; omega
    go_enter Tryz.func96, Tryz.ntmps96
    go_wp2_with fail
    go_ret
    exact ⟨⟨_, rfl, .inl ⟨rfl, by omega⟩⟩, rfl⟩
/-- An error, and nothing else. -/
def ErrN (W0 w : World) (p : Nat) (e : Ending) (w' : World) : Prop := (∃ q : Addr, e = .returned (.tuple #[.nilIface, .iface 207 (.pointer (some q))]) ∧ IsErr W0 q) ∧ (∃ t, Blk w' p 9 #[S t]) ∧ Only w w' p
theorem ErrN.err {W0 w w' : World} {p : Nat} {e : Ending} (h : ErrN W0 w p e w') : ErrP W0 w p e w' := by
  obtain ⟨⟨q, h1, h2⟩, h3⟩ := h
  exact ⟨⟨_, q, h1, h2⟩, h3⟩
theorem only_new {w w1 w2 : World} {p q : Nat} (h : Only w w1 p) (hO : Only w1 w2 q) (hq : w.heap.size ≤ q) : Only w w2 p := only_grown h hO (fun k e => by injection e with e; omega)

set_option maxHeartbeats 4000000 in
set_option maxRecDepth 100000 in
theorem ctx_walk (t : List UInt8) (n p lv : Nat) (rx : Bool) (W0 w : World) (Q : Value → List UInt8 → Prop) (E : Prop) (hG : Glob W0) (hW : Below W0.heap.size W0 w) (hp : W0.heap.size ≤ p) (hs : t.length ≤ 1048576) (hlv : lv ≤ 1000) (hL : Blk w p 9 #[S t])
    (hE0 : t.length = 0 → E) (hE1 : 100 < lv → E) (hE2 : t.drop n = [] → E) (hcl : 0 < t.length → lv ≤ 100 → Clear t n)
    (hval : 0 < t.length → lv ≤ 100 → ∀ r, (r = t.drop n ∨ (n = t.length ∧ r = [37])) → 0 < r.length → ∀ w q, Below W0.heap.size W0 w → W0.heap.size ≤ q → Blk w q 9 #[S r] → Calls Tryz.prog 98 (pargs q lv rx) w fun e w' => (E ∧ ErrP W0 w q e w') ∨ ∃ v rest, Q v rest ∧ OkP w q rest v e w') :
    Calls Tryz.prog 81 (pargs p lv rx) w fun e w' => (E ∧ ErrN W0 w p e w') ∨ ∃ v rest, Q v rest ∧ OkP w p rest v e w' := by
  have c0 : w.cell? ⟨p, 0, none⟩ = some (S t) := hL.cell 0
  have f0 := hL.frozen 0
  have hpl := hL.lt
  have Hcl := Lib.hid hcl
  have Hval := Lib.hid hval
  have HE := Lib.hid (And.intro hE0 (And.intro hE1 hE2))
  clear hcl hval hE0 hE1 hE2
  have hW1 : Below W0.heap.size W0 (w.alloc (.cells #[] 96)) := hW.alloc hW.size _
  obtain ⟨h00, a0, cc0, e0⟩ := hG.later hW1 0 (by simp)
  go_enter Tryz.func81, Tryz.ntmps81
  go_wp2_with fail
  refine (noBuf_any p t _ (Blk.alloc hL _)).mono ?_
  rintro e w1 ⟨rfl, rfl⟩
  by_cases ht : t.length = 0
  · have tl : (t.length == 0) = true := by rw [beq_iff_eq]; exact ht
    rw [tl]
    have HE0 := Lib.hid (HE.out.1 ht)
    clear ht
    go_wp2_with fail
    go_quiet (fail)
    go_wp2_with fail
    refine bodyPost_ret (v := .tuple #[.nilIface, .iface 207 (.pointer (some a0))]) (by simp [results, Tryz.results81, go_sem]) rfl ?_
    exact .inl ⟨HE0.out, ⟨_, rfl, e0⟩, ⟨t, Blk.alloc hL _⟩, only_drewN (only_alloc (only_refl _ _) _) _⟩
  · have tl : (t.length == 0) = false := by rw [beq_eq_false_iff_ne]; exact ht
    rw [tl]
    have ht0 : 0 < t.length := by omega
    clear ht
    go_wp2_with fail
    refine (depth2_any [112, 97, 114, 115, 101, 32, 111, 98, 106, 101, 99, 116] lv W0 _ hG hW1 hlv).mono ?_
    rintro e w2 ⟨⟨v, rfl, ⟨rfl, hv⟩ | ⟨q, rfl, hq, h100⟩⟩, rfl⟩
    · go_wp2_with fail
      refine calls_gen (fun wx => Blk wx (w.heap.size + 1) 9 #[S t] ∧ Below w.heap.size w wx) ⟨?_, ?_⟩ ?_
      · first | exact Blk.newAt _ 9 #[S t] _ (by simp) | (have := Blk.set_ (Blk.newAt (w.alloc (.cells #[] 96)) 9 #[S []] (w.heap.size + 1) (by simp)) 0 (S t); simpa using this)
      · first | exact ((Below.refl _ w).alloc (Nat.le_refl _) _).alloc (by simp) _ | exact (((Below.refl _ w).alloc (Nat.le_refl _) _).alloc (by simp) _).setCell (by simp only; omega) _
      obtain ⟨q, hq⟩ : ∃ q, q = w.heap.size + 1 := ⟨_, rfl⟩
      rw [← hq]
      have hqw : w.heap.size ≤ q := by omega
      clear hq
      rintro w3 ⟨hLq, hB3⟩
      have hcl := Hcl.out ht0 hv
      have hlv' := hv
      refine (trim_any t n w3 hs hcl).mono ?_
      clear hcl
      rintro e w4 ⟨⟨r, rfl, hr⟩, hB34⟩
      have hB4 : Below w.heap.size w w4 := hB3.trans (hB34.mono hB3.size)
      have hLq4 : Blk w4 q 9 #[S t] := hLq.below hB34 hLq.lt
      have cq : w4.cell? ⟨q, 0, none⟩ = some (S t) := hLq4.cell 0
      have fq := hLq4.frozen 0
      have Hr := Lib.hid hr
      have Hlv := Lib.hid hv
      clear hr hv hlv'
      have hrl : r.length ≤ 1048576 := by
        rcases Hr.out with h | ⟨_, h⟩
        · rw [h, List.length_drop]; omega
        · rw [h]; decide
      by_cases h0 : r.length = 0
      · have t0 : ((r.length : Int) == 0) = true := by rw [beq_iff_eq]; omega
        have hE : E := by
          rcases Hr.out with h | ⟨_, h⟩
          · exact HE.out.2.2 (by rw [← h]; exact List.eq_nil_of_length_eq_zero h0)
          · rw [h] at h0; cases h0
        have HE2 := Lib.hid hE
        have hc4 : w4.cell? ⟨0, 0, none⟩ = some (.iface 207 (.pointer (some a0))) := by
          have h1 : 0 < w.heap.size := by omega
          have := (hG.later hW 0 (by simp))
          exact ((hB4.cell (p := ⟨0, 0, none⟩) h1)).trans (by rw [← cc0]; exact ((Below.refl w.heap.size w).alloc (Nat.le_refl _) (.cells #[] 96)).cell (p := ⟨0, 0, none⟩) h1 |>.symm)
        have hq0 : ¬ q = 0 := by omega
        clear hE h0
        go_wp2_with fail
        go_quiet (fail)
        go_wp2_with fail
        refine bodyPost_ret (v := .tuple #[.nilIface, .iface 207 (.pointer (some a0))]) (by simp [results, Tryz.results81, go_sem]) rfl ?_
        refine .inl ⟨HE2.out, ⟨_, rfl, e0⟩, ⟨t, ?_⟩, ?_⟩
        · exact (hL.below hB4 hpl).far (by simp only; omega) _
        · exact only_drewN (only_setCell (only_of_below hB4) (.inr (by simp only; omega)) _) _
      · have t0 : ((r.length : Int) == 0) = false := by rw [beq_eq_false_iff_ne]; omega
        have hr0 : 0 < r.length := by omega
        clear h0
        go_wp2_with fail
        refine calls_gen (fun wx => Blk wx q 9 #[S r] ∧ Below w.heap.size w wx) ⟨by have := Blk.set_ hLq4 0 (S r); simpa using this, hB4.setCell (by simp only; omega) _⟩ ?_
        clear cq fq hLq4
        rintro w5 ⟨hLq5, hB5⟩
        refine (Hval.out ht0 Hlv.out r Hr.out hr0 w5 q (hW.trans (hB5.mono hW.size)) (by have := hW.size; omega) hLq5).mono ?_
        have hLp5 : Blk w5 p 9 #[S t] := hL.below hB5 hpl
        rintro e w6 (⟨hE, ⟨v, a, rfl, ha⟩, ⟨t', ht'⟩, ho⟩ | ⟨v, rest, hQ, rfl, hb, ho⟩)
        · have HE2 := Lib.hid hE
          clear hE
          go_wp2_with fail
          refine bodyPost_ret (v := .tuple #[.nilIface, .iface 207 (.pointer (some a))]) (by simp [results, Tryz.results81, go_sem]) rfl ?_
          exact .inl ⟨HE2.out, ⟨_, rfl, ha⟩, ⟨t, Blk.grown hLp5 ho (fun e => by injection e with e; omega)⟩, only_new (only_of_below hB5) ho hqw⟩
        · have HQ := Lib.hid hQ
          clear hQ
          have hLp6 : Blk w6 p 9 #[S t] := Blk.grown hLp5 ho (fun e => by injection e with e; omega)
          have cp6 : w6.cell? ⟨p, 0, none⟩ = some (S t) := hLp6.cell 0
          have fp6 := hLp6.frozen 0
          have cq6 : w6.cell? ⟨q, 0, none⟩ = some (S rest) := hb.cell 0
          go_wp2_with fail
          refine bodyPost_ret (v := .tuple #[v, .nilIface]) (by simp [results, Tryz.results81, go_sem]) rfl ?_
          exact .inr ⟨v, rest, HQ.out, rfl, by have := Blk.set_ hLp6 0 (S rest); simpa using this, only_set (only_new (only_of_below hB5) ho hqw) _ _⟩
    · go_wp2_with fail
      refine bodyPost_ret (v := .tuple #[.nilIface, .iface 207 (.pointer (some q))]) (by simp [results, Tryz.results81, go_sem]) rfl ?_
      exact .inl ⟨HE.out.2.1 h100, ⟨_, rfl, hq⟩, ⟨t, Blk.alloc hL _⟩, only_alloc (only_refl _ _) _⟩
end Go.Proofs.YtcpijmbdibgdmaaGreatDoor
