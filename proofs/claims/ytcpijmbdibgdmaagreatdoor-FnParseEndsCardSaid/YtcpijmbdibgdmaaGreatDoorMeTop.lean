/-
  laws.FnParseEnds answers true for every text: a text that ends within a literal string or an array is not parsed, and "12 " is.
  Conditions: those of the given row alone (the package-level variables that the card lists hold what the program's text lays).
-/
import Derived.Test.YtcpijmbdibgdmaaGreatDoorCards
import Derived.Test.YtcpijmbdibgdmaaGreatDoorTie
import Derived.Test.YtcpijmbdibgdmaaGreatDoorMe18
import Derived.Test.YtcpijmbdibgdmaaGreatDoorMe20
import Derived.ProofKit
import Derived.Lay
import Derived.LaidOnce
import Derived.SevenTiedAt
import Derived.WalkSmall
set_option linter.all false
namespace Go.Proofs.YtcpijmbdibgdmaaGreatDoor
open Go.ChangeShapes Go.WideShapes Go.ChangeAt Go.RowKit
open Go.ChangeMaps (open_string shut_string)

theorem own_knob : ownKnob Tryz.prog.godebug = none := by kernel_rfl
/-- Variables of an interface type read the same in a later world. -/
theorem iface_vars {H : Type} {enc : TypeId × Value → H} {W W' : World} {sp sp' : Nat → Bool} (hB : Below W.heap.size W W') : ∀ {ns : List String} {gs : List (DataW H)} {q : List MemPlace},
    (∀ n ∈ ns, ∃ g, Tryz.prog.globalNamed n = some g ∧ (Tryz.prog.globals[g]?).map (·.type) = some 71) → DataW.TrodVars enc Tryz.prog W sp ns gs q → DataW.TrodVars enc Tryz.prog W' sp' ns gs q
  | [], [], q, _, h => h
  | [], _ :: _, q, _, h => h.elim
  | _ :: _, [], q, _, h => h.elim
  | n :: ns, d :: ds, ps, hn, h => by
    obtain ⟨g, t, cs, fuel, p, q, hg, ht, hv, hd, hr, e⟩ := h
    obtain ⟨g', hg', ht'⟩ := hn n (by simp)
    obtain rfl := Option.some.inj (hg'.symm.trans hg)
    obtain rfl := Option.some.inj (ht'.symm.trans ht)
    obtain ⟨v, hcs, hi, hy⟩ := held_of_trod_list Tryz.underlying71 hd
    have hlt : g' < W.heap.size := by
      have h0 := World.var?_cell hg hv 0
      rw [← Array.getElem?_toList, hcs] at h0
      exact cell_lt h0
    refine ⟨g', 71, cs, 1, p, q, hg, ht, var?_below hB hg hlt hv, ?_, iface_vars hB (fun n hm => hn n (by simp [hm])) hr, e⟩
    rw [hcs, hy]
    exact trod_held Tryz.underlying71 hi 0
theorem vars_len {H : Type} {enc : TypeId × Value → H} {P : Program} {W : World} {sp : Nat → Bool} : ∀ {ns : List String} {gs : List (DataW H)} {q : List MemPlace}, DataW.TrodVars enc P W sp ns gs q → gs.length = ns.length
  | [], [], _, _ => rfl
  | [], _ :: _, _, h => h.elim
  | _ :: _, [], _, h => h.elim
  | _ :: ns, _ :: gs, _, h => by
    obtain ⟨g, t, cs, fuel, p, q, _, _, _, _, hr, _⟩ := h
    simp [vars_len hr]
def evN : List String := Rows.fnParseEndsSpec.vars
theorem evN_ok : ∀ n ∈ evN, ∃ g, Tryz.prog.globalNamed n = some g ∧ (Tryz.prog.globals[g]?).map (·.type) = some 71 := by
  have h : (evN.all fun n => match Tryz.prog.globalNamed n with | some g => (Tryz.prog.globals[g]?).map (·.type) == some 71 | none => false) = true := by kernel_rfl
  intro n hn
  have := List.all_eq_true.1 h n hn
  revert this
  cases Tryz.prog.globalNamed n with
  | none => intro h; cases h
  | some g => intro h; exact ⟨g, rfl, by simpa using h⟩

set_option maxRecDepth 100000 in
theorem contractE (H : Type) (enc : TypeId × Value → H) (W : World) (base : Nat) (args : Array Value) (ds gs : List (DataW H)) (before : List MemPlace)
    (hval : ∀ (j : Nat) t v, Tryz.f3.params[j]? = some t → args[j]? = some v → Value.okWide Tryz.prog W .any base t v)
    (hW : DataW.Whole enc Tryz.prog Tryz.f3.params.toList Rows.fnParseEndsSpec.vars false W args.toList ds gs before) (hL : laidMetH Tryz.prog Rows.fnParseEndsRow.laid W) :
    Calls Tryz.prog 3 args W fun e W' => ∃ v, e = .returned v ∧ Rows.fnParseEndsSpec.post enc Tryz.prog Tryz.f3 false true false false W args v W' := by
  have hW' := hW
  obtain ⟨p, q, hA0, hV, rfl, _, _⟩ := hW
  have hA : DataW.TrodAll enc Tryz.prog W 0 (fun _ => true) true Tryz.f3.params.toList args.toList ds p := hA0
  rw [Tryz.params3] at hA hval
  obtain ⟨v0, d0, hargs, rfl, h0⟩ := trodAll_one hA
  obtain rfl : args = #[v0] := by cases args; simp_all
  obtain ⟨s, rfl, rfl, rfl, hs⟩ := open_string U.t9 (hval 0 9 v0 rfl rfl) h0
  obtain ⟨⟨l⟩⟩ := s
  have hlen : gs.length = 12 := vars_len hV
  match gs, hlen, hV, hW' with
  | [g1, g2, g3, g4, g5, g6, g7, g8, g9, g10, g11, g12], _, hV, hW' =>
    refine (law_ends (pg_of hL) l W (Below.refl _ _)).mono fun e W' ⟨he, hb⟩ => ?_
    subst he
    exact ⟨_, rfl, _, _, _, [], [], q, hW', trodAll_mk1 (shut_bool U.t4 _), trodAll_mk1 (shut_string U.t9 hs), iface_vars hb evN_ok hV, hb.frame _, fun h => by cases h⟩

set_option maxRecDepth 100000 in
theorem liftedE (os : Os) (started : os.Started) (H : Type) (enc : TypeId × Value → H) :
    ReturnsInHanded {} Tryz.checked os 3 .any (fun w args => (Rows.fnParseEndsSpec.pre enc Tryz.prog Tryz.f3 [] false w args ∧ laidMetH Tryz.prog Rows.fnParseEndsRow.laid w) ∧ sizedMet enc Tryz.prog Tryz.f3 (OpenSpec.ofChange Rows.fnParseEndsSpec) false w args)
      (Rows.fnParseEndsSpec.post enc Tryz.prog Tryz.f3 false true false false) := by
  refine returnsInHanded_of_change_and (C := Tryz.checked) (X := fun w _ => laidMetH Tryz.prog Rows.fnParseEndsRow.laid w) (fun _ _ _ hh h => h.of_heap hh) own_knob started (by kernel_rfl) Tryz.func3
    (ChangeSpec.witness_shaped (enc := enc) (C := Tryz.checked) (os := os) (X := fun w _ => laidMetH Tryz.prog Rows.fnParseEndsRow.laid w) false (World.laidAll Tryz.prog os Rows.fnParseEndsRow.laid) #[.string ⟨#[]⟩] 8 (World.laidAll_os _ _ _)
      (World.shaped_of_ZipB (by kernel_rfl) (by kernel_rfl)) (by kernel_rfl) (by kernel_rfl) (by kernel_rfl)
      (by rw [MakeChecks.laidMetH_plain _ _ _ laidE_plain]; exact laidMet_laidAll _ (by kernel_rfl) (by kernel_rfl))) ?_
  intro W base args ds gs before hval0 hW _ _ hL _
  exact contractE H enc W base args ds gs before hval0 hW hL

theorem namedE : Tryz.prog.funcNamed "given.example/pub-foolscap/laws.FnParseEnds" = some 3 := by kernel_rfl
theorem instE : Tryz.f3.isInstance Tryz.prog Rows.fnParseEndsRow.origin Rows.fnParseEndsRow.targs := of_decide_eq_true (by kernel_rfl)
theorem wrapE : Tryz.f3.isWrapper Tryz.prog Rows.fnParseEndsRow.wrapper Rows.fnParseEndsRow.mainSum := by unfold Func.isWrapper; first | (rw [if_pos (by decide +kernel)]; kernel_rfl) | (rw [if_neg (by decide +kernel)]; exact ⟨rfl, rfl⟩)
theorem saidE : Rows.FnParseEndsSaid :=
  OpenClaim.holds_of_wide 3 Tryz.f3 rfl rfl rfl rfl rfl rfl rfl ⟨rfl, rfl, rfl, rfl, rfl⟩ rfl rfl rfl rfl rfl namedE Tryz.func3 factsE instE wrapE
    (fun os started H enc _ => liftedE os started H enc)
theorem plainE (f : FuncId) (fn : Func) (hf : Tryz.pinned.checked.prog.funcNamed "given.example/pub-foolscap/laws.FnParseEnds" = some f) (hfn : Tryz.pinned.checked.prog.funcs[f]? = some fn) :
    true = Tryz.pinned.checked.prog.looks [] ∧ ∀ (j : Nat) t, fn.params[j]? = some t → Tryz.pinned.checked.prog.wantsStandIn t = false := by
  obtain rfl : f = 3 := Option.some.inj ((show Tryz.prog.funcNamed "given.example/pub-foolscap/laws.FnParseEnds" = some 3 by kernel_rfl).symm.trans hf) |>.symm
  obtain rfl : fn = Tryz.f3 := (Option.some.inj (Tryz.func3.symm.trans hfn)).symm
  exact ⟨by kernel_rfl, fun j t ht => by
    rw [Tryz.params3] at ht
    have hm : t ∈ [9] := by simpa using Array.mem_of_getElem? ht
    have hall : ([9].all fun u => !Tryz.prog.wantsStandIn u) = true := by kernel_rfl
    exact (show Tryz.prog.wantsStandIn t = false by simpa using List.all_eq_true.1 hall t hm)⟩
theorem fnParseEnds_holds : Rows.FnParseEndsCardSaid :=
  Claim7.holds_tied_plain_at .later [] _ _ _ _ saidE (fun _ h => by cases h) (by kernel_rfl) (fun _ h => by cases h) fnParseEnds_row_tie rfl ⟨rfl, rfl⟩ (by kernel_rfl) rfl plainE (by kernel_rfl)
#print axioms fnParseEnds_holds
end Go.Proofs.YtcpijmbdibgdmaaGreatDoor
