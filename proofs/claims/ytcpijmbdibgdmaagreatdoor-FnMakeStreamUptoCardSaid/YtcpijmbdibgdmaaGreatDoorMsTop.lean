/-
  laws.FnMakeStream answers true for all arguments of bulk at most 1048576: what MakeStream writes, the stream's own readers read back.
  Conditions: those of the given row alone (the bound, and the package-level variables that the card lists hold what the program's text lays).
-/
import Derived.Test.YtcpijmbdibgdmaaGreatDoorCards
import Derived.Test.YtcpijmbdibgdmaaGreatDoorTie
import Derived.Test.YtcpijmbdibgdmaaGreatDoorMs32
import Derived.OpenShut
import Derived.Carry
import Derived.ReadAgain
import Derived.Lay
import Derived.LaidOnce
import Derived.SevenTiedAt
import Derived.WalkSmall
import Derived.Deep.DeepHandedRow
import Derived.JoinedCond
set_option linter.all false
set_option maxHeartbeats 16000000
set_option maxRecDepth 100000
namespace Go.Proofs.YtcpijmbdibgdmaaGreatDoor
open Go.ChangeShapes Go.WideShapes Go.ChangeAt Go.RowKit
theorem ownM : ownKnob Tryz.prog.godebug = none := by kernel_rfl
theorem laidOutM : laidOutB Tryz.prog = true := by kernel_rfl
theorem contractM (H : Type) (enc : TypeId × Value → H) (W : World) (base : Nat) (args : Array Value) (ds gs : List (DataW H)) (before : List MemPlace)
 (hval : ∀ (j : Nat) t v,Tryz.f4.params[j]? = some t → args[j]? = some v → Value.okWide Tryz.prog W .any base t v)
 (hW : DataW.Whole enc Tryz.prog Tryz.f4.params.toList Rows.fnMakeStreamSpec.vars false W args.toList ds gs before) (hL : laidMetH Tryz.prog Rows.fnMakeStreamUptoRow.laid W) (hsh : W.ShapedOpen Tryz.prog)
 (hk : Rows.uptoSmall H (ds ++ gs) = true) :
 Calls Tryz.prog 4 args W fun e W' => ∃ v,e = .returned v ∧ Rows.fnMakeStreamSpec.post enc Tryz.prog Tryz.f4 false true false false W args v W' := by
 have hW' := hW;obtain ⟨p,q,hA0,hV,rfl,hfz,hnd⟩ := hW;have hA : DataW.TrodAll enc Tryz.prog W 0 (fun _ => true) true Tryz.f4.params.toList args.toList ds p := hA0;rw [Tryz.params4] at hA hval;obtain ⟨v1,v2,d1,d2,p1,p2,rfl,rfl,rfl,h1,h2⟩ := trodAll_two hA;obtain ⟨rfl,rfl⟩ := trodVars_none hV;obtain ⟨a1,n1,m1,e1⟩ := okWide_slice V.t31 (hval 0 31 v1 rfl rfl);obtain ⟨a2,n2,m2,e2⟩ := okWide_slice V.t26 (hval 1 26 v2 rfl rfl);have hlt1 : ∀ x ∈ p1,x.block < W.heap.size := fun x hx => by simpa using hW'.lt x (by simp [hx])
 have hlt2 : ∀ x ∈ p2,x.block < W.heap.size := fun x hx => by simpa using hW'.lt x (by simp [hx])
 obtain ⟨A,A2,c,c2,ns,os,xs,g1,g2,hAc,hSl,hKd,hIn,hBk,hNs⟩ := args_in h1 h2 hk (by rw [e1];rfl) (by rw [e2];rfl);obtain ⟨hF,hE,hP⟩ := mk_of hL hsh;have walk := law4_any hF hE hP ns os xs A A2 c c2 hAc hSl hKd hIn hBk hNs;rw [← g1,← g2] at walk;refine walk.mono fun e W' ⟨he,hbelow⟩ => ?_
 subst he;refine ⟨_,rfl,_,_,_,[] ++ [],p1 ++ p2,[],hW',?_,?_,rfl,hbelow.frame _,fun h => by cases h⟩
 · exact trodAll_mk1 (shut_bool Tryz.underlying4 _)
 · exact trodAll_mk2 (Below.trod laidOutM (by kernel_rfl) (of_decide_eq_true (by kernel_rfl)) h1 hbelow hlt1) (Below.trod laidOutM (by kernel_rfl) (of_decide_eq_true (by kernel_rfl)) h2 hbelow hlt2)
theorem witness_row_shaped {H : Type} {enc : TypeId × Value → H} {C : Checked} {os : Os} {f : FuncId} {fn : Func} {s : OpenSpec} {conds : List PathCond} {apart : Bool} {laid : List (String × DataW Unit)} (modest : Bool) (w0 : World) (args : Array Value) (hos : w0.os = os)
 (hsh : (w0.forCall (fun _ _ => 0) ⟨#[],args,[]⟩).Shaped C.prog)
 (hok : Input.okWideB C.prog (w0.forCall (fun _ _ => 0) ⟨#[],args,[]⟩) f ⟨#[],args,[]⟩ = true)
 (hrow : s.preRow enc C.prog fn conds apart laid (w0.forCall (fun _ _ => 0) ⟨#[],args,[]⟩).memory args) :
 ∃ (w : World) (tape : Tape) (i : Input),w.os = os ∧ (w.forCall tape i).Shaped C.prog ∧ i.vars = [] ∧ Input.okWide C.prog (w.forCall tape i) .any w.heap.size f i ∧
   s.preRow enc C.prog fn conds apart laid (w.forCall tape i).memory i.args ∧ ({ modest := modest } : Assume).holds C.prog (lone (Frame.enter C.prog f i.args .normal) [] (w.forCall tape i)) :=
 ⟨w0,fun _ _ => 0,⟨#[],args,[]⟩,hos,hsh,(Input.okWide_of_okWideB (base := 0) hok).1,(Input.okWide_of_okWideB hok).2,hrow,by
  simp only [Assume.holds]
  exact ⟨by simp,by simp,fun _ => Modest.zero,by simp,by simp⟩⟩
theorem readsM (os : Os) {H : Type} (enc : TypeId × Value → H) : ∃ places,DataW.whole enc Tryz.prog ((World.laidAll Tryz.prog os Rows.fnMakeStreamUptoRow.laid).forCall (fun _ _ => 0) ⟨#[],#[.slice none 0 0,.slice none 0 0],[]⟩).memory Tryz.f4.params.toList Rows.fnMakeStreamSpec.vars false #[Value.slice none 0 0,Value.slice none 0 0].toList 8 = some ([.nil,.nil],[],places) :=
 ⟨[],by kernel_rfl⟩
theorem liftedM (os : Os) (started : os.Started) (H : Type) (enc : TypeId × Value → H) (F : Stop.Interp) :
 ReturnsInHanded {} Tryz.checked os 4 .any ((Rows.OpenSpec.upto Rows.fnMakeStreamSpec).preRow enc Tryz.prog Tryz.f4 Rows.fnMakeStreamUptoRow.domain false Rows.fnMakeStreamUptoRow.laid) (((Rows.OpenSpec.upto Rows.fnMakeStreamSpec).at F).post enc Tryz.prog Tryz.f4 false true false false) := by
 obtain ⟨places,hx⟩ := readsM os enc
 refine returnsInHanded_of_row (C := Tryz.checked) (s := Rows.OpenSpec.upto Rows.fnMakeStreamSpec) ownM started (by kernel_rfl) Tryz.func4
  (witness_row_shaped false (World.laidAll Tryz.prog os Rows.fnMakeStreamUptoRow.laid) #[.slice none 0 0,.slice none 0 0] (World.laidAll_os _ _ _) (World.shaped_of_ZipB (by kernel_rfl) (by kernel_rfl)) (by kernel_rfl)
   (OpenSpec.preRow_of_cond 8 hx (by kernel_rfl) (fun k hk => by cases hk;kernel_rfl) (by kernel_rfl) (by rw [MakeChecks.laidMetH_plain _ _ _ laidE_plain];exact laidMet_laidAll _ (by kernel_rfl) (by kernel_rfl)))) ?_
 intro W base args ds gs before hval hW _ hcond _ hL hsh _;exact contractM H enc W base args ds gs before hval hW hL hsh (hcond _ rfl)
theorem namedM : Tryz.prog.funcNamed "given.example/pub-foolscap/laws.FnMakeStream" = some 4 := by kernel_rfl
theorem instM : Tryz.f4.isInstance Tryz.prog Rows.fnMakeStreamUptoRow.origin Rows.fnMakeStreamUptoRow.targs := of_decide_eq_true (by kernel_rfl)
theorem wrapM : Tryz.f4.isWrapper Tryz.prog Rows.fnMakeStreamUptoRow.wrapper Rows.fnMakeStreamUptoRow.mainSum := by unfold Func.isWrapper;first | (rw [if_pos (by decide +kernel)];kernel_rfl) | (rw [if_neg (by decide +kernel)];exact ⟨rfl,rfl⟩)
theorem saidM : Rows.FnMakeStreamUptoSaid :=
 OpenClaim.holds_of_cond 4 Tryz.f4 rfl rfl rfl rfl rfl rfl rfl ⟨rfl,rfl,rfl,rfl,rfl⟩ rfl rfl rfl rfl rfl namedM Tryz.func4 factsM instM wrapM
  (fun os started H enc _ F => by rw [OpenClaim.pre_eq_preRow];exact liftedM os started H enc F)
theorem plainM (f : FuncId) (fn : Func) (hf : Tryz.pinned.checked.prog.funcNamed "given.example/pub-foolscap/laws.FnMakeStream" = some f) (hfn : Tryz.pinned.checked.prog.funcs[f]? = some fn) :
 true = Tryz.pinned.checked.prog.looks [] ∧ ∀ (j : Nat) t,fn.params[j]? = some t → Tryz.pinned.checked.prog.wantsStandIn t = false := by
 obtain rfl : f = 4 := Option.some.inj ((show Tryz.prog.funcNamed "given.example/pub-foolscap/laws.FnMakeStream" = some 4 by kernel_rfl).symm.trans hf) |>.symm;obtain rfl : fn = Tryz.f4 := (Option.some.inj (Tryz.func4.symm.trans hfn)).symm
 exact ⟨by kernel_rfl,fun j t ht => by
  rw [Tryz.params4] at ht
  have hm : t ∈ [31,26] := by simpa using Array.mem_of_getElem? ht
  have hall : ([31,26].all fun u => !Tryz.prog.wantsStandIn u) = true := by kernel_rfl
  exact (show Tryz.prog.wantsStandIn t = false by simpa using List.all_eq_true.1 hall t hm)⟩
theorem fnMakeStream_holds : Rows.FnMakeStreamUptoCardSaid :=
 Claim7.holds_tied_plain_at .later [] _ _ _ _ saidM (fun _ h => by cases h) (by kernel_rfl) (fun _ h => by cases h) fnMakeStreamUpto_row_tie rfl ⟨rfl,rfl⟩ (by kernel_rfl) rfl plainM (by kernel_rfl)
end Go.Proofs.YtcpijmbdibgdmaaGreatDoor
