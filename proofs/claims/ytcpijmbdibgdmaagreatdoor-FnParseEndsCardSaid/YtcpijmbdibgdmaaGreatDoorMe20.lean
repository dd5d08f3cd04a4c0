/-
  package model: ParseObjectContext and ParseObject.
  impl: calm, read, Parse.
  impl: read, tell, Parse.
  impl.Parse; laws.parses; laws.FnParseEnds.
  Closed facts of FnParseEnds' row.
-/
import Derived.Test.YtcpijmbdibgdmaaGreatDoorMe19
import Derived.Recover
import Derived.RegionTactic
import Derived.ChangeAlike
import Derived.Test.YtcpijmbdibgdmaaGreatDoorRows
import Derived.JoinedOf
import Derived.KernelRfl
set_option linter.all false
namespace Go.Proofs.YtcpijmbdibgdmaaGreatDoor
open Go.RowKit
attribute [local go_sem] ba_get store_flt

set_option maxHeartbeats 1000000 in
set_option maxRecDepth 100000 in
theorem limits_any (w : World) : Calls Tryz.prog 95 #[] w fun e w' => e = .returned (.agg #[.int .i64 536870912, .int .i64 536870912, .int .i64 104857600, .int .i64 536870912, .int .i64 10000000, .int .i64 1000000, .int .i64 16777216, .int .i64 10000000, .int .i64 100]) ∧ Below w.heap.size w w' := by
  go_enter Tryz.func95, Tryz.ntmps95
  go_wp2
  refine bodyPost_ret (v := .agg #[.int .i64 536870912, .int .i64 536870912, .int .i64 104857600, .int .i64 536870912, .int .i64 10000000, .int .i64 1000000, .int .i64 16777216, .int .i64 10000000, .int .i64 100]) (by simp [results, Tryz.results95, go_sem]) rfl ?_
  exact ⟨rfl, (Below.refl _ w).alloc (Nat.le_refl _) _⟩
set_option maxHeartbeats 1000000 in
set_option maxRecDepth 100000 in
theorem limit_any (w : World) : Calls Tryz.prog 80 #[.slice none 0 0] w fun e w' => e = .returned (.int .i64 100) ∧ Below w.heap.size w w' := by
  have hf : ∀ w, (Instr.field 147 (.agg #[.int .i64 536870912, .int .i64 536870912, .int .i64 104857600, .int .i64 536870912, .int .i64 10000000, .int .i64 1000000, .int .i64 16777216, .int .i64 10000000, .int .i64 100]) 8).run Tryz.prog w = .ok (.int .i64 100) w := fun w => by kernel_rfl
  go_enter Tryz.func80, Tryz.ntmps80
  go_wp2_with fail
  refine (limits_any w).mono ?_
  rintro e w1 ⟨rfl, hB⟩
  go_wp2_with fail
  go_ret
  exact ⟨rfl, hB⟩
theorem err83 (w : World) : Calls Tryz.prog 83 #[.agg #[]] w fun e w' => e = .returned .nilIface ∧ Below w.heap.size w w' := by
  go_enter Tryz.func83, Tryz.ntmps83
  go_wp2
  go_ret
  exact ⟨rfl, (Below.refl _ w).alloc (Nat.le_refl _) _⟩

theorem pargs0 (p : Nat) (rx : Bool) : pargs p 0 rx = #[.agg #[], .pointer (some ⟨p, 0, none⟩), .int .i64 0, .int .i64 100, .bool rx] := rfl
set_option maxHeartbeats 4000000 in
set_option maxRecDepth 100000 in
theorem poc_err (s : List UInt8) (p : Nat) (W0 w : World) (hG : Glob W0) (hW : Below W0.heap.size W0 w) (hp : W0.heap.size ≤ p) (hL : Blk w p 9 #[S s])
    (h81 : ∀ rx w, Below W0.heap.size W0 w → Blk w p 9 #[S s] → Calls Tryz.prog 81 (pargs p 0 rx) w (ErrN W0 w p)) :
    Calls Tryz.prog 52 #[.agg #[], .pointer (some ⟨p, 0, none⟩), .int .i64 0, .slice none 0 0] w (ErrN W0 w p) := by
  have c0 : w.cell? ⟨p, 0, none⟩ = some (S s) := hL.cell 0
  have hpl := hL.lt
  have hW1 : Below W0.heap.size W0 (w.alloc (.cells #[] 96)) := hW.alloc hW.size _
  obtain ⟨h00, a0, cc0, e0⟩ := hG.later hW1 0 (by simp)
  simp only [pargs0] at h81
  have H81 := Lib.hid h81
  clear h81
  go_enter Tryz.func52, Tryz.ntmps52
  go_wp2_with fail
  refine (noBuf_any p s _ (Blk.alloc hL _)).mono ?_
  rintro e w1 ⟨rfl, rfl⟩
  by_cases ht : s.length = 0
  · have tl : (s.length == 0) = true := by rw [beq_iff_eq]; exact ht
    rw [tl]
    clear ht
    go_wp2_with fail
    go_quiet (fail)
    go_wp2_with fail
    refine bodyPost_ret (v := .tuple #[.nilIface, .iface 207 (.pointer (some a0))]) (by simp [results, Tryz.results52, go_sem]) rfl ?_
    exact ⟨⟨_, rfl, e0⟩, ⟨s, Blk.drewN (Blk.alloc hL _) _⟩, only_drewN (only_alloc (only_refl _ _) _) _⟩
  · have tl : (s.length == 0) = false := by rw [beq_eq_false_iff_ne]; exact ht
    rw [tl]
    clear ht
    go_wp2_with fail
    refine (limit_any _).mono ?_
    rintro e w2 ⟨rfl, hB2⟩
    have hW2 := hW1.trans (hB2.mono hW1.size)
    have hL2 : Blk w2 p 9 #[S s] := (Blk.alloc hL _).below hB2 (Blk.alloc hL _).lt
    have hO2 : Only w w2 p := only_trans (only_alloc (only_refl w p) _) (only_of_below hB2)
    have c2 : w2.cell? ⟨p, 0, none⟩ = some (S s) := hL2.cell 0
    clear hB2 cc0
    go_wp2_with fail
    refine (H81.out false w2 hW2 hL2).mono ?_
    rintro e w3 ⟨⟨q, rfl, hq⟩, ⟨t', ht'⟩, ho⟩
    have hW3 : Below W0.heap.size W0 w3 := hW2.grown ho hW2.size (fun k e => by injection e with e; omega)
    obtain ⟨h01, a1, cc1, e1⟩ := hG.later hW3 1 (by simp)
    have fp3 := ht'.frozen 0
    have cp3 : w3.cell? ⟨p, 0, none⟩ = some (S t') := ht'.cell 0
    go_wp2_with fail
    refine (errIs_any q a1 W0 w3 hW3 hq e1).mono ?_
    rintro e w4 ⟨⟨b, rfl⟩, rfl⟩
    cases b with
    | true =>
      go_wp2_with fail
      refine bodyPost_ret (v := .tuple #[.nilIface, .iface 207 (.pointer (some q))]) (by simp [results, Tryz.results52, go_sem]) rfl ?_
      exact ⟨⟨_, rfl, hq⟩, ⟨t', ht'⟩, only_trans hO2 ho⟩
    | false =>
      go_wp2_with fail
      refine (err83 _).mono ?_
      rintro e w5 ⟨rfl, hB5⟩
      have hW5 := hW3.trans (hB5.mono hW3.size)
      have hL5 : Blk w5 p 9 #[S t'] := ht'.below hB5 ht'.lt
      have hO5 : Only w w5 p := only_trans (only_trans hO2 ho) (only_of_below hB5)
      have fp5 := hL5.frozen 0
      have cp5 : w5.cell? ⟨p, 0, none⟩ = some (S t') := hL5.cell 0
      clear cp3 fp3 hB5 cc1
      go_wp2_with fail
      have hL6 : Blk (w5.setCell ⟨p, 0, none⟩ (S s)) p 9 #[S s] := by have := Blk.set_ hL5 0 (S s); simpa using this
      refine (H81.out true _ (hW5.setCell (by simp only; omega) _) hL6).mono ?_
      rintro e w7 ⟨⟨q2, rfl, hq2⟩, ⟨t2, ht2⟩, ho2⟩
      go_wp2_with fail
      refine bodyPost_ret (v := .tuple #[.nilIface, .iface 207 (.pointer (some q2))]) (by simp [results, Tryz.results52, go_sem]) rfl ?_
      exact ⟨⟨_, rfl, hq2⟩, ⟨t2, ht2⟩, only_trans (only_set hO5 _ _) ho2⟩

set_option maxHeartbeats 4000000 in
set_option maxRecDepth 100000 in
theorem poc_ok (s : List UInt8) (p : Nat) (W0 w : World) (Q : Value → List UInt8 → Prop) (hG : Glob W0) (hW : Below W0.heap.size W0 w) (hp : W0.heap.size ≤ p) (hs : 0 < s.length) (hL : Blk w p 9 #[S s])
    (h81 : ∀ w, Below W0.heap.size W0 w → Blk w p 9 #[S s] → Calls Tryz.prog 81 (pargs p 0 false) w fun e w' => ∃ v rest, Q v rest ∧ OkP w p rest v e w') :
    Calls Tryz.prog 52 #[.agg #[], .pointer (some ⟨p, 0, none⟩), .int .i64 0, .slice none 0 0] w fun e w' => ∃ v rest, Q v rest ∧ OkP w p rest v e w' := by
  have c0 : w.cell? ⟨p, 0, none⟩ = some (S s) := hL.cell 0
  have hpl := hL.lt
  have hW1 : Below W0.heap.size W0 (w.alloc (.cells #[] 96)) := hW.alloc hW.size _
  simp only [pargs0] at h81
  have H81 := Lib.hid h81
  clear h81
  have tl : (s.length == 0) = false := by rw [beq_eq_false_iff_ne]; omega
  go_enter Tryz.func52, Tryz.ntmps52
  go_wp2_with fail
  refine (noBuf_any p s _ (Blk.alloc hL _)).mono ?_
  rintro e w1 ⟨rfl, rfl⟩
  rw [tl]
  go_wp2_with fail
  refine (limit_any _).mono ?_
  rintro e w2 ⟨rfl, hB2⟩
  have hW2 := hW1.trans (hB2.mono hW1.size)
  have hL2 : Blk w2 p 9 #[S s] := (Blk.alloc hL _).below hB2 (Blk.alloc hL _).lt
  have hO2 : Only w w2 p := only_trans (only_alloc (only_refl w p) _) (only_of_below hB2)
  have c2 : w2.cell? ⟨p, 0, none⟩ = some (S s) := hL2.cell 0
  clear hB2
  go_wp2_with fail
  refine (H81.out w2 hW2 hL2).mono ?_
  rintro e w3 ⟨v, rest, hQ, rfl, hb, ho⟩
  have HQ := Lib.hid hQ
  clear hQ
  go_wp2_with fail
  refine bodyPost_ret (v := .tuple #[v, .nilIface]) (by simp [results, Tryz.results52, go_sem]) rfl ?_
  exact ⟨v, rest, HQ.out, rfl, hb, only_trans hO2 ho⟩

set_option maxHeartbeats 4000000 in
set_option maxRecDepth 100000 in
theorem po_any (p : Nat) (w : World) (Post : Ending → World → Prop) (hres : ∀ e w', Post e w' → ∃ v x, e = .returned (.tuple #[v, x]))
    (h52 : Calls Tryz.prog 52 #[.agg #[], .pointer (some ⟨p, 0, none⟩), .int .i64 0, .slice none 0 0] w Post) :
    Calls Tryz.prog 22 #[.pointer (some ⟨p, 0, none⟩)] w Post := by
  have H := Lib.hid hres
  have H52 := Lib.hid h52
  clear hres h52
  go_enter Tryz.func22, Tryz.ntmps22
  go_wp2_with fail
  refine H52.out.mono ?_
  intro e w1 hP
  obtain ⟨v, x, rfl⟩ := H.out e w1 hP
  have HP := Lib.hid hP
  clear hP
  go_wp2_with fail
  simpa using HP.out
end Go.Proofs.YtcpijmbdibgdmaaGreatDoor

namespace Go.Proofs.YtcpijmbdibgdmaaGreatDoor
open Go.RowKit
attribute [local go_sem] ba_get store_flt

set_option maxHeartbeats 1000000 in
theorem calm1_idle (p : Addr) (w : World) : CallsD Tryz.prog 63 #[.pointer (some p)] .returning w fun e u' w' => e = .returned (.tuple #[]) ∧ u' = .returning ∧ w' = w := by
  refine callsD_of_wpS Tryz.func63 rfl fun c₀ cs hu => ?_
  apply wpS_seq
  apply wpS_region
  simp [wpOpsS, go_sem, recoverD, hu, Tryz.ntmps63, Exit.thenS]
  refine wpS_cond (t := false) (by simp [Act.eval, Array.replicate]) ?_
  simp only [Bool.false_eq_true, if_false]
  refine wpS_of_wp (wp_skip ?_)
  cases c₀
  simp_all [bodyPostS, results, Tryz.results63]

set_option maxHeartbeats 2000000 in
set_option maxRecDepth 100000 in
theorem calm_ok (cap : Array Value) (w : World) (Post : World → Prop) (hc : Calls Tryz.prog 50 cap (w.alloc (.cells #[.bool false] 4)) fun e w' => e = .returned (.tuple #[]) ∧ Blk w' w.heap.size 4 #[.bool false] ∧ Post w') :
    Calls Tryz.prog 28 #[.func (.func 50) #[] cap] w fun e w' => e = .returned (.bool true) ∧ ∃ w1, Post w1 ∧ w' = w1.setCell ⟨w.heap.size, 0, none⟩ (.bool true) := by
  have hmf : ∀ (fn : Fn) (first cap : Array Value) (w : World), (Instr.makeFunc fn first cap).run Tryz.prog w = .ok (.func fn first cap) w := fun _ _ _ _ => rfl
  have HC := Lib.hid hc
  clear hc
  go_enter_defers Tryz.func28, Tryz.ntmps28
  go_wp2_with fail
  refine HC.out.mono ?_
  rintro e w1 ⟨rfl, hb, hP⟩
  have HP := Lib.hid hP
  clear hP
  have cb : w1.cell? ⟨w.heap.size, 0, none⟩ = some (.bool false) := hb.cell 0
  have fb := hb.frozen 0
  have hb2 : Blk (w1.setCell ⟨w.heap.size, 0, none⟩ (.bool true)) w.heap.size 4 #[.bool true] := by have := Blk.set_ hb 0 (.bool true); simpa using this
  have cb2 : (w1.setCell ⟨w.heap.size, 0, none⟩ (.bool true)).cell? ⟨w.heap.size, 0, none⟩ = some (.bool true) := hb2.cell 0
  go_wp2_with fail
  refine leaves_cons (f := 63) (args := #[.pointer (some ⟨w.heap.size, 0, none⟩)]) (by simp) (by simp [go_sem]) ?_
  refine (calm1_idle ⟨w.heap.size, 0, none⟩ _).mono ?_
  rintro e u' w'' ⟨rfl, rfl, rfl⟩
  simp [Leaves, settle, results, Tryz.results28, go_sem, cb2]
  exact ⟨w1, HP.out, rfl⟩

set_option maxHeartbeats 2000000 in
set_option maxRecDepth 100000 in
/-- What read's closure leaves: the parser's value and error in the two boxes. -/
theorem read1_any (q3 q7 q8 q9 : Nat) (w : World) (Post : Value → Value → World → Prop) (b3 : Blk w q3 57 #[.func (.func 22) #[] #[]]) (h8 : q8 ≠ q7) (h9 : q9 ≠ q7) (h89 : q8 ≠ q9) (b8 : Blk w q8 63 #[.nilIface]) (b9 : Blk w q9 71 #[.nilIface])
    (h22 : Calls Tryz.prog 22 #[.pointer (some ⟨q7, 0, none⟩)] w fun e w' => ∃ v x, e = .returned (.tuple #[v, x]) ∧ IVal v ∧ IVal x ∧ Only w w' q7 ∧ Post v x w') :
    Calls Tryz.prog 50 #[.pointer (some ⟨q3, 0, none⟩), .pointer (some ⟨q7, 0, none⟩), .pointer (some ⟨q8, 0, none⟩), .pointer (some ⟨q9, 0, none⟩)] w fun e w' => e = .returned (.tuple #[]) ∧ ∃ v x w1, Post v x w1 ∧ IVal v ∧ IVal x ∧ Only w w1 q7 ∧ w' = (w1.setCell ⟨q8, 0, none⟩ v).setCell ⟨q9, 0, none⟩ x := by
  have c3 : w.cell? ⟨q3, 0, none⟩ = some (.func (.func 22) #[] #[]) := b3.cell 0
  have H := Lib.hid h22
  clear h22
  go_enter Tryz.func50, Tryz.ntmps50
  go_wp2_with fail
  refine H.out.mono ?_
  rintro e w1 ⟨v, x, rfl, hv, hx, hO, hP⟩
  have HP := Lib.hid hP
  clear hP
  have b8' : Blk w1 q8 63 #[.nilIface] := Blk.grown b8 hO (fun e => by injection e with e; omega)
  have b9' : Blk w1 q9 71 #[.nilIface] := Blk.grown b9 hO (fun e => by injection e with e; omega)
  have cc8 : w1.cell? ⟨q8, 0, none⟩ = some .nilIface := b8'.cell 0
  have cc9 : w1.cell? ⟨q9, 0, none⟩ = some .nilIface := b9'.cell 0
  have f8 := b8'.frozen 0
  have f9 := b9'.frozen 0
  have e89 : ¬ q8 = q9 := h89
  have e98 : ¬ q9 = q8 := fun e => h89 e.symm
  rcases hv with rfl | ⟨T1, u1, rfl⟩
  · rcases hx with rfl | ⟨T2, u2, rfl⟩
    · go_wp2_with fail
      go_end0
      exact ⟨rfl, _, _, w1, HP.out, .inl rfl, .inl rfl, hO, rfl⟩
    · go_wp2_with fail
      go_end0
      exact ⟨rfl, _, _, w1, HP.out, .inl rfl, .inr ⟨_, _, rfl⟩, hO, rfl⟩
  · rcases hx with rfl | ⟨T2, u2, rfl⟩
    · go_wp2_with fail
      go_end0
      exact ⟨rfl, _, _, w1, HP.out, .inr ⟨_, _, rfl⟩, .inl rfl, hO, rfl⟩
    · go_wp2_with fail
      go_end0
      exact ⟨rfl, _, _, w1, HP.out, .inr ⟨_, _, rfl⟩, .inr ⟨_, _, rfl⟩, hO, rfl⟩
end Go.Proofs.YtcpijmbdibgdmaaGreatDoor

namespace Go.Proofs.YtcpijmbdibgdmaaGreatDoor
open Go.RowKit
attribute [local go_sem] ba_get store_flt

def oZero : Array Value := #[.int .i64 0, .int .i64 0, .int .i64 0, .float .f64 0, S [], .slice none 0 0, .slice none 0 0]
/-- read's boxes. -/
structure RdS (w wx : World) (q3 q4 q7 q8 q9 : Nat) (t : List UInt8) (o : Array Value) (v x : Value) : Prop where
  b3 : Blk wx q3 57 #[.func (.func 22) #[] #[]]
  b4 : Blk wx q4 28 o
  b7 : Blk wx q7 9 #[S t]
  b8 : Blk wx q8 63 #[v]
  b9 : Blk wx q9 71 #[x]
  below : Below w.heap.size w wx
  h3 : w.heap.size ≤ q3
  h4 : q3 < q4
  h7 : q4 < q7
  h8 : q7 < q8
  h9 : q8 < q9

/-- The closure, and the deferred one behind it. -/
theorem RdS.calm {w wx : World} {q3 q4 q7 q8 q9 : Nat} {t : List UInt8} {o : Array Value} (h : RdS w wx q3 q4 q7 q8 q9 t o .nilIface .nilIface) (Post : Value → Value → List UInt8 → Prop)
    (h22 : ∀ w', Below w.heap.size w w' → Blk w' q7 9 #[S t] → Calls Tryz.prog 22 #[.pointer (some ⟨q7, 0, none⟩)] w' fun e w'' => ∃ v x t', e = .returned (.tuple #[v, x]) ∧ IVal v ∧ IVal x ∧ Only w' w'' q7 ∧ Blk w'' q7 9 #[S t'] ∧ Post v x t') :
    Calls Tryz.prog 28 #[.func (.func 50) #[] #[.pointer (some ⟨q3, 0, none⟩), .pointer (some ⟨q7, 0, none⟩), .pointer (some ⟨q8, 0, none⟩), .pointer (some ⟨q9, 0, none⟩)]] wx fun e w' => e = .returned (.bool true) ∧ ∃ v x t', Post v x t' ∧ IVal v ∧ IVal x ∧ RdS w w' q3 q4 q7 q8 q9 t' o v x := by
  have e3 := h.h3
  have e4 := h.h4
  have e7 := h.h7
  have e8 := h.h8
  have e9 := h.h9
  have hz := h.below.size
  have hl9 := h.b9.lt
  refine (calm_ok _ wx (fun w1 => ∃ v x t', Post v x t' ∧ IVal v ∧ IVal x ∧ RdS w w1 q3 q4 q7 q8 q9 t' o v x) ?_).mono ?_
  · refine (read1_any q3 q7 q8 q9 _ (fun v x w1 => ∃ t', Blk w1 q7 9 #[S t'] ∧ Post v x t') (Blk.alloc h.b3 _) (by omega) (by omega) (by omega) (Blk.alloc h.b8 _) (Blk.alloc h.b9 _) ?_).mono ?_
    · refine (h22 _ (h.below.alloc hz _) (Blk.alloc h.b7 _)).mono ?_
      rintro e w' ⟨v, x, t', rfl, hv, hx, hO, hb, hP⟩
      exact ⟨v, x, rfl, hv, hx, hO, t', hb, hP⟩
    · rintro e w' ⟨rfl, v, x, w1, ⟨t', hb, hP⟩, hv, hx, hO, rfl⟩
      have nn : ∀ k, k ≠ q7 → (some k : Option Nat) ≠ some q7 := fun k hk e => by injection e with e; exact hk e
      refine ⟨rfl, ?_, v, x, t', hP, hv, hx, ?_⟩
      · exact ((Blk.grown (Blk.newAt wx 4 #[.bool false] _ rfl) hO (nn _ (by omega))).far (by simp only; omega) _).far (by simp only; omega) _
      · have k3 := Blk.grown (Blk.alloc h.b3 (.cells #[.bool false] 4)) hO (nn _ (by omega))
        have k4 := Blk.grown (Blk.alloc h.b4 (.cells #[.bool false] 4)) hO (nn _ (by omega))
        have k8 := Blk.grown (Blk.alloc h.b8 (.cells #[.bool false] 4)) hO (nn _ (by omega))
        have k9 := Blk.grown (Blk.alloc h.b9 (.cells #[.bool false] 4)) hO (nn _ (by omega))
        refine ⟨(k3.far (by simp only; omega) _).far (by simp only; omega) _, (k4.far (by simp only; omega) _).far (by simp only; omega) _, (hb.far (by simp only; omega) _).far (by simp only; omega) _, ?_, ?_, ?_, e3, e4, e7, e8, e9⟩
        · have : Blk (w1.setCell ⟨q8, 0, none⟩ v) q8 63 #[v] := by have := Blk.set_ k8 0 v; simpa using this
          exact this.far (by simp only; omega) _
        · have := Blk.set_ (k9.far (p := ⟨q8, 0, none⟩) (by simp only; omega) v) 0 x
          simpa using this
        · exact (((h.below.alloc hz _).grown hO (by simp; omega) (fun k e => by injection e with e; omega)).setCell (by simp only; omega) _).setCell (by simp only; omega) _
  · rintro e w' ⟨rfl, w1, ⟨v, x, t', hP, hv, hx, hS⟩, rfl⟩
    refine ⟨rfl, v, x, t', hP, hv, hx, ?_⟩
    have hz9 := hS.b9.lt
    exact ⟨hS.b3.far (by simp only; omega) _, hS.b4.far (by simp only; omega) _, hS.b7.far (by simp only; omega) _, hS.b8.far (by simp only; omega) _, hS.b9.far (by simp only; omega) _, hS.below.setCell (by simp only; omega) _, e3, e4, e7, e8, e9⟩

theorem Blk.put7T {T : TypeId} {w : World} {g : Nat} {a0 a1 a2 a3 a4 a5 a6 : Value} (h : Blk w g T #[a0, a1, a2, a3, a4, a5, a6]) (c0 c1 c2 c3 c4 c5 c6 : Value) :
    Blk (((((((w.setCell ⟨g, 0, none⟩ c0).setCell ⟨g, 1, none⟩ c1).setCell ⟨g, 2, none⟩ c2).setCell ⟨g, 3, none⟩ c3).setCell ⟨g, 4, none⟩ c4).setCell ⟨g, 5, none⟩ c5).setCell ⟨g, 6, none⟩ c6) g T #[c0, c1, c2, c3, c4, c5, c6] := by
  have r0 := Blk.set_ h 0 c0
  rw [show (#[a0, a1, a2, a3, a4, a5, a6] : Array Value).setIfInBounds 0 c0 = #[c0, a1, a2, a3, a4, a5, a6] by simp] at r0
  have r1 := Blk.set_ r0 1 c1
  rw [show (#[c0, a1, a2, a3, a4, a5, a6] : Array Value).setIfInBounds 1 c1 = #[c0, c1, a2, a3, a4, a5, a6] by simp] at r1
  have r2 := Blk.set_ r1 2 c2
  rw [show (#[c0, c1, a2, a3, a4, a5, a6] : Array Value).setIfInBounds 2 c2 = #[c0, c1, c2, a3, a4, a5, a6] by simp] at r2
  have r3 := Blk.set_ r2 3 c3
  rw [show (#[c0, c1, c2, a3, a4, a5, a6] : Array Value).setIfInBounds 3 c3 = #[c0, c1, c2, c3, a4, a5, a6] by simp] at r3
  have r4 := Blk.set_ r3 4 c4
  rw [show (#[c0, c1, c2, c3, a4, a5, a6] : Array Value).setIfInBounds 4 c4 = #[c0, c1, c2, c3, c4, a5, a6] by simp] at r4
  have r5 := Blk.set_ r4 5 c5
  rw [show (#[c0, c1, c2, c3, c4, a5, a6] : Array Value).setIfInBounds 5 c5 = #[c0, c1, c2, c3, c4, c5, a6] by simp] at r5
  have r6 := Blk.set_ r5 6 c6
  rw [show (#[c0, c1, c2, c3, c4, c5, a6] : Array Value).setIfInBounds 6 c6 = #[c0, c1, c2, c3, c4, c5, c6] by simp] at r6
  exact r6

set_option maxHeartbeats 4000000 in
set_option maxRecDepth 100000 in
theorem read_err (s : List UInt8) (W0 w : World) (hW : Below W0.heap.size W0 w)
    (h22 : ∀ p w, Below W0.heap.size W0 w → W0.heap.size ≤ p → Blk w p 9 #[S s] → Calls Tryz.prog 22 #[.pointer (some ⟨p, 0, none⟩)] w (ErrN W0 w p)) :
    Calls Tryz.prog 21 #[S s, .func (.func 22) #[] #[]] w fun e w' => e = .returned (.tuple #[.agg oZero, S [], .bool false]) ∧ Below w.heap.size w w' := by
  have hmf : ∀ (fn : Fn) (first cap : Array Value) (w : World), (Instr.makeFunc fn first cap).run Tryz.prog w = .ok (.func fn first cap) w := fun _ _ _ _ => rfl
  have HW := Lib.hid hW
  have H := Lib.hid h22
  clear hW h22
  go_enter Tryz.func21, Tryz.ntmps21
  go_wp2_with fail
  refine calls_gen (fun wx => RdS w wx w.heap.size (w.heap.size + 1) (w.heap.size + 1 + 1) (w.heap.size + 1 + 1 + 1) (w.heap.size + 1 + 1 + 1 + 1) s oZero .nilIface .nilIface) ?_ ?_
  · refine ⟨?_, ?_, ?_, ?_, ?_, ?_, by omega, by omega, by omega, by omega, by omega⟩
    · exact Blk.alloc (Blk.alloc (Blk.alloc (Blk.alloc (Blk.newAt _ 57 _ _ (by simp)) _) _) _) _
    · exact Blk.alloc (Blk.alloc (Blk.alloc (Blk.newAt _ 28 _ _ (by simp)) _) _) _
    · exact Blk.alloc (Blk.alloc (Blk.newAt _ 9 _ _ (by simp)) _) _
    · exact Blk.alloc (Blk.newAt _ 63 _ _ (by simp)) _
    · exact Blk.newAt _ 71 _ _ (by simp)
    · exact (((((Below.refl _ w).alloc (Nat.le_refl _) _).alloc (by simp) _).alloc (by simp; omega) _).alloc (by simp; omega) _).alloc (by simp; omega) _
  obtain ⟨q9, e9⟩ : ∃ q, q = w.heap.size + 1 + 1 + 1 + 1 := ⟨_, rfl⟩
  rw [← e9]
  obtain ⟨q8, e8⟩ : ∃ q, q = w.heap.size + 1 + 1 + 1 := ⟨_, rfl⟩
  rw [← e8]
  obtain ⟨q7, e7⟩ : ∃ q, q = w.heap.size + 1 + 1 := ⟨_, rfl⟩
  rw [← e7]
  obtain ⟨q4, e4⟩ : ∃ q, q = w.heap.size + 1 := ⟨_, rfl⟩
  rw [← e4]
  obtain ⟨q3, e3⟩ : ∃ q, q = w.heap.size := ⟨_, rfl⟩
  rw [← e3]
  clear e9 e8 e7 e4
  subst e3
  intro wx hS
  refine (hS.calm (fun v x t' => v = .nilIface ∧ ∃ q : Addr, x = .iface 207 (.pointer (some q))) (fun w' hB hb => ?_)).mono ?_
  · refine (H.out q7 w' (HW.out.trans (hB.mono HW.out.size)) (by have := HW.out.size; have := hS.h3; have := hS.h4; have := hS.h7; omega) hb).mono ?_
    rintro e w'' ⟨⟨q, rfl, hq⟩, ⟨t', ht⟩, hO⟩
    exact ⟨_, _, t', rfl, .inl rfl, .inr ⟨_, _, rfl⟩, hO, ht, rfl, q, rfl⟩
  rintro e w2 ⟨rfl, v, x, t', ⟨rfl, q, rfl⟩, _, _, hS2⟩
  have c9 : w2.cell? ⟨q9, 0, none⟩ = some (.iface 207 (.pointer (some q))) := hS2.b9.cell 0
  have k0 : w2.cell? ⟨q4, 0, none⟩ = some (.int .i64 0) := hS2.b4.cell 0
  have f0 : w2.frozen? ⟨q4, 0, none⟩ = false := hS2.b4.frozen 0
  have k1 : w2.cell? ⟨q4, 1, none⟩ = some (.int .i64 0) := hS2.b4.cell 1
  have f1 : w2.frozen? ⟨q4, 1, none⟩ = false := hS2.b4.frozen 1
  have k2 : w2.cell? ⟨q4, 2, none⟩ = some (.int .i64 0) := hS2.b4.cell 2
  have f2 : w2.frozen? ⟨q4, 2, none⟩ = false := hS2.b4.frozen 2
  have k3 : w2.cell? ⟨q4, 3, none⟩ = some (.float .f64 0) := hS2.b4.cell 3
  have f3 : w2.frozen? ⟨q4, 3, none⟩ = false := hS2.b4.frozen 3
  have k4 : w2.cell? ⟨q4, 4, none⟩ = some (S []) := hS2.b4.cell 4
  have f4 : w2.frozen? ⟨q4, 4, none⟩ = false := hS2.b4.frozen 4
  have k5 : w2.cell? ⟨q4, 5, none⟩ = some (.slice none 0 0) := hS2.b4.cell 5
  have f5 : w2.frozen? ⟨q4, 5, none⟩ = false := hS2.b4.frozen 5
  have k6 : w2.cell? ⟨q4, 6, none⟩ = some (.slice none 0 0) := hS2.b4.cell 6
  have f6 : w2.frozen? ⟨q4, 6, none⟩ = false := hS2.b4.frozen 6
  go_wp2_with fail
  have hput := Blk.put7T (show Blk w2 q4 28 #[.int .i64 0, .int .i64 0, .int .i64 0, .float .f64 0, S [], .slice none 0 0, .slice none 0 0] from hS2.b4) (.int .i64 0) (.int .i64 0) (.int .i64 0) (.float .f64 0) (S []) (.slice none 0 0) (.slice none 0 0)
  obtain ⟨w3, hw3⟩ : ∃ w3, w3 = ((((((w2.setCell ⟨q4, 0, none⟩ (.int .i64 0)).setCell ⟨q4, 1, none⟩ (.int .i64 0)).setCell ⟨q4, 2, none⟩ (.int .i64 0)).setCell ⟨q4, 3, none⟩ (.float .f64 0)).setCell ⟨q4, 4, none⟩ (S [])).setCell ⟨q4, 5, none⟩ (.slice none 0 0)).setCell ⟨q4, 6, none⟩ (.slice none 0 0) := ⟨_, rfl⟩
  have hB3 : Below w.heap.size w w3 := by
    have := hS2.h3
    have := hS2.h4
    rw [hw3]
    exact ((((((hS2.below.setCell (by simp only; omega) _).setCell (by simp only; omega) _).setCell (by simp only; omega) _).setCell (by simp only; omega) _).setCell (by simp only; omega) _).setCell (by simp only; omega) _).setCell (by simp only; omega) _
  rw [← hw3] at hput ⊢
  clear k0 k1 k2 k3 k4 k5 k6 f0 f1 f2 f3 f4 f5 f6
  have k0 : w3.cell? ⟨q4, 0, none⟩ = some (.int .i64 0) := hput.cell 0
  have f0 : w3.frozen? ⟨q4, 0, none⟩ = false := hput.frozen 0
  have k1 : w3.cell? ⟨q4, 1, none⟩ = some (.int .i64 0) := hput.cell 1
  have f1 : w3.frozen? ⟨q4, 1, none⟩ = false := hput.frozen 1
  have k2 : w3.cell? ⟨q4, 2, none⟩ = some (.int .i64 0) := hput.cell 2
  have f2 : w3.frozen? ⟨q4, 2, none⟩ = false := hput.frozen 2
  have k3 : w3.cell? ⟨q4, 3, none⟩ = some (.float .f64 0) := hput.cell 3
  have f3 : w3.frozen? ⟨q4, 3, none⟩ = false := hput.frozen 3
  have k4 : w3.cell? ⟨q4, 4, none⟩ = some (S []) := hput.cell 4
  have f4 : w3.frozen? ⟨q4, 4, none⟩ = false := hput.frozen 4
  have k5 : w3.cell? ⟨q4, 5, none⟩ = some (.slice none 0 0) := hput.cell 5
  have f5 : w3.frozen? ⟨q4, 5, none⟩ = false := hput.frozen 5
  have k6 : w3.cell? ⟨q4, 6, none⟩ = some (.slice none 0 0) := hput.cell 6
  have f6 : w3.frozen? ⟨q4, 6, none⟩ = false := hput.frozen 6

  refine bodyPost_ret (v := .tuple #[.agg oZero, S [], .bool false]) (by simp [results, Tryz.results21, go_sem, oZero, k0, k1, k2, k3, k4, k5, k6]) rfl ?_
  exact ⟨rfl, hB3⟩

set_option maxHeartbeats 1000000 in
set_option maxRecDepth 100000 in
theorem tell_int (n : Int) (w : World) : Calls Tryz.prog 51 #[.iface 101 (.int .i64 n)] w fun e w' => e = .returned (.tuple #[.agg #[.int .i64 2, .int .i64 n, .int .i64 0, .float .f64 0, S [], .slice none 0 0, .slice none 0 0], .bool true]) ∧ Below w.heap.size w w' := by
  have has0 : ∀ w, (Instr.typeAssert (.iface 101 (.int .i64 n)) 63 100 true).run Tryz.prog w = .ok (.tuple #[.bool false, .bool false]) w := fun w => by simp [Instr.typeAssert, run_underlying Tryz.underlying100]
  have has1 : ∀ w, (Instr.typeAssert (.iface 101 (.int .i64 n)) 63 101 true).run Tryz.prog w = .ok (.tuple #[.int .i64 n, .bool true]) w := fun w => by simp [Instr.typeAssert, run_underlying Tryz.underlying101]
  go_enter Tryz.func51, Tryz.ntmps51
  go_wp2_with fail
  refine bodyPost_ret (v := .tuple #[.agg #[.int .i64 2, .int .i64 n, .int .i64 0, .float .f64 0, S [], .slice none 0 0, .slice none 0 0], .bool true]) (by simp [results, Tryz.results51, go_sem]) rfl ?_
  exact ⟨rfl, (Below.refl _ w).alloc (Nat.le_refl _) _⟩

set_option maxHeartbeats 4000000 in
set_option maxRecDepth 100000 in
theorem read_int (s rest : List UInt8) (n : Int) (W0 w : World) (hW : Below W0.heap.size W0 w)
    (h22 : ∀ p w, Below W0.heap.size W0 w → W0.heap.size ≤ p → Blk w p 9 #[S s] → Calls Tryz.prog 22 #[.pointer (some ⟨p, 0, none⟩)] w (OkP w p rest (.iface 101 (.int .i64 n)))) :
    Calls Tryz.prog 21 #[S s, .func (.func 22) #[] #[]] w fun e w' => e = .returned (.tuple #[.agg #[.int .i64 2, .int .i64 n, .int .i64 0, .float .f64 0, S [], .slice none 0 0, .slice none 0 0], S rest, .bool true]) ∧ Below w.heap.size w w' := by
  have hmf : ∀ (fn : Fn) (first cap : Array Value) (w : World), (Instr.makeFunc fn first cap).run Tryz.prog w = .ok (.func fn first cap) w := fun _ _ _ _ => rfl
  have HW := Lib.hid hW
  have H := Lib.hid h22
  clear hW h22
  go_enter Tryz.func21, Tryz.ntmps21
  go_wp2_with fail
  refine calls_gen (fun wx => RdS w wx w.heap.size (w.heap.size + 1) (w.heap.size + 1 + 1) (w.heap.size + 1 + 1 + 1) (w.heap.size + 1 + 1 + 1 + 1) s oZero .nilIface .nilIface) ?_ ?_
  · refine ⟨?_, ?_, ?_, ?_, ?_, ?_, by omega, by omega, by omega, by omega, by omega⟩
    · exact Blk.alloc (Blk.alloc (Blk.alloc (Blk.alloc (Blk.newAt _ 57 _ _ (by simp)) _) _) _) _
    · exact Blk.alloc (Blk.alloc (Blk.alloc (Blk.newAt _ 28 _ _ (by simp)) _) _) _
    · exact Blk.alloc (Blk.alloc (Blk.newAt _ 9 _ _ (by simp)) _) _
    · exact Blk.alloc (Blk.newAt _ 63 _ _ (by simp)) _
    · exact Blk.newAt _ 71 _ _ (by simp)
    · exact (((((Below.refl _ w).alloc (Nat.le_refl _) _).alloc (by simp) _).alloc (by simp; omega) _).alloc (by simp; omega) _).alloc (by simp; omega) _
  obtain ⟨q9, e9⟩ : ∃ q, q = w.heap.size + 1 + 1 + 1 + 1 := ⟨_, rfl⟩
  rw [← e9]
  obtain ⟨q8, e8⟩ : ∃ q, q = w.heap.size + 1 + 1 + 1 := ⟨_, rfl⟩
  rw [← e8]
  obtain ⟨q7, e7⟩ : ∃ q, q = w.heap.size + 1 + 1 := ⟨_, rfl⟩
  rw [← e7]
  obtain ⟨q4, e4⟩ : ∃ q, q = w.heap.size + 1 := ⟨_, rfl⟩
  rw [← e4]
  obtain ⟨q3, e3⟩ : ∃ q, q = w.heap.size := ⟨_, rfl⟩
  rw [← e3]
  clear e9 e8 e7 e4
  subst e3
  intro wx hS
  refine (hS.calm (fun v x t' => v = .iface 101 (.int .i64 n) ∧ x = .nilIface ∧ t' = rest) (fun w' hB hb => ?_)).mono ?_
  · refine (H.out q7 w' (HW.out.trans (hB.mono HW.out.size)) (by have := HW.out.size; have := hS.h3; have := hS.h4; have := hS.h7; omega) hb).mono ?_
    rintro e w'' ⟨rfl, ht, hO⟩
    exact ⟨_, _, rest, rfl, .inr ⟨_, _, rfl⟩, .inl rfl, hO, ht, rfl, rfl, rfl⟩
  rintro e w2 ⟨rfl, v, x, t', ⟨rfl, rfl, rfl⟩, _, _, hS2⟩
  have c9 : w2.cell? ⟨q9, 0, none⟩ = some .nilIface := hS2.b9.cell 0
  have c8 : w2.cell? ⟨q8, 0, none⟩ = some (.iface 101 (.int .i64 n)) := hS2.b8.cell 0
  go_wp2_with fail
  refine (tell_int n w2).mono ?_
  rintro e w3 ⟨rfl, hB3⟩
  have b4 : Blk w3 q4 28 oZero := hS2.b4.below hB3 hS2.b4.lt
  have b7 : Blk w3 q7 9 #[S t'] := hS2.b7.below hB3 hS2.b7.lt
  have hB := hS2.below.trans (hB3.mono hS2.below.size)
  have d1 := hS2.h3
  have d2 := hS2.h4
  have d3 := hS2.h7
  clear hS2 hS hB3 c9 c8
  have k0 : w3.cell? ⟨q4, 0, none⟩ = some (.int .i64 0) := b4.cell 0
  have f0 : w3.frozen? ⟨q4, 0, none⟩ = false := b4.frozen 0
  have k1 : w3.cell? ⟨q4, 1, none⟩ = some (.int .i64 0) := b4.cell 1
  have f1 : w3.frozen? ⟨q4, 1, none⟩ = false := b4.frozen 1
  have k2 : w3.cell? ⟨q4, 2, none⟩ = some (.int .i64 0) := b4.cell 2
  have f2 : w3.frozen? ⟨q4, 2, none⟩ = false := b4.frozen 2
  have k3 : w3.cell? ⟨q4, 3, none⟩ = some (.float .f64 0) := b4.cell 3
  have f3 : w3.frozen? ⟨q4, 3, none⟩ = false := b4.frozen 3
  have k4 : w3.cell? ⟨q4, 4, none⟩ = some (S []) := b4.cell 4
  have f4 : w3.frozen? ⟨q4, 4, none⟩ = false := b4.frozen 4
  have k5 : w3.cell? ⟨q4, 5, none⟩ = some (.slice none 0 0) := b4.cell 5
  have f5 : w3.frozen? ⟨q4, 5, none⟩ = false := b4.frozen 5
  have k6 : w3.cell? ⟨q4, 6, none⟩ = some (.slice none 0 0) := b4.cell 6
  have f6 : w3.frozen? ⟨q4, 6, none⟩ = false := b4.frozen 6
  go_wp2_with fail
  have hput := Blk.put7T (show Blk w3 q4 28 #[.int .i64 0, .int .i64 0, .int .i64 0, .float .f64 0, S [], .slice none 0 0, .slice none 0 0] from b4) (.int .i64 2) (.int .i64 n) (.int .i64 0) (.float .f64 0) (S []) (.slice none 0 0) (.slice none 0 0)
  refine wp_gen (fun wy => Blk wy q4 28 #[.int .i64 2, .int .i64 n, .int .i64 0, .float .f64 0, S [], .slice none 0 0, .slice none 0 0] ∧ Blk wy q7 9 #[S t'] ∧ Below w.heap.size w wy) ⟨hput, ?_, ?_⟩ ?_
  · exact ((((((b7.far (by simp only; omega) _).far (by simp only; omega) _).far (by simp only; omega) _).far (by simp only; omega) _).far (by simp only; omega) _).far (by simp only; omega) _).far (by simp only; omega) _
  · exact ((((((hB.setCell (by simp only; omega) _).setCell (by simp only; omega) _).setCell (by simp only; omega) _).setCell (by simp only; omega) _).setCell (by simp only; omega) _).setCell (by simp only; omega) _).setCell (by simp only; omega) _
  clear hput b4 b7 hB k0 k1 k2 k3 k4 k5 k6 f0 f1 f2 f3 f4 f5 f6
  rintro w4 ⟨b4, b7, hB⟩
  have k0 : w4.cell? ⟨q4, 0, none⟩ = some (.int .i64 2) := b4.cell 0
  have f0 : w4.frozen? ⟨q4, 0, none⟩ = false := b4.frozen 0
  have k1 : w4.cell? ⟨q4, 1, none⟩ = some (.int .i64 n) := b4.cell 1
  have f1 : w4.frozen? ⟨q4, 1, none⟩ = false := b4.frozen 1
  have k2 : w4.cell? ⟨q4, 2, none⟩ = some (.int .i64 0) := b4.cell 2
  have f2 : w4.frozen? ⟨q4, 2, none⟩ = false := b4.frozen 2
  have k3 : w4.cell? ⟨q4, 3, none⟩ = some (.float .f64 0) := b4.cell 3
  have f3 : w4.frozen? ⟨q4, 3, none⟩ = false := b4.frozen 3
  have k4 : w4.cell? ⟨q4, 4, none⟩ = some (S []) := b4.cell 4
  have f4 : w4.frozen? ⟨q4, 4, none⟩ = false := b4.frozen 4
  have k5 : w4.cell? ⟨q4, 5, none⟩ = some (.slice none 0 0) := b4.cell 5
  have f5 : w4.frozen? ⟨q4, 5, none⟩ = false := b4.frozen 5
  have k6 : w4.cell? ⟨q4, 6, none⟩ = some (.slice none 0 0) := b4.cell 6
  have f6 : w4.frozen? ⟨q4, 6, none⟩ = false := b4.frozen 6
  have c7 : w4.cell? ⟨q7, 0, none⟩ = some (S t') := b7.cell 0
  have e47 : ¬ q4 = q7 := by omega
  have e74 : ¬ q7 = q4 := by omega
  go_region
  have hput := Blk.put7T b4 (.int .i64 2) (.int .i64 n) (.int .i64 0) (.float .f64 0) (S []) (.slice none 0 0) (.slice none 0 0)
  clear k0 k1 k2 k3 k4 k5 k6 f0 f1 f2 f3 f4 f5 f6 c7
  obtain ⟨w6, hw6⟩ : ∃ w6, w6 = ((((((w4.setCell ⟨q4, 0, none⟩ (.int .i64 2)).setCell ⟨q4, 1, none⟩ (.int .i64 n)).setCell ⟨q4, 2, none⟩ (.int .i64 0)).setCell ⟨q4, 3, none⟩ (.float .f64 0)).setCell ⟨q4, 4, none⟩ (S [])).setCell ⟨q4, 5, none⟩ (.slice none 0 0)).setCell ⟨q4, 6, none⟩ (.slice none 0 0) := ⟨_, rfl⟩
  have hB6 : Below w.heap.size w w6 := by
    rw [hw6]
    exact ((((((hB.setCell (by simp only; omega) _).setCell (by simp only; omega) _).setCell (by simp only; omega) _).setCell (by simp only; omega) _).setCell (by simp only; omega) _).setCell (by simp only; omega) _).setCell (by simp only; omega) _
  rw [← hw6] at hput ⊢
  have hb7 := Blk.drewN hput 1
  have k0 : w6.cell? ⟨q4, 0, none⟩ = some (.int .i64 2) := hput.cell 0
  have f0 : w6.frozen? ⟨q4, 0, none⟩ = false := hput.frozen 0
  have k1 : w6.cell? ⟨q4, 1, none⟩ = some (.int .i64 n) := hput.cell 1
  have f1 : w6.frozen? ⟨q4, 1, none⟩ = false := hput.frozen 1
  have k2 : w6.cell? ⟨q4, 2, none⟩ = some (.int .i64 0) := hput.cell 2
  have f2 : w6.frozen? ⟨q4, 2, none⟩ = false := hput.frozen 2
  have k3 : w6.cell? ⟨q4, 3, none⟩ = some (.float .f64 0) := hput.cell 3
  have f3 : w6.frozen? ⟨q4, 3, none⟩ = false := hput.frozen 3
  have k4 : w6.cell? ⟨q4, 4, none⟩ = some (S []) := hput.cell 4
  have f4 : w6.frozen? ⟨q4, 4, none⟩ = false := hput.frozen 4
  have k5 : w6.cell? ⟨q4, 5, none⟩ = some (.slice none 0 0) := hput.cell 5
  have f5 : w6.frozen? ⟨q4, 5, none⟩ = false := hput.frozen 5
  have k6 : w6.cell? ⟨q4, 6, none⟩ = some (.slice none 0 0) := hput.cell 6
  have f6 : w6.frozen? ⟨q4, 6, none⟩ = false := hput.frozen 6
  go_wp2_with fail
  refine bodyPost_ret (v := .tuple #[.agg #[.int .i64 2, .int .i64 n, .int .i64 0, .float .f64 0, S [], .slice none 0 0, .slice none 0 0], S t', .bool true]) (by simp [results, Tryz.results21, go_sem, k0, k1, k2, k3, k4, k5, k6]) rfl ?_
  exact ⟨rfl, below_drewN hB6 1⟩
end Go.Proofs.YtcpijmbdibgdmaaGreatDoor

namespace Go.Proofs.YtcpijmbdibgdmaaGreatDoor
open Go.RowKit
attribute [local go_sem] ba_get store_flt

set_option maxHeartbeats 4000000 in
set_option maxRecDepth 100000 in
theorem parse_gen (s rest : List UInt8) (kd n : Int) (b : Bool) (w : World)
    (h21 : ∀ w', Below w.heap.size w w' → Calls Tryz.prog 21 #[S s, .func (.func 22) #[] #[]] w' fun e w'' => e = .returned (.tuple #[.agg #[.int .i64 kd, .int .i64 n, .int .i64 0, .float .f64 0, S [], .slice none 0 0, .slice none 0 0], S rest, .bool b]) ∧ Below w'.heap.size w' w'') :
    Calls Tryz.prog 9 #[S s] w fun e w' => e = .returned (.tuple #[.agg #[.int .i64 kd, .int .i64 n, .int .i64 0, .float .f64 0, S [], .slice none 0 0, .slice none 0 0], S rest, .bool b]) ∧ Below w.heap.size w w' := by
  have H := Lib.hid h21
  clear h21
  go_enter Tryz.func9, Tryz.ntmps9
  go_wp2_with fail
  have hB1 : Below w.heap.size w (w.alloc (.cells oZero 28)) := (Below.refl _ w).alloc (Nat.le_refl _) _
  have hb1 : Blk (w.alloc (.cells oZero 28)) w.heap.size 28 oZero := Blk.newAt _ 28 _ _ rfl
  refine (H.out _ hB1).mono ?_
  rintro e w2 ⟨rfl, hB⟩
  have b4 : Blk w2 w.heap.size 28 oZero := hb1.below hB hb1.lt
  have hB2 : Below w.heap.size w w2 := hB1.trans (hB.mono hB1.size)
  have k0 : w2.cell? ⟨w.heap.size, 0, none⟩ = some (.int .i64 0) := b4.cell 0
  have f0 : w2.frozen? ⟨w.heap.size, 0, none⟩ = false := b4.frozen 0
  have k1 : w2.cell? ⟨w.heap.size, 1, none⟩ = some (.int .i64 0) := b4.cell 1
  have f1 : w2.frozen? ⟨w.heap.size, 1, none⟩ = false := b4.frozen 1
  have k2 : w2.cell? ⟨w.heap.size, 2, none⟩ = some (.int .i64 0) := b4.cell 2
  have f2 : w2.frozen? ⟨w.heap.size, 2, none⟩ = false := b4.frozen 2
  have k3 : w2.cell? ⟨w.heap.size, 3, none⟩ = some (.float .f64 0) := b4.cell 3
  have f3 : w2.frozen? ⟨w.heap.size, 3, none⟩ = false := b4.frozen 3
  have k4 : w2.cell? ⟨w.heap.size, 4, none⟩ = some (S []) := b4.cell 4
  have f4 : w2.frozen? ⟨w.heap.size, 4, none⟩ = false := b4.frozen 4
  have k5 : w2.cell? ⟨w.heap.size, 5, none⟩ = some (.slice none 0 0) := b4.cell 5
  have f5 : w2.frozen? ⟨w.heap.size, 5, none⟩ = false := b4.frozen 5
  have k6 : w2.cell? ⟨w.heap.size, 6, none⟩ = some (.slice none 0 0) := b4.cell 6
  have f6 : w2.frozen? ⟨w.heap.size, 6, none⟩ = false := b4.frozen 6
  go_wp2_with fail
  have hput := Blk.put7T (show Blk w2 w.heap.size 28 #[.int .i64 0, .int .i64 0, .int .i64 0, .float .f64 0, S [], .slice none 0 0, .slice none 0 0] from b4) (.int .i64 kd) (.int .i64 n) (.int .i64 0) (.float .f64 0) (S []) (.slice none 0 0) (.slice none 0 0)
  clear k0 k1 k2 k3 k4 k5 k6 f0 f1 f2 f3 f4 f5 f6
  obtain ⟨w6, hw6⟩ : ∃ w6, w6 = ((((((w2.setCell ⟨w.heap.size, 0, none⟩ (.int .i64 kd)).setCell ⟨w.heap.size, 1, none⟩ (.int .i64 n)).setCell ⟨w.heap.size, 2, none⟩ (.int .i64 0)).setCell ⟨w.heap.size, 3, none⟩ (.float .f64 0)).setCell ⟨w.heap.size, 4, none⟩ (S [])).setCell ⟨w.heap.size, 5, none⟩ (.slice none 0 0)).setCell ⟨w.heap.size, 6, none⟩ (.slice none 0 0) := ⟨_, rfl⟩
  have hB6 : Below w.heap.size w w6 := by
    rw [hw6]
    exact ((((((hB2.setCell (by simp only; omega) _).setCell (by simp only; omega) _).setCell (by simp only; omega) _).setCell (by simp only; omega) _).setCell (by simp only; omega) _).setCell (by simp only; omega) _).setCell (by simp only; omega) _
  rw [← hw6] at hput ⊢
  have k0 : w6.cell? ⟨w.heap.size, 0, none⟩ = some (.int .i64 kd) := hput.cell 0
  have f0 : w6.frozen? ⟨w.heap.size, 0, none⟩ = false := hput.frozen 0
  have k1 : w6.cell? ⟨w.heap.size, 1, none⟩ = some (.int .i64 n) := hput.cell 1
  have f1 : w6.frozen? ⟨w.heap.size, 1, none⟩ = false := hput.frozen 1
  have k2 : w6.cell? ⟨w.heap.size, 2, none⟩ = some (.int .i64 0) := hput.cell 2
  have f2 : w6.frozen? ⟨w.heap.size, 2, none⟩ = false := hput.frozen 2
  have k3 : w6.cell? ⟨w.heap.size, 3, none⟩ = some (.float .f64 0) := hput.cell 3
  have f3 : w6.frozen? ⟨w.heap.size, 3, none⟩ = false := hput.frozen 3
  have k4 : w6.cell? ⟨w.heap.size, 4, none⟩ = some (S []) := hput.cell 4
  have f4 : w6.frozen? ⟨w.heap.size, 4, none⟩ = false := hput.frozen 4
  have k5 : w6.cell? ⟨w.heap.size, 5, none⟩ = some (.slice none 0 0) := hput.cell 5
  have f5 : w6.frozen? ⟨w.heap.size, 5, none⟩ = false := hput.frozen 5
  have k6 : w6.cell? ⟨w.heap.size, 6, none⟩ = some (.slice none 0 0) := hput.cell 6
  have f6 : w6.frozen? ⟨w.heap.size, 6, none⟩ = false := hput.frozen 6
  refine bodyPost_ret (v := .tuple #[.agg #[.int .i64 kd, .int .i64 n, .int .i64 0, .float .f64 0, S [], .slice none 0 0, .slice none 0 0], S rest, .bool b]) (by simp [results, Tryz.results9, go_sem, k0, k1, k2, k3, k4, k5, k6]) rfl ?_
  exact ⟨rfl, hB6⟩

theorem twelve (pf : List UInt8 → Nat) : NumOk [49, 50, 32] [32] (.int 12) := by
  have h := num_ok (pf := pf) (s := [49, 50, 32]) (k := 0) (x := numF pf [49, 50, 32] 0 false) (by decide) (by decide) (by decide) rfl (by rfl) (by rfl)
  have e1 : (numF pf [49, 50, 32] 0 false).1 = .int 12 := by rfl
  have e2 : (numF pf [49, 50, 32] 0 false).2.1 = 2 := by rfl
  rw [e1, e2] at h
  exact h

theorem int12 {pf : List UInt8 → Nat} {W0 : World} (hG : PG pf W0) (p : Nat) (w : World) (hW : Below W0.heap.size W0 w) (hp : W0.heap.size ≤ p) (hL : Blk w p 9 #[S [49, 50, 32]]) :
    Calls Tryz.prog 22 #[.pointer (some ⟨p, 0, none⟩)] w (OkP w p [32] (.iface 101 (.int .i64 12))) := by
  refine po_any p w _ (fun e w' h => ⟨_, _, h.1⟩) ?_
  refine (poc_ok [49, 50, 32] p W0 w (fun v rest => v = .iface 101 (.int .i64 12) ∧ rest = [32]) hG.glob hW hp (by simp) hL ?_).mono ?_
  · intro w hW hL
    refine (ctx_walk [49, 50, 32] 0 p 0 false W0 w (fun v rest => v = .iface 101 (.int .i64 12) ∧ rest = [32]) False hG.glob hW hp (by simp) (by omega) hL (by simp) (by omega) (by simp) (fun _ _ => ⟨by decide, fun _ => by show plainB 49 = true; decide⟩) ?_).mono ?_
    · intro _ _ r hr h0 w q hW hq hLq
      have hr' : r = [49, 50, 32] := by
        rcases hr with h | ⟨h, _⟩
        · exact h
        · simp at h
      subst hr'
      refine (val_num [49, 50, 32] [32] (.int 12) q 0 false pf W0 w hG hW hq (by simp) hLq (fun _ => by show (49 : UInt8).toNat ≠ 91 ∧ (49 : UInt8).toNat ≠ 47 ∧ (49 : UInt8).toNat ≠ 60 ∧ (49 : UInt8).toNat ≠ 40; decide) (twelve pf)).mono ?_
      rintro e w' ⟨val, _, hv, hok⟩
      exact .inr ⟨val, [32], ⟨hv 12 rfl, rfl⟩, hok⟩
    · rintro e w' (⟨h, _⟩ | h)
      · exact h.elim
      · exact h
  · rintro e w' ⟨v, rest, ⟨rfl, rfl⟩, h⟩
    exact h

theorem parse12 {pf : List UInt8 → Nat} {W0 : World} (hG : PG pf W0) (w : World) (hW : Below W0.heap.size W0 w) :
    Calls Tryz.prog 9 #[S [49, 50, 32]] w fun e w' => e = .returned (.tuple #[.agg #[.int .i64 2, .int .i64 12, .int .i64 0, .float .f64 0, S [], .slice none 0 0, .slice none 0 0], S [32], .bool true]) ∧ Below w.heap.size w w' :=
  parse_gen [49, 50, 32] [32] 2 12 true w (fun w' hB => read_int [49, 50, 32] [32] 12 W0 w' (hW.trans (hB.mono hW.size)) (fun p w hW hp hL => int12 hG p w hW hp hL))
theorem parse_unended {pf : List UInt8 → Nat} {W0 : World} (hG : PG pf W0) (s : List UInt8) (hs : s.length ≤ 100000) (hU : UnOut pf s) (w : World) (hW : Below W0.heap.size W0 w) :
    Calls Tryz.prog 9 #[S s] w fun e w' => e = .returned (.tuple #[.agg #[.int .i64 0, .int .i64 0, .int .i64 0, .float .f64 0, S [], .slice none 0 0, .slice none 0 0], S [], .bool false]) ∧ Below w.heap.size w w' :=
  parse_gen s [] 0 0 false w (fun w' hB => read_err s W0 w' (hW.trans (hB.mono hW.size)) (fun p w hW hp hL => po_any p w _ (fun e w' h => by obtain ⟨⟨q, h, _⟩, _⟩ := h; exact ⟨_, _, h⟩) (poc_err s p W0 w hG.glob hW hp hL (fun rx w hW hL => ctx_unended hG hs hU 0 p rx w (by omega) hW hp hL))))

set_option maxHeartbeats 4000000 in
set_option maxRecDepth 100000 in
theorem parses_any {pf : List UInt8 → Nat} {W0 : World} (hG : PG pf W0) (w : World) (hW : Below W0.heap.size W0 w) : Calls Tryz.prog 8 #[] w fun e w' => e = .returned (.bool true) ∧ Below w.heap.size w w' := by
  have HP := Lib.hid (parse12 hG w hW)
  have e12 : S [49, 50, 32] = .string ⟨#[49, 50, 32]⟩ := rfl
  rw [e12] at HP
  go_enter Tryz.func8, Tryz.ntmps8
  go_wp2_with fail
  refine HP.out.mono ?_
  rintro e w2 ⟨rfl, hB⟩
  go_wp2_with fail
  go_ret
  exact ⟨rfl, hB.alloc hB.size _⟩

set_option maxHeartbeats 4000000 in
set_option maxRecDepth 100000 in
theorem law_ends {pf : List UInt8 → Nat} {W0 : World} (hG : PG pf W0) (s : List UInt8) (w : World) (hW : Below W0.heap.size W0 w) : Calls Tryz.prog 3 #[S s] w fun e w' => e = .returned (.bool true) ∧ Below w.heap.size w w' := by
  by_cases h1 : 2147483647 < s.length
  · have t1 : decide ((2147483647 : Int) < (s.length : Int)) = true := by rw [decide_eq_true_eq]; omega
    go_enter Tryz.func3, Tryz.ntmps3
    go_wp2_with fail
    go_ret
    exact ⟨rfl, Below.refl _ _⟩
  have t1 : decide ((2147483647 : Int) < (s.length : Int)) = false := by rw [decide_eq_false_iff_not]; omega
  have HP := fun (w' : World) (hB : Below w.heap.size w w') => parses_any hG w' (hW.trans (hB.mono hW.size))
  by_cases h2 : 8192 < s.length
  · have t2 : decide ((8192 : Int) < (s.length : Int)) = true := by rw [decide_eq_true_eq]; omega
    go_enter Tryz.func3, Tryz.ntmps3
    go_wp2_with fail
    refine (HP _ (Below.refl _ _)).mono ?_
    rintro e w2 ⟨rfl, hB⟩
    go_wp2_with fail
    go_ret
    exact ⟨rfl, hB⟩
  have t2 : decide ((8192 : Int) < (s.length : Int)) = false := by rw [decide_eq_false_iff_not]; omega
  have hun := unended_any pf W0 hG.pfs s w (by omega) hW
  have hpe := fun (w' : World) (hB : Below w.heap.size w w') (hU : UnOut pf s) => parse_unended hG s (by omega) hU w' (hW.trans (hB.mono hW.size))
  have Hpe := Lib.hid hpe
  clear hpe h1 h2
  go_enter Tryz.func3, Tryz.ntmps3
  go_wp2_with fail
  refine hun.mono ?_
  rintro e w2 ⟨⟨b, rfl, hb⟩, hB⟩
  cases b with
  | false =>
    clear hb
    go_wp2_with fail
    refine (HP _ hB).mono ?_
    rintro e w3 ⟨rfl, hB3⟩
    go_wp2_with fail
    go_ret
    exact ⟨rfl, hB.trans (hB3.mono hB.size)⟩
  | true =>
    have hU := hb rfl
    have hp := Hpe.out w2 hB hU
    clear hb hU
    go_wp2_with fail
    refine hp.mono ?_
    rintro e w3 ⟨rfl, hB3⟩
    have hB3' := hB.trans (hB3.mono hB.size)
    go_wp2_with fail
    refine (HP _ (hB3'.alloc hB3'.size _)).mono ?_
    rintro e w4 ⟨rfl, hB4⟩
    go_wp2_with fail
    go_ret
    exact ⟨rfl, (hB3'.alloc hB3'.size _).trans (hB4.mono (by have := hB3'.size; simp; omega))⟩
end Go.Proofs.YtcpijmbdibgdmaaGreatDoor

namespace Go.Proofs.YtcpijmbdibgdmaaGreatDoor
set_option maxRecDepth 100000 in
set_option maxHeartbeats 100000000 in
theorem factsE : joinedFacts Tryz.prog 3 Tryz.f3 Rows.fnParseEndsSpec Rows.fnParseEndsRow = true := by
  unfold joinedFacts
  simp only [Bool.and_eq_true]
  repeat' apply And.intro
  all_goals (as_aux_lemma => kernel_rfl)
end Go.Proofs.YtcpijmbdibgdmaaGreatDoor
