/-
  package model: what the parser's functions leave; literal strings; the depth.
  internal/strconv: the fast conversion of a decimal to floating point (parseFloat64 and what it calls).
  internal/strconv: readFloat of a decimal number with a point.
  internal/strconv's decimal in memory; trim.
-/
import Derived.Test.YtcpijmbdibgdmaaGreatDoorMe05
import Derived.Test.YtcpijmbdibgdmaaGreatDoorMe06
import Derived.Test.YtcpijmbdibgdmaaGreatDoorMe02
import Derived.Laws.Externs
import Derived.Test.YtcpijmbdibgdmaaGreatDoorMe03
import Derived.Deep.LoopGhost
import Derived.Deep.CutBlock
import Derived.WalkMore
import Derived.Test.YtcpijmbdibgdmaaGreatDoorMe00
import Derived.Test.YtcpijmbdibgdmaaGreatDoorMe01
set_option linter.all false
namespace Go.Proofs.YtcpijmbdibgdmaaGreatDoor
open Go.RowKit
attribute [local go_sem] ba_get store_flt

/-- The package's error variables hold errors. -/
def IsErr (W0 : World) (q : Addr) : Prop := ∃ cs t, W0.heap[q.block]? = some (.cells cs t (0, 0))
theorem IsErr.later {W0 w : World} {q : Addr} (h : IsErr W0 q) (hW : Below W0.heap.size W0 w) : IsErr w q := by
  obtain ⟨cs, t, h⟩ := h
  exact ⟨cs, t, (hW.block q.block (Array.getElem?_eq_some_iff.1 h).1).trans h⟩
def Glob (w : World) : Prop := ∀ g ∈ [0, 1, 2, 3, 4, 5, 6, 7, 8, 14, 15], g < w.heap.size ∧ ∃ a, w.cell? ⟨g, 0, none⟩ = some (.iface 207 (.pointer (some a))) ∧ IsErr w a
theorem Glob.later {W0 w : World} (h : Glob W0) (hW : Below W0.heap.size W0 w) : ∀ g ∈ [0, 1, 2, 3, 4, 5, 6, 7, 8, 14, 15], g < w.heap.size ∧ ∃ a, w.cell? ⟨g, 0, none⟩ = some (.iface 207 (.pointer (some a))) ∧ IsErr W0 a := fun g hg => by
  obtain ⟨h1, a, h2, h3⟩ := h g hg
  exact ⟨Nat.lt_of_lt_of_le h1 hW.size, a, (hW.cell (p := ⟨g, 0, none⟩) h1).trans h2, h3⟩
/-- It goes on at rest, with the value v. -/
def OkP (w : World) (p : Nat) (rest : List UInt8) (v : Value) (e : Ending) (w' : World) : Prop := e = .returned (.tuple #[v, .nilIface]) ∧ Blk w' p 9 #[S rest] ∧ Only w w' p
/-- An error. -/
def ErrP (W0 w : World) (p : Nat) (e : Ending) (w' : World) : Prop := (∃ (v : Value) (q : Addr), e = .returned (.tuple #[v, .iface 207 (.pointer (some q))]) ∧ IsErr W0 q) ∧ (∃ t, Blk w' p 9 #[S t]) ∧ Only w w' p
def IVal (v : Value) : Prop := v = .nilIface ∨ ∃ T u, v = .iface T u

theorem forward1 (s : List UInt8) (w : World) (hs : s.length ≤ 1048576) : Calls Tryz.prog 119 #[S s, .int .i64 1] w fun e w' => e = .returned (S (s.drop 1)) ∧ w = w' := forward_any s 1 w hs (by omega)
theorem hasPre_any (s t : List UInt8) (w : World) : Calls Tryz.prog 138 #[S s, S t] w fun e w' => e = .returned (.bool (Lib.hasPrefix s t)) ∧ w' = w := by
  have := Tryz.strings_HasPrefix ⟨s.toArray⟩ ⟨t.toArray⟩ w
  simpa using this
theorem hasPre_one (b c : UInt8) (l : List UInt8) : Lib.hasPrefix (b :: l) [c] = (b == c) := by
  simp [Lib.hasPrefix, List.isPrefixOf, BEq.comm]

set_option maxHeartbeats 1000000 in
theorem depth_any (m : List UInt8) (lv : Nat) (W0 w : World) (hG : Glob W0) (hW : Below W0.heap.size W0 w) (hl : lv ≤ 1000) : Calls Tryz.prog 96 #[S m, .int .i64 lv, .int .i64 100] w fun e w' =>
    (∃ v, e = .returned v ∧ (v = .nilIface ∧ lv ≤ 100 ∨ ∃ q, v = .iface 207 (.pointer (some q)) ∧ IsErr W0 q)) ∧ w' = w := by
  obtain ⟨h1, a, hc, he⟩ := hG.later hW 1 (by simp)
  by_cases h : 100 < lv
  · have t1 : decide ((100 : Int) < (lv : Int)) = true := by rw [decide_eq_true_eq]; omega
    go_enter Tryz.func96, Tryz.ntmps96
    go_wp2_with fail
    go_ret
    exact ⟨⟨_, rfl, .inr ⟨a, rfl, he⟩⟩, rfl⟩
  · have t1 : decide ((100 : Int) < (lv : Int)) = false := by rw [decide_eq_false_iff_not]; omega
    go_enter Tryz.func96, Tryz.ntmps96
    go_wp2_with fail
    go_ret
    exact ⟨⟨_, rfl, .inl ⟨rfl, by omega⟩⟩, rfl⟩

set_option maxHeartbeats 4000000 in
set_option maxRecDepth 100000 in
theorem lit_parse (t : List UInt8) (p : Nat) (W0 w : World) (hG : Glob W0) (hW : Below W0.heap.size W0 w) (hp : W0.heap.size ≤ p) (hs : t.length ≤ 1048576) (h0 : 0 < t.length) (hc : t[0].toNat = 40) (hL : Blk w p 9 #[S t]) :
    Calls Tryz.prog 117 #[.pointer (some ⟨p, 0, none⟩)] w fun e w' => match parM t false 0 with
      | some i => ∃ u, OkP w p (t.drop (i + 1)) (.iface 103 u) e w'
      | none => ErrP W0 w p e w' := by
  obtain ⟨fin, hfin⟩ : ∃ fin, fin = parM t false 0 := ⟨_, rfl⟩
  rw [← hfin]
  have hpar := par_any t w hs
  rw [← hfin] at hpar
  have hlt := fun i => parM_lt t false 0 i
  rw [← hfin] at hlt
  have hge : ∀ i, fin = some i → 1 ≤ i := fun i hi => by
    rw [hfin, show t = t[0] :: t.drop 1 from List.drop_eq_getElem_cons h0, parM_40 hc (by omega)] at hi
    obtain ⟨j, _, rfl⟩ := Option.map_eq_some_iff.1 hi
    omega
  have c0 : w.cell? ⟨p, 0, none⟩ = some (S t) := hL.cell 0
  have f0 := hL.frozen 0
  obtain ⟨h8, a8, c8, e8⟩ := hG.later hW 8 (by simp)
  have ht0 : ((t.length : Int) == 0) = false := by rw [beq_eq_false_iff_ne]; omega
  have hpre : Lib.hasPrefix t [40] = true := by
    rw [show t = t[0] :: t.drop 1 from List.drop_eq_getElem_cons h0, hasPre_one, beq_iff_eq]
    exact UInt8.toNat_inj.1 hc
  by_cases h2 : t.length < 2
  · have t2 : decide ((t.length : Int) < 2) = true := by rw [decide_eq_true_eq]; omega
    have hnone : fin = none := by
      have e : t = [t[0]] := by
        rcases t with _ | ⟨b, l⟩
        · simp at h0
        · have : l = [] := List.eq_nil_of_length_eq_zero (by simp at h2; omega)
          subst this; rfl
      rw [hfin, e, parM_40 hc (by omega)]
      rfl
    have Hc := Lib.hid hc
    clear hfin hc
    subst hnone
    go_enter Tryz.func117, Tryz.ntmps117
    go_wp2_with fail
    go_quiet (fail)
    go_wp2_with fail
    refine bodyPost_ret (v := .tuple #[.nilIface, .iface 207 (.pointer (some a8))]) (by simp [results, Tryz.results117, go_sem]) rfl ?_
    exact ⟨⟨_, _, rfl, e8⟩, ⟨t, hL⟩, only_drewN (only_refl _ _) _⟩
  · have t2 : decide ((t.length : Int) < 2) = false := by rw [decide_eq_false_iff_not]; omega
    have Hc := Lib.hid hc
    clear hfin hc
    cases fin with
    | none =>
      go_enter Tryz.func117, Tryz.ntmps117
      go_wp2_with (first | (go_at_call 138; refine (hasPre_any t [40] _).mono ?_; rintro e W ⟨rfl, rfl⟩; rw [hpre]) | (go_at_call 143; refine hpar.mono ?_; rintro e W ⟨rfl, rfl⟩; dsimp only [parRet]) | (go_at_call 119; refine (forward1 (t.drop i) _ (by rw [List.length_drop]; omega)).mono ?_; rintro e W ⟨rfl, rfl⟩))
      go_quiet (fail)
      go_wp2_with fail
      refine bodyPost_ret (v := .tuple #[.nilIface, .iface 207 (.pointer (some a8))]) (by simp [results, Tryz.results117, go_sem]) rfl ?_
      exact ⟨⟨_, _, rfl, e8⟩, ⟨t, hL⟩, only_drewN (only_refl _ _) _⟩
    | some i =>
      have hi := hlt i rfl
      have hi1 := hge i rfl
      clear hlt hge
      have hex : (ByteArray.mk t.toArray).extract i t.length = ⟨(t.drop i).toArray⟩ := by rw [ByteArray.extract_mk, List.take_of_length_le (by rw [List.length_drop]; omega)]
      go_enter Tryz.func117, Tryz.ntmps117
      go_wp2_with (first | (go_at_call 138; refine (hasPre_any t [40] _).mono ?_; rintro e W ⟨rfl, rfl⟩; rw [hpre]) | (go_at_call 143; refine hpar.mono ?_; rintro e W ⟨rfl, rfl⟩; dsimp only [parRet]))
      refine (forward1 (t.drop i) _ (by rw [List.length_drop]; omega)).mono ?_
      rintro e W2 ⟨rfl, rfl⟩
      go_wp2_with fail
      refine bodyPost_ret (v := .tuple #[.iface 103 (.string ((ByteArray.mk t.toArray).extract 1 i)), .nilIface]) (by simp [results, Tryz.results117, go_sem]) rfl ?_
      refine ⟨_, rfl, ?_, only_set (only_refl _ _) _ _⟩
      have := Blk.set_ hL 0 (S ((t.drop i).drop 1))
      rw [List.drop_drop] at this
      simpa using this
end Go.Proofs.YtcpijmbdibgdmaaGreatDoor

namespace Go.Proofs.YtcpijmbdibgdmaaGreatDoor
open Go.RowKit
attribute [local go_sem] ba_get store_flt

def b2F (b : Bool) : Int := if b then 1 else 0
def roundF (u : Int) : Int := IntKind.u64.wrap (IntKind.u64.wrap (u + 1) + bits BinOp.and IntKind.u64 (u / 4) 1) / 4
def unminF (u : Int) : Int := IntKind.u64.wrap (IntKind.u64.wrap (u * 4) - 2)
def log2F (x : Int) : Int := wrap64 (x * 108853) / 32768

theorem b2u_any (b : Bool) (w : World) : Calls Tryz.prog 198 #[.bool b] w fun e w' => e = .returned (.int .u64 (b2F b)) ∧ w = w' := by
  cases b <;>
  · go_enter Tryz.func198, Tryz.ntmps198
    go_wp2
    go_ret
    exact ⟨rfl, rfl⟩
theorem b2r_any (b : Bool) (w : World) : Calls Tryz.prog 242 #[.bool b] w fun e w' => e = .returned (.int .u64 (b2F b)) ∧ w = w' := by
  cases b <;>
  · go_enter Tryz.func242, Tryz.ntmps242
    go_wp2
    go_ret
    exact ⟨rfl, rfl⟩
theorem b2i_any (b : Bool) (w : World) : Calls Tryz.prog 169 #[.bool b] w fun e w' => e = .returned (.int .i64 (b2F b)) ∧ w = w' := by
  cases b <;>
  · go_enter Tryz.func169, Tryz.ntmps169
    go_wp2
    go_ret
    exact ⟨rfl, rfl⟩
set_option maxRecDepth 100000 in
theorem round_any (u : Int) (w : World) : Calls Tryz.prog 211 #[.int .u64 u] w fun e w' => e = .returned (.int .u64 (roundF u)) ∧ w = w' := by
  go_enter Tryz.func211, Tryz.ntmps211
  go_wp2
  go_ret
  exact ⟨rfl, rfl⟩
theorem unmin_any (u : Int) (w : World) : Calls Tryz.prog 212 #[.int .u64 u] w fun e w' => e = .returned (.int .u64 (unminF u)) ∧ w = w' := by
  go_enter Tryz.func212, Tryz.ntmps212
  go_wp2
  go_ret
  exact ⟨rfl, rfl⟩
theorem log2_any (u : Int) (w : World) : Calls Tryz.prog 206 #[.int .i64 u] w fun e w' => e = .returned (.int .i64 (log2F u)) ∧ w = w' := by
  go_enter Tryz.func206, Tryz.ntmps206
  go_wp2
  go_ret
  exact ⟨rfl, rfl⟩
theorem frombits_run (u : Int) (w : World) : (callFunc 199 #[.int .u64 u]).run Tryz.prog w = .ok (.value (.float .f64 u.toNat)) w := by
  rw [run_callFunc_extern Tryz.func199 (by kernel_rfl) (by kernel_rfl) (by kernel_rfl) (e := Extern.MathFloatBits.float64frombits) (by kernel_rfl)]
  rfl

def packF (m e : Int) : Nat := if bits BinOp.and IntKind.u64 m 4503599627370496 == 0 then m.toNat else
  (bits BinOp.or IntKind.u64 (bits BinOp.andNot IntKind.u64 m 4503599627370496) (IntKind.u64.wrap (IntKind.u64.wrap (1075 + e) * 4503599627370496))).toNat
set_option maxRecDepth 100000 in
set_option maxHeartbeats 2000000 in
theorem pack_any (m e : Int) (w : World) (he : -100000 ≤ e ∧ e < 972) : Calls Tryz.prog 240 #[.int .u64 m, .int .i64 e] w fun e' w' => e' = .returned (.tuple #[.float .f64 (packF m e), .nilIface]) ∧ w = w' := by
  have hfb := frombits_run
  have te : decide (972 ≤ e) = false := by rw [decide_eq_false_iff_not]; omega
  by_cases hm : bits BinOp.and IntKind.u64 m 4503599627370496 = 0
  · have tm : (bits BinOp.and IntKind.u64 m 4503599627370496 == 0) = true := by rw [beq_iff_eq]; exact hm
    clear hm
    go_enter Tryz.func240, Tryz.ntmps240
    go_wp2_with fail
    refine bodyPost_ret (v := .tuple #[.float .f64 (packF m e), .nilIface]) (by simp [results, Tryz.results240, go_sem, packF, tm]) rfl ?_
    exact ⟨rfl, rfl⟩
  · have tm : (bits BinOp.and IntKind.u64 m 4503599627370496 == 0) = false := by rw [beq_eq_false_iff_ne]; exact hm
    clear hm
    go_enter Tryz.func240, Tryz.ntmps240
    go_wp2_with fail
    refine bodyPost_ret (v := .tuple #[.float .f64 (packF m e), .nilIface]) (by simp [results, Tryz.results240, go_sem, packF, tm]) rfl ?_
    exact ⟨rfl, rfl⟩

set_option maxRecDepth 100000 in
set_option maxHeartbeats 2000000 in
theorem prescale_any (hi lo : Nat → Nat) (g i : Nat) (e lp : Int) (a0 a1 a2 : Value) (W0 w : World) (hT : ∀ i, i < 696 → W0.cell? ⟨22, i * 2, none⟩ = some (.int .u64 (hi i)) ∧ W0.cell? ⟨22, i * 2 + 1, none⟩ = some (.int .u64 (lo i))) (h22 : 22 < W0.heap.size) (hW : Below W0.heap.size W0 w)
    (hg : W0.heap.size ≤ g) (hi' : i < 696) (he : e + lp + 3 = -8) (hlp : -1000 ≤ lp ∧ lp ≤ 1000) (hL : Blk w g 289 #[a0, a1, a2]) :
    Calls Tryz.prog 205 #[.pointer (some ⟨g, 0, none⟩), .int .i64 e, .int .i64 ((i : Int) - 348), .int .i64 lp] w fun e' w' => e' = .returned (.tuple #[]) ∧ Blk w' g 289 #[.int .u64 (hi i), .int .u64 (lo i), .int .i64 8] ∧ Only w w' g := by
  obtain ⟨t1, t2⟩ := hT i hi'
  have c1 : w.cell? ⟨22, i * 2, none⟩ = some (.int .u64 (hi i)) := (hW.cell (p := ⟨22, i * 2, none⟩) h22).trans t1
  have c2 : w.cell? ⟨22, i * 2 + 1, none⟩ = some (.int .u64 (lo i)) := (hW.cell (p := ⟨22, i * 2 + 1, none⟩) h22).trans t2
  have k0 : w.cell? ⟨g, 0, none⟩ = some a0 := hL.cell 0
  have k1 : w.cell? ⟨g, 1, none⟩ = some a1 := hL.cell 1
  have k2 : w.cell? ⟨g, 2, none⟩ = some a2 := hL.cell 2
  have f0 := hL.frozen 0
  have f1 := hL.frozen 1
  have f2 := hL.frozen 2
  have hg22 : ¬ g = 22 := by omega
  have hg22' : ¬ 22 = g := by omega
  clear hT t1 t2
  go_enter Tryz.func205, Tryz.ntmps205
  go_wp2_with fail
  go_end0
  refine ⟨rfl, ?_, only_set (only_set (only_set (only_refl _ _) _ _) _ _) _ _⟩
  have r0 := Blk.set_ hL 0 (.int .u64 (hi i))
  rw [show (#[a0, a1, a2] : Array Value).setIfInBounds 0 (.int .u64 (hi i)) = #[.int .u64 (hi i), a1, a2] by simp] at r0
  have r1 := Blk.set_ r0 1 (.int .u64 (lo i))
  rw [show (#[.int .u64 (hi i), a1, a2] : Array Value).setIfInBounds 1 (.int .u64 (lo i)) = #[.int .u64 (hi i), .int .u64 (lo i), a2] by simp] at r1
  have r2 := Blk.set_ r1 2 (.int .i64 8)
  rw [show (#[.int .u64 (hi i), .int .u64 (lo i), a2] : Array Value).setIfInBounds 2 (.int .i64 8) = #[.int .u64 (hi i), .int .u64 (lo i), .int .i64 8] by simp] at r2
  exact r2

def mulHi (x y : Nat) : Int := ((x * y / 18446744073709551616 : Nat) : Int)
def mulLo (x y : Nat) : Int := ((x * y % 18446744073709551616 : Nat) : Int)
def usT (h : Int) : Bool := IntKind.u64.wrap (h / 256 * 256) == h
def usF (x hi lo : Nat) : Int :=
  if usT (mulHi x hi) then bits BinOp.or IntKind.u64 (IntKind.u64.wrap (mulHi x hi - b2F (decide (mulLo x hi < mulHi x lo))) / 256) (b2F (decide (1 < IntKind.u64.wrap (mulLo x hi - mulHi x lo))))
  else bits BinOp.or IntKind.u64 (mulHi x hi / 256) 1
set_option maxRecDepth 100000 in
set_option maxHeartbeats 2000000 in
theorem uscale_any (x hi lo g : Nat) (w : World) (hx : x < 18446744073709551616) (hhi : hi < 18446744073709551616) (hlo : lo < 18446744073709551616) (hL : Blk w g 289 #[.int .u64 hi, .int .u64 lo, .int .i64 8]) :
    Calls Tryz.prog 207 #[.int .u64 x, .pointer (some ⟨g, 0, none⟩)] w fun e' w' => e' = .returned (.int .u64 (usF x hi lo)) ∧ ∃ n, w' = w.drewN n := by
  have k0 : w.cell? ⟨g, 0, none⟩ = some (.int .u64 hi) := hL.cell 0
  have k1 : w.cell? ⟨g, 1, none⟩ = some (.int .u64 lo) := hL.cell 1
  have k2 : w.cell? ⟨g, 2, none⟩ = some (.int .i64 8) := hL.cell 2
  have h1 := fun w => Tryz.bits_Mul64 x hi hx hhi w
  have h2 := fun w => Tryz.bits_Mul64 x lo hx hlo w
  obtain ⟨q1, hq1⟩ : ∃ q, q = mulHi x hi := ⟨_, rfl⟩
  obtain ⟨q2, hq2⟩ : ∃ q, q = mulLo x hi := ⟨_, rfl⟩
  obtain ⟨q3, hq3⟩ : ∃ q, q = mulHi x lo := ⟨_, rfl⟩
  obtain ⟨q4, hq4⟩ : ∃ q, q = mulLo x lo := ⟨_, rfl⟩
  have hF : usF x hi lo = if usT q1 then bits BinOp.or IntKind.u64 (IntKind.u64.wrap (q1 - b2F (decide (q2 < q3))) / 256) (b2F (decide (1 < IntKind.u64.wrap (q2 - q3)))) else bits BinOp.or IntKind.u64 (q1 / 256) 1 := by rw [hq1, hq2, hq3]; rfl
  rw [hF]
  unfold mulHi at hq1 hq3
  unfold mulLo at hq2 hq4
  simp only [← hq1, ← hq2] at h1
  simp only [← hq3, ← hq4] at h2
  clear hq1 hq2 hq3 hq4 hF hL
  have h63 : bits BinOp.and IntKind.i64 8 63 = 8 := by rfl
  cases ht : usT q1 with
  | true =>
    have t1 : (IntKind.u64.wrap (q1 / 256 * 256) != q1) = false := by unfold usT at ht; rw [bne, ht]; rfl
    clear ht
    go_enter Tryz.func207, Tryz.ntmps207
    go_wp2_with fail
    refine (h1 _).mono ?_
    rintro e w1 ⟨rfl, rfl⟩
    go_wp2_with fail
    refine (h2 _).mono ?_
    rintro e w2 ⟨rfl, rfl⟩
    go_wp2_with fail
    refine (b2u_any _ _).mono ?_
    rintro e w3 ⟨rfl, rfl⟩
    go_wp2_with fail
    refine wp_region_quiet_lit (by kernel_rfl) (by kernel_rfl) ?_
    repeat (go_big_quiet_step (fail))
    go_big_quiet_want; go_big_quiet_op
    apply Exists.intro
    refine ⟨fun _ => ?_, ?_⟩
    · first | exact quiet_left (b2u_any _ _) | exact quiet_add_left (b2u_any _ _)
    go_big_quiet_on
    repeat (go_big_quiet_step (fail))
    refine wpQuiet_nil ?_
    intro _ hw'
    obtain ⟨nq, hw''⟩ := hw'
    subst hw''
    go_wp2_with fail
    go_ret
    exact ⟨rfl, _, rfl⟩
  | false =>
    have t1 : (IntKind.u64.wrap (q1 / 256 * 256) != q1) = true := by unfold usT at ht; rw [bne, ht]; rfl
    clear ht
    go_enter Tryz.func207, Tryz.ntmps207
    go_wp2_with fail
    refine (h1 _).mono ?_
    rintro e w1 ⟨rfl, rfl⟩
    go_wp2_with fail
    go_ret
    exact ⟨rfl, 0, rfl⟩

theorem bitLen_le (d : Nat) (h : d < 18446744073709551616) : Lib.bitLen d ≤ 64 := by
  have : ∀ f x, Lib.bitLenAux f x ≤ f := by
    intro f
    induction f with
    | zero => intro x; exact Nat.le_refl _
    | succ f ih => intro x; rw [Lib.bitLenAux]; (have := ih (x / 2)); split <;> omega
  exact this 64 d
def xF (d b : Nat) : Nat := (IntKind.u64.wrap ((d : Int) * 2 ^ (64 - b))).toNat
theorem xF_eq (d b : Nat) : IntKind.u64.wrap ((d : Int) * 2 ^ (64 - b)) = ((xF d b : Nat) : Int) ∧ xF d b < 18446744073709551616 := by
  have h0 : 0 ≤ IntKind.u64.wrap ((d : Int) * 2 ^ (64 - b)) ∧ IntKind.u64.wrap ((d : Int) * 2 ^ (64 - b)) < 18446744073709551616 := by
    generalize (d : Int) * 2 ^ (64 - b) = y
    have : IntKind.u64.wrap y = y % 18446744073709551616 := by simp [IntKind.wrap, IntKind.bits, IntKind.signed]
    omega
  unfold xF
  omega
def s1F (u : Int) : Int := b2F (decide (unminF 9007199254740992 ≤ u))
def u2F (u : Int) : Int := bits BinOp.or IntKind.u64 (u / 2 ^ (s1F u).toNat) (bits BinOp.and IntKind.u64 u 1)
/-- parseFloat64's result. -/
def pf64F (hi lo : Nat → Nat) (d i : Nat) (sg : Int) : Nat :=
  packF (bits BinOp.or IntKind.u64 sg (roundF (u2F (usF (xF d (Lib.bitLen d)) (hi i) (lo i))))) (-(53 - (Lib.bitLen d : Int) - log2F ((i : Int) - 348) - s1F (usF (xF d (Lib.bitLen d)) (hi i) (lo i))))
set_option maxRecDepth 100000 in
set_option maxHeartbeats 4000000 in
theorem pf64_any (hi lo : Nat → Nat) (d i : Nat) (sg : Int) (W0 w : World) (hT : ∀ i, i < 696 → W0.cell? ⟨22, i * 2, none⟩ = some (.int .u64 (hi i)) ∧ W0.cell? ⟨22, i * 2 + 1, none⟩ = some (.int .u64 (lo i))) (hb : ∀ i, i < 696 → hi i < 18446744073709551616 ∧ lo i < 18446744073709551616)
    (h22 : 22 < W0.heap.size) (hW : Below W0.heap.size W0 w) (hi' : 248 ≤ i ∧ i ≤ 448) (hd : d < 18446744073709551616) :
    Calls Tryz.prog 201 #[.int .u64 d, .int .i64 ((i : Int) - 348), .int .u64 sg] w fun e' w' => e' = .returned (.tuple #[.float .f64 (pf64F hi lo d i sg), .nilIface]) ∧ Below w.heap.size w w' := by
  have hlen := fun w => Tryz.bits_Len64 (d : Int) w (by omega) (by omega)
  simp only [Int.toNat_natCast] at hlen
  have hbl := bitLen_le d hd
  obtain ⟨b, hb'⟩ : ∃ b, b = Lib.bitLen d := ⟨_, rfl⟩
  have hF : pf64F hi lo d i sg = packF (bits BinOp.or IntKind.u64 sg (roundF (u2F (usF (xF d b) (hi i) (lo i))))) (-(53 - (b : Int) - log2F ((i : Int) - 348) - s1F (usF (xF d b) (hi i) (lo i)))) := by rw [hb']; rfl
  rw [hF]
  rw [← hb'] at hlen hbl
  obtain ⟨lp, hlp⟩ : ∃ lp, lp = log2F ((i : Int) - 348) := ⟨_, rfl⟩
  have hlp' : -400 ≤ lp ∧ lp ≤ 400 := by
    rw [hlp]
    unfold log2F
    have : wrap64 (((i : Int) - 348) * 108853) = ((i : Int) - 348) * 108853 := by unfold wrap64; omega
    rw [this]
    omega
  have hl2 := fun w => log2_any ((i : Int) - 348) w
  rw [← hlp] at hl2 ⊢
  clear hb' hlp hF
  have hmin : min 1074 (53 - (b : Int) - lp) = 53 - (b : Int) - lp := by omega
  obtain ⟨hx1, hx2⟩ := xF_eq d b
  obtain ⟨u, hu⟩ : ∃ u, u = usF (xF d b) (hi i) (lo i) := ⟨_, rfl⟩
  have hus := fun g w => uscale_any (xF d b) (hi i) (lo i) g w hx2 (hb i (by omega)).1 (hb i (by omega)).2
  rw [← hu] at hus ⊢
  have Hx1 := Lib.hid hx1
  clear hu hx1
  go_enter Tryz.func201, Tryz.ntmps201
  go_wp2_with fail
  refine (hlen _).mono ?_
  rintro e w1 ⟨rfl, rfl⟩
  go_wp2_with fail
  refine (hl2 _).mono ?_
  rintro e w2 ⟨rfl, rfl⟩
  go_wp2_with fail
  have hW1 : Below W0.heap.size W0 (w1.alloc (.cells #[.int .u64 0, .int .u64 0, .int .i64 0] 289)) := hW.alloc hW.size _
  have hb1 : Blk (w1.alloc (.cells #[.int .u64 0, .int .u64 0, .int .i64 0] 289)) w1.heap.size 289 #[.int .u64 0, .int .u64 0, .int .i64 0] := Blk.newAt _ 289 _ _ rfl
  have hB1 : Below w1.heap.size w1 (w1.alloc (.cells #[.int .u64 0, .int .u64 0, .int .i64 0] 289)) := (Below.refl _ w1).alloc (Nat.le_refl _) _
  refine (prescale_any hi lo w1.heap.size i _ _ _ _ _ W0 _ hT h22 hW1 hW.size (by omega) (by omega) (by omega) hb1).mono ?_
  rintro e w3 ⟨rfl, hb3, hO3⟩
  have hB3 : Below w1.heap.size w1 w3 := hB1.grown hO3 hB1.size (fun k e => by injection e with e; omega)
  have k2 : w3.cell? ⟨w1.heap.size, 2, none⟩ = some (.int .i64 8) := hb3.cell 2
  obtain ⟨g, hg⟩ : ∃ g, g = w1.heap.size := ⟨_, rfl⟩
  rw [← hg] at hb3 k2 ⊢
  have Hg := Lib.hid hg
  clear hg
  clear hO3 hb1 hW1 hB1
  go_wp2_with fail
  rw [Hx1.out]
  refine (hus g _ hb3).mono ?_
  rintro e w4 ⟨rfl, n4, rfl⟩
  go_wp2_with fail
  refine (unmin_any _ _).mono ?_
  rintro e w5 ⟨rfl, rfl⟩
  go_wp2_with fail
  refine (b2i_any _ _).mono ?_
  rintro e w6 ⟨rfl, rfl⟩
  have hbF : (b2F (decide (unminF 9007199254740992 ≤ u)) = 0 ∨ b2F (decide (unminF 9007199254740992 ≤ u)) = 1) := by unfold b2F; split <;> simp
  go_wp2_with fail
  refine (round_any _ _).mono ?_
  rintro e w7 ⟨rfl, rfl⟩
  go_wp2_with fail
  refine (pack_any _ _ _ (by omega)).mono ?_
  rintro e w8 ⟨rfl, rfl⟩
  go_wp2_with fail
  refine bodyPost_ret (v := .tuple #[.float .f64 (packF (bits BinOp.or IntKind.u64 sg (roundF (u2F u))) (-(53 - (b : Int) - lp - s1F u))), .nilIface]) (by simp [results, Tryz.results201, go_sem, u2F, s1F]) rfl ?_
  exact ⟨rfl, below_drewN hB3 _⟩
end Go.Proofs.YtcpijmbdibgdmaaGreatDoor

namespace Go.Proofs.YtcpijmbdibgdmaaGreatDoor
open Go.RowKit
attribute [local go_sem] ba_get store_flt

theorem dlower_any (c : Int) (w : World) : Calls Tryz.prog 133 #[.int .u8 c] w fun e w' => e = .returned (.int .u8 (bits .or .u8 c 32)) ∧ w = w' :=
  (Tryz.internal_strconv_lower c w).mono fun _ _ ⟨a, b⟩ => ⟨a, b.symm⟩
def expF (s : RFS) : Int := if s.m ≠ 0 then s.dp - s.nm else 0
/-- What readFloat gives. -/
def RFv (s : RFS) (neg : Bool) (n : Nat) : Value := .tuple #[.int .u64 s.m, .int .i64 (expF s), .bool neg, .bool s.tr, .bool false, .int .i64 n, .bool true]

theorem okR_mem : ∀ (l : List UInt8) (d : Bool), okR d l = true → ∀ b ∈ l, 46 ≤ b.toNat ∧ b.toNat ≤ 57 ∧ b.toNat ≠ 47
  | [], _, _, _, hb => by cases hb
  | c :: l, d, h, b, hb => by
    rw [okR] at h
    by_cases hc : digitB c = true
    · rw [if_pos hc] at h
      rcases List.mem_cons.1 hb with rfl | hb
      · have : 48 ≤ b.toNat ∧ b.toNat ≤ 57 := by simpa [digitB] using hc
        omega
      · exact okR_mem l d h b hb
    · rw [if_neg hc, Bool.and_eq_true, Bool.and_eq_true, decide_eq_true_eq] at h
      rcases List.mem_cons.1 hb with rfl | hb
      · omega
      · exact okR_mem l true h.2 b hb
theorem low_ne {x : Nat} (h : 46 ≤ x ∧ x ≤ 57) : (bits BinOp.or IntKind.u8 (x : Int) 32 == 120) = false := by
  have : x = 46 ∨ x = 47 ∨ x = 48 ∨ x = 49 ∨ x = 50 ∨ x = 51 ∨ x = 52 ∨ x = 53 ∨ x = 54 ∨ x = 55 ∨ x = 56 ∨ x = 57 := by omega
  rcases this with rfl | rfl | rfl | rfl | rfl | rfl | rfl | rfl | rfl | rfl | rfl | rfl <;> rfl
theorem pow_num {a b m : Nat} (h : a ≤ b) (hm : 10 ^ b = m) : 10 ^ a ≤ m := by rw [← hm]; exact Nat.pow_le_pow_right (by decide) h

set_option maxRecDepth 100000 in
set_option maxHeartbeats 8000000 in
theorem rf_core (t : List UInt8) (i0 : Nat) (neg : Bool) (w : World) (hs : t.length ≤ 1048576) (fin : RFS) (hfin : fin = rfL RFS.zero (t.drop i0)) (hok : okR false (t.drop i0) = true) (hdot : fin.dot = true) (hdig : fin.dig = true) (hdpb : -1048576 ≤ fin.dp ∧ fin.dp ≤ 1048576) (hnmb : fin.nm ≤ 19)
    (hi0 : i0 < t.length) (hsg : (i0 = 0 ∧ neg = false ∧ ∀ h : 0 < t.length, t[0].toNat ≠ 43 ∧ t[0].toNat ≠ 45) ∨ (i0 = 1 ∧ ∃ h : 0 < t.length, (neg = true ∧ t[0].toNat = 45 ∨ neg = false ∧ t[0].toNat = 43))) :
    Calls Tryz.prog 190 #[S t] w fun e w' => e = .returned (RFv fin neg t.length) ∧ w = w' := by
  obtain ⟨m0, hm0⟩ : ∃ m0, m0 = fin.m := ⟨_, rfl⟩
  obtain ⟨e0, he0⟩ : ∃ e0, e0 = expF fin := ⟨_, rfl⟩
  obtain ⟨p0, hp0⟩ : ∃ p0, p0 = fin.dp := ⟨_, rfl⟩
  obtain ⟨n0, hn0⟩ : ∃ n0, n0 = fin.nm := ⟨_, rfl⟩
  have hR : RFv fin neg t.length = .tuple #[.int .u64 m0, .int .i64 e0, .bool neg, .bool fin.tr, .bool false, .int .i64 t.length, .bool true] := by rw [hm0, he0]; rfl
  rw [hR]
  have hE : e0 = if m0 ≠ 0 then p0 - n0 else 0 := by rw [he0, hm0, hp0, hn0]; rfl
  have HE := Lib.hid hE
  have hb1 : -1048576 ≤ p0 ∧ p0 ≤ 1048576 := by rw [hp0]; exact hdpb
  have hb2 : n0 ≤ 19 := by rw [hn0]; exact hnmb
  have Hm0 := Lib.hid hm0
  have Hp0 := Lib.hid hp0
  have Hn0 := Lib.hid hn0
  clear hR hm0 he0 hp0 hn0 hE
  have tl : ¬ t = [] := by intro e; rw [e] at hi0; simp at hi0
  have Hok := Lib.hid hok
  have Hfin := Lib.hid hfin
  have Hsg := Lib.hid hsg
  have hi1 : i0 ≤ 1 := by omega
  have h0 : 0 < t.length := by omega
  clear hok hfin hsg
  go_enter Tryz.func190, Tryz.ntmps190
  go_wp2_with fail
  go_step3
  go_upto_block 0 with fail
  go_cut [4, 7] from 28 to 35 (fun v4 v7 wc => v4 = .bool neg ∧ v7 = .int .i64 i0 ∧ w = wc)
  case first =>
    rcases Hsg.out with ⟨rfl, rfl, hc⟩ | ⟨rfl, _, ⟨rfl, hc⟩ | ⟨rfl, hc⟩⟩
    · have hc0 := hc h0
      have t1 : ((((t[0]'h0).toNat : Nat) : Int) == 43) = false := by rw [beq_eq_false_iff_ne]; omega
      have t2 : ((((t[0]'h0).toNat : Nat) : Int) == 45) = false := by rw [beq_eq_false_iff_ne]; omega
      clear hc hc0
      go_wp2_with fail
      go_meet
      case rel => exact ⟨rfl, rfl, rfl⟩
    · have t1 : ((((t[0]'h0).toNat : Nat) : Int) == 43) = false := by rw [beq_eq_false_iff_ne]; omega
      have t2 : ((((t[0]'h0).toNat : Nat) : Int) == 45) = true := by rw [beq_iff_eq]; omega
      clear hc
      go_wp2_with fail
      go_meet
      case rel => exact ⟨rfl, rfl, rfl⟩
    · have t1 : ((((t[0]'h0).toNat : Nat) : Int) == 43) = true := by rw [beq_iff_eq]; omega
      clear hc
      go_wp2_with fail
      go_meet
      case rel => exact ⟨rfl, rfl, rfl⟩
  case rest =>
  obtain ⟨rfl, rfl, rfl⟩ := hcut
  have hmem := okR_mem _ _ Hok.out
  go_upto_region 12 with fail
  go_cut [46, 54] from 36 to 54 (fun v46 v54 wc => v54 = .bool false ∧ w = wc)
  case first =>
    by_cases h2 : i0 + 2 < t.length
    · have t2 : decide ((i0 : Int) + 2 < (t.length : Int)) = true := by rw [decide_eq_true_eq]; omega
      have hb : i0 + 1 < t.length := by omega
      have hx := hmem (t[i0 + 1]) (by
        have : t[i0 + 1] = (t.drop i0)[1]'(by rw [List.length_drop]; omega) := by rw [List.getElem_drop]
        rw [this]
        exact List.getElem_mem _)
      have tx := low_ne (x := t[i0 + 1].toNat) ⟨hx.1, hx.2.1⟩
      by_cases h48 : t[i0].toNat = 48
      · have t48 : (((t[i0].toNat : Nat) : Int) == 48) = true := by rw [beq_iff_eq]; omega
        clear h48 hmem hx
        go_wp2_with fail
        refine (dlower_any _ _).mono ?_
        rintro e w1 ⟨rfl, rfl⟩
        go_wp2_with fail
        go_meet
        case rel => exact ⟨rfl, rfl⟩
      · have t48 : (((t[i0].toNat : Nat) : Int) == 48) = false := by rw [beq_eq_false_iff_ne]; omega
        clear h48 hmem hx
        go_wp2_with fail
        go_meet
        case rel => exact ⟨rfl, rfl⟩
    · have t2 : decide ((i0 : Int) + 2 < (t.length : Int)) = false := by rw [decide_eq_false_iff_not]; omega
      clear hmem
      go_wp2_with fail
      go_meet
      case rel => exact ⟨rfl, rfl⟩
  case rest =>
  obtain ⟨rfl, rfl⟩ := hcut
  clear hmem
  go_wp2_with fail
  go_step3
  go_upto_block 1 with fail
  go_cut [2, 5, 7, 9, 13, 14, 15, 16, 17] from 57 to 138 (fun v2 v5 v7 v9 v13 v14 v15 v16 v17 wc => v2 = .int .u64 fin.m ∧ v5 = .bool fin.tr ∧ v7 = .int .i64 t.length ∧ v9 = .bool false ∧ v13 = .bool true ∧ v14 = .bool true ∧ v15 = .int .i64 fin.nd ∧ v16 = .int .i64 fin.nm ∧ v17 = .int .i64 fin.dp ∧ w = wc)
  case first =>
    go_wp2_with fail
    go_loopg [2, 5, 7, 9, 13, 14, 15, 16, 17] (t.length - i0) (fun g v2 v5 v7 v9 v13 v14 v15 v16 v17 wr => ∃ (i : Nat) (s : RFS) (N n a : Nat), v2 = .int .u64 s.m ∧ v5 = .bool s.tr ∧ v7 = .int .i64 i ∧ v9 = .bool false ∧ v13 = .bool s.dot ∧ v14 = .bool s.dig ∧ v15 = .int .i64 s.nd ∧ v16 = .int .i64 s.nm ∧ v17 = .int .i64 s.dp ∧
      g + i = t.length ∧ n ≤ i ∧ a ≤ n ∧ RIn s N n a ∧ rfL s (t.drop i) = fin ∧ okR s.dot (t.drop i) = true ∧ w = wr)
    case atStart => exact ⟨i0, RFS.zero, 0, 0, 0, rfl, rfl, rfl, rfl, rfl, rfl, rfl, rfl, rfl, by omega, by omega, by omega, RIn.zero, Hfin.out.symm, Hok.out, rfl⟩
    case round =>
      obtain ⟨i, ⟨dot, dig, d, nm, dp, m, tr⟩, N, n, a, rfl, rfl, rfl, rfl, rfl, rfl, rfl, rfl, rfl, hg, hni, han, hin, hrl, hokr, rfl⟩ := hrel
      dsimp only at *
      have q1 : d ≤ n := hin.h1
      have q2 : nm ≤ 19 := by have := hin.h2; dsimp only at this; omega
      have q3 : m < 10 ^ nm := hin.h3
      have q6 : -(n : Int) ≤ dp := hin.h6
      have q7 : dp ≤ (a : Int) := hin.h7
      have Hin := Lib.hid hin
      have Hg := Lib.hid hg
      clear hin hg
      by_cases hlt : i < t.length
      · rw [drop_at hlt] at hrl hokr
        rw [rfL, List.foldl_cons] at hrl
        have Hrl : Hid (rfL (rfS ⟨dot, dig, d, nm, dp, m, tr⟩ t[i]) (t.drop (i + 1)) = fin) := Lib.hid hrl
        clear hrl
        rw [okR] at hokr
        by_cases hb : digitB t[i] = true
        · rw [if_pos hb] at hokr
          have hb' : 48 ≤ t[i].toNat ∧ t[i].toNat ≤ 57 := by simpa [digitB] using hb
          have Hokr := Lib.hid hokr
          clear hokr hb
          have t95 : (((t[i].toNat : Nat) : Int) == 95) = false := by rw [beq_eq_false_iff_ne]; omega
          have t46 : (((t[i].toNat : Nat) : Int) == 46) = false := by rw [beq_eq_false_iff_ne]; omega
          have l1 : decide ((48 : Int) ≤ ((t[i].toNat : Nat) : Int)) = true := by rw [decide_eq_true_eq]; omega
          have l2 : decide (((t[i].toNat : Nat) : Int) ≤ 57) = true := by rw [decide_eq_true_eq]; omega
          by_cases hz : t[i].toNat = 48 ∧ d = 0
          · obtain ⟨hz1, hz2⟩ := hz
            have t48 : (((t[i].toNat : Nat) : Int) == 48) = true := by rw [beq_iff_eq]; omega
            have td : ((d : Int) == 0) = true := by rw [beq_iff_eq]; omega
            have Hz1 := Lib.hid hz1
            have Hz2 := Lib.hid hz2
            clear hz1 hz2
            go_wp2_with fail
            go_roundg (gk - 1)
            case measure => have := Hg.out; omega
            case rel =>
              have ev : rfS ⟨dot, dig, d, nm, dp, m, tr⟩ t[i] = ⟨dot, true, d, nm, dp - 1, m, tr⟩ := by unfold rfS; rw [if_neg (by omega), if_pos ⟨Hz1.out, Hz2.out⟩]
              have hr := Hrl.out
              have hn := Hin.out.digit hb'
              rw [ev] at hr hn
              exact ⟨i + 1, _, _, _, _, rfl, rfl, rfl, rfl, rfl, rfl, rfl, rfl, rfl, by have := Hg.out; omega, by omega, by split <;> omega, hn, hr, Hokr.out, rfl⟩
          · by_cases hnm : nm < 19
            · have tn : decide ((nm : Int) < 19) = true := by rw [decide_eq_true_eq]; omega
              have q4 : m < 1000000000000000000 := Nat.lt_of_lt_of_le q3 (pow_num (show nm ≤ 18 by omega) (by decide))
              have Hz := Lib.hid hz
              by_cases hx : t[i].toNat = 48
              · have t48 : (((t[i].toNat : Nat) : Int) == 48) = true := by rw [beq_iff_eq]; omega
                have td : ((d : Int) == 0) = false := by rw [beq_eq_false_iff_ne]; omega
                have Hx := Lib.hid hx
                clear hz hx
                go_wp2_with fail
                go_roundg (gk - 1)
                case measure => have := Hg.out; omega
                case rel =>
                  have ev : rfS ⟨dot, dig, d, nm, dp, m, tr⟩ t[i] = ⟨dot, true, d + 1, nm + 1, dp, m * 10 + (t[i].toNat - 48), tr⟩ := by unfold rfS; rw [if_neg (by omega), if_neg Hz.out, if_pos hnm]
                  have hr := Hrl.out
                  have hn := Hin.out.digit hb'
                  rw [ev] at hr hn
                  exact ⟨i + 1, _, _, _, _, congrArg _ (by dsimp only; omega), rfl, rfl, rfl, rfl, rfl, rfl, rfl, rfl, by have := Hg.out; omega, by omega, by split <;> omega, hn, hr, Hokr.out, rfl⟩
              · have t48 : (((t[i].toNat : Nat) : Int) == 48) = false := by rw [beq_eq_false_iff_ne]; omega
                have Hx := Lib.hid hx
                clear hz hx
                go_wp2_with fail
                go_roundg (gk - 1)
                case measure => have := Hg.out; omega
                case rel =>
                  have ev : rfS ⟨dot, dig, d, nm, dp, m, tr⟩ t[i] = ⟨dot, true, d + 1, nm + 1, dp, m * 10 + (t[i].toNat - 48), tr⟩ := by unfold rfS; rw [if_neg (by omega), if_neg Hz.out, if_pos hnm]
                  have hr := Hrl.out
                  have hn := Hin.out.digit hb'
                  rw [ev] at hr hn
                  exact ⟨i + 1, _, _, _, _, congrArg _ (by dsimp only; omega), rfl, rfl, rfl, rfl, rfl, rfl, rfl, rfl, by have := Hg.out; omega, by omega, by split <;> omega, hn, hr, Hokr.out, rfl⟩
            · have tn : decide ((nm : Int) < 19) = false := by rw [decide_eq_false_iff_not]; omega
              have Hz := Lib.hid hz
              by_cases hx : t[i].toNat = 48
              · have t48 : (((t[i].toNat : Nat) : Int) == 48) = true := by rw [beq_iff_eq]; omega
                have t48' : (((t[i].toNat : Nat) : Int) != 48) = false := by rw [bne, t48]; rfl
                have td : ((d : Int) == 0) = false := by rw [beq_eq_false_iff_ne]; omega
                have Hx := Lib.hid hx
                clear hz hx
                go_wp2_with fail
                go_roundg (gk - 1)
                case measure => have := Hg.out; omega
                case rel =>
                  have ev : rfS ⟨dot, dig, d, nm, dp, m, tr⟩ t[i] = ⟨dot, true, d + 1, nm, dp, m, tr⟩ := by unfold rfS; rw [if_neg (by omega), if_neg Hz.out, if_neg hnm]; simp [Hx.out]
                  have hr := Hrl.out
                  have hn := Hin.out.digit hb'
                  rw [ev] at hr hn
                  exact ⟨i + 1, _, _, _, _, rfl, rfl, rfl, rfl, rfl, rfl, rfl, rfl, rfl, by have := Hg.out; omega, by omega, by split <;> omega, hn, hr, Hokr.out, rfl⟩
              · have t48 : (((t[i].toNat : Nat) : Int) == 48) = false := by rw [beq_eq_false_iff_ne]; omega
                have t48' : (((t[i].toNat : Nat) : Int) != 48) = true := by rw [bne, t48]; rfl
                have Hx := Lib.hid hx
                clear hz hx
                go_wp2_with fail
                go_roundg (gk - 1)
                case measure => have := Hg.out; omega
                case rel =>
                  have ev : rfS ⟨dot, dig, d, nm, dp, m, tr⟩ t[i] = ⟨dot, true, d + 1, nm, dp, m, true⟩ := by unfold rfS; rw [if_neg (by omega), if_neg Hz.out, if_neg hnm]; simp [Hx.out]
                  have hr := Hrl.out
                  have hn := Hin.out.digit hb'
                  rw [ev] at hr hn
                  exact ⟨i + 1, _, _, _, _, rfl, rfl, rfl, rfl, rfl, rfl, rfl, rfl, rfl, by have := Hg.out; omega, by omega, by split <;> omega, hn, hr, Hokr.out, rfl⟩
        · rw [if_neg hb, Bool.and_eq_true, Bool.and_eq_true, decide_eq_true_eq] at hokr
          obtain ⟨⟨h46, hdt⟩, hokr⟩ := hokr
          have hdf : dot = false := by simpa using hdt
          subst hdf
          have Hokr := Lib.hid hokr
          have H46 := Lib.hid h46
          have t95 : (((t[i].toNat : Nat) : Int) == 95) = false := by rw [beq_eq_false_iff_ne]; omega
          have t46 : (((t[i].toNat : Nat) : Int) == 46) = true := by rw [beq_iff_eq]; omega
          clear hokr hb hdt h46
          go_wp2_with fail
          go_roundg (gk - 1)
          case measure => have := Hg.out; omega
          case rel =>
            have ev : rfS ⟨false, dig, d, nm, dp, m, tr⟩ t[i] = ⟨true, dig, d, nm, (d : Int), m, tr⟩ := by unfold rfS; rw [if_pos H46.out]
            have hr := Hrl.out
            have hn := Hin.out.point H46.out rfl
            rw [ev] at hr hn
            exact ⟨i + 1, _, _, _, _, rfl, rfl, rfl, rfl, rfl, rfl, rfl, rfl, rfl, by have := Hg.out; omega, by omega, by omega, hn, hr, Hokr.out, rfl⟩
      · have e : t.drop i = [] := List.drop_eq_nil_of_le (by omega)
        rw [e] at hrl
        have hrl : (⟨dot, dig, d, nm, dp, m, tr⟩ : RFS) = fin := hrl
        subst hrl
        have hii : i = t.length := by have := Hg.out; omega
        subst hii
        have ed : dot = true := hdot
        have eg : dig = true := hdig
        subst ed eg
        clear hdot hdig hokr e
        go_wp2_with fail
        go_meet
        case rel => exact ⟨rfl, rfl, rfl, rfl, rfl, rfl, rfl, rfl, rfl, rfl⟩
  case rest =>
  obtain ⟨rfl, rfl, rfl, rfl, rfl, rfl, rfl, rfl, rfl, rfl⟩ := hcut
  rw [← Hm0.out, ← Hp0.out, ← Hn0.out]
  by_cases hm : m0 = 0
  · subst hm
    have ee : e0 = 0 := by simpa using HE.out
    subst ee
    clear HE
    go_wp2_with fail
    rw [Exit.noGoto_ret]
    go_wp2_with fail
    refine bodyPost_ret (v := .tuple #[.int .u64 0, .int .i64 0, .bool neg, .bool fin.tr, .bool false, .int .i64 t.length, .bool true]) (by simp [results, Tryz.results190, go_sem]) rfl ?_
    exact ⟨rfl, rfl⟩
  · have tm : ((m0 : Int) != 0) = true := by rw [bne_iff_ne]; omega
    have ee : e0 = p0 - n0 := by rw [HE.out, if_pos hm]
    have Hm := Lib.hid hm
    subst ee
    clear HE hm
    go_wp2_with fail
    rw [Exit.noGoto_ret]
    go_wp2_with fail
    refine bodyPost_ret (v := .tuple #[.int .u64 m0, .int .i64 (p0 - n0), .bool neg, .bool fin.tr, .bool false, .int .i64 t.length, .bool true]) (by simp [results, Tryz.results190, go_sem]) rfl ?_
    exact ⟨rfl, rfl⟩
end Go.Proofs.YtcpijmbdibgdmaaGreatDoor

namespace Go.Proofs.YtcpijmbdibgdmaaGreatDoor
open Go.RowKit
attribute [local go_sem] ba_get store_flt

def DBc (arr : List UInt8) (n dp : Int) (neg tr : Bool) : Array Value := (arr.map bcell ++ ([.int .i64 n, .int .i64 dp, .bool neg, .bool tr] : List Value)).toArray
/-- A decimal: its 800 digits, how many of them count, where the point is, its two marks. -/
def DB (w : World) (p : Nat) (arr : List UInt8) (n dp : Int) (neg tr : Bool) : Prop := arr.length = 800 ∧ Blk w p 242 (DBc arr n dp neg tr)
section
variable {w w' : World} {p : Nat} {arr : List UInt8} {n dp : Int} {neg tr : Bool}
theorem DBc_lo (h : arr.length = 800) {i : Nat} (hi : i < 800) : (DBc arr n dp neg tr)[i]? = some (.int .u8 (arr[i]'(by omega)).toNat) := by
  unfold DBc
  rw [List.getElem?_toArray, List.getElem?_append_left (by rw [List.length_map]; omega), List.getElem?_map, List.getElem?_eq_getElem (by omega)]
  rfl
theorem DBc_hi (h : arr.length = 800) (i : Nat) : (DBc arr n dp neg tr)[800 + i]? = ([.int .i64 n, .int .i64 dp, .bool neg, .bool tr] : List Value)[i]? := by
  unfold DBc
  rw [List.getElem?_toArray, List.getElem?_append_right (by rw [List.length_map]; omega), List.length_map, h, Nat.add_sub_cancel_left]
theorem DB.d (h : DB w p arr n dp neg tr) {i : Nat} (hi : i < 800) : w.cell? ⟨p, i, none⟩ = some (.int .u8 (arr[i]'(by have := h.1; omega)).toNat) := (h.2.cell i).trans (DBc_lo h.1 hi)
theorem DB.cN (h : DB w p arr n dp neg tr) : w.cell? ⟨p, 800, none⟩ = some (.int .i64 n) := (h.2.cell 800).trans (DBc_hi h.1 0)
theorem DB.cP (h : DB w p arr n dp neg tr) : w.cell? ⟨p, 801, none⟩ = some (.int .i64 dp) := (h.2.cell 801).trans (DBc_hi h.1 1)
theorem DB.cG (h : DB w p arr n dp neg tr) : w.cell? ⟨p, 802, none⟩ = some (.bool neg) := (h.2.cell 802).trans (DBc_hi h.1 2)
theorem DB.cT (h : DB w p arr n dp neg tr) : w.cell? ⟨p, 803, none⟩ = some (.bool tr) := (h.2.cell 803).trans (DBc_hi h.1 3)
theorem DB.fz (h : DB w p arr n dp neg tr) (i : Nat) : w.frozen? ⟨p, i, none⟩ = false := h.2.frozen i
theorem DB.dv (h : DB w p arr n dp neg tr) {i c : Nat} (hi : arr[i]? = some (UInt8.ofNat c)) (hc : c < 256) : w.cell? ⟨p, i, none⟩ = some (.int .u8 c) := by
  obtain ⟨h1, h2⟩ := List.getElem?_eq_some_iff.1 hi
  rw [h.d (by have := h.1; omega), h2, UInt8.toNat_ofNat', Nat.mod_eq_of_lt hc]
theorem DBc_set (h : arr.length = 800) {i : Nat} (hi : i < 800) (b : UInt8) : (DBc arr n dp neg tr).setIfInBounds i (.int .u8 b.toNat) = DBc (arr.set i b) n dp neg tr := by
  unfold DBc
  rw [List.setIfInBounds_toArray, List.set_append_left _ _ (by rw [List.length_map]; omega), List.map_set]
theorem DBc_set2 (h : arr.length = 800) (i : Nat) (u : Value) : (DBc arr n dp neg tr).setIfInBounds (800 + i) u = (arr.map bcell ++ ([.int .i64 n, .int .i64 dp, .bool neg, .bool tr] : List Value).set i u).toArray := by
  unfold DBc
  rw [List.setIfInBounds_toArray, List.set_append_right _ _ (by rw [List.length_map]; omega), List.length_map, h, Nat.add_sub_cancel_left]
theorem DB.setD (h : DB w p arr n dp neg tr) {i : Nat} (hi : i < 800) (b : UInt8) {v : Value} (hv : v = .int .u8 b.toNat) : DB (w.setCell ⟨p, i, none⟩ v) p (arr.set i b) n dp neg tr := by
  subst hv
  refine ⟨by rw [List.length_set]; exact h.1, ?_⟩
  rw [← DBc_set h.1 hi]
  exact h.2.set_ i _
theorem DB.setN (h : DB w p arr n dp neg tr) (n' : Int) {v : Value} (hv : v = .int .i64 n') : DB (w.setCell ⟨p, 800, none⟩ v) p arr n' dp neg tr := by
  subst hv
  refine ⟨h.1, ?_⟩
  have := h.2.set_ (800 + 0) (.int .i64 n')
  rw [DBc_set2 h.1] at this
  exact this
theorem DB.setP (h : DB w p arr n dp neg tr) (n' : Int) {v : Value} (hv : v = .int .i64 n') : DB (w.setCell ⟨p, 801, none⟩ v) p arr n n' neg tr := by
  subst hv
  refine ⟨h.1, ?_⟩
  have := h.2.set_ (800 + 1) (.int .i64 n')
  rw [DBc_set2 h.1] at this
  exact this
theorem DB.setG (h : DB w p arr n dp neg tr) (b : Bool) {v : Value} (hv : v = .bool b) : DB (w.setCell ⟨p, 802, none⟩ v) p arr n dp b tr := by
  subst hv
  refine ⟨h.1, ?_⟩
  have := h.2.set_ (800 + 2) (.bool b)
  rw [DBc_set2 h.1] at this
  exact this
theorem DB.setT (h : DB w p arr n dp neg tr) (b : Bool) {v : Value} (hv : v = .bool b) : DB (w.setCell ⟨p, 803, none⟩ v) p arr n dp neg b := by
  subst hv
  refine ⟨h.1, ?_⟩
  have := h.2.set_ (800 + 3) (.bool b)
  rw [DBc_set2 h.1] at this
  exact this
theorem DB.drewN (h : DB w p arr n dp neg tr) (k : Nat) : DB (w.drewN k) p arr n dp neg tr := ⟨h.1, h.2.drewN k⟩
theorem DB.below {B : Nat} (h : DB w p arr n dp neg tr) (hb : Below B w w') (hp : p < B) : DB w' p arr n dp neg tr := ⟨h.1, h.2.below hb hp⟩
end
theorem Tryz.cells242 : Tryz.prog.cellsOf 242 = 804 := by kernel_rfl
theorem take_get {α : Type} {l m : List α} {n i : Nat} (h : l.take n = m) (hi : i < n) : l[i]? = m[i]? := by rw [← h, List.getElem?_take_of_lt hi]
theorem dg_last {arr : List UInt8} {N M z : Nat} (ht : arr.take (nd N) = dg N) (h : N = M * 10 ^ z) (h0 : M ≠ 0) : arr[nd M - 1]? = some (UInt8.ofNat (48 + M % 10)) := by
  have h1 : nd N = nd M + z := by rw [h]; exact nd_pow h0 z
  have h2 := nd_one h0
  rw [take_get ht (by omega)]
  have := dg_get z N (by omega)
  rw [show nd N - 1 - z = nd M - 1 by omega] at this
  rw [this, h, Nat.mul_div_cancel _ (ten_pos z)]
theorem dg_less {arr : List UInt8} {N : Nat} (ht : arr.take (nd N) = dg N) (h0 : N ≠ 0) : arr.take (nd (strip N)) = dg (strip N) := by
  obtain ⟨z, h1, h2⟩ := strip_nd h0
  have h3 := dg_take z N (by omega)
  have e : N / 10 ^ z = strip N := by
    have := Nat.mul_div_cancel (strip N) (ten_pos z)
    rw [← h1] at this
    exact this
  rw [e, ← ht, List.take_take] at h3
  rw [← h3]
  congr 1
  omega
theorem get_ {l : List UInt8} {i c : Nat} (h : l[i]? = some (UInt8.ofNat c)) (hi : i < l.length) (hc : c < 256) : (l[i]).toNat = c := by
  rw [List.getElem?_eq_getElem hi] at h
  injection h with h
  rw [h, UInt8.toNat_ofNat']
  omega

set_option maxRecDepth 100000 in
set_option maxHeartbeats 2000000 in
theorem dtrim_any (p N : Nat) (arr : List UInt8) (dp : Int) (neg tr : Bool) (w : World) (h : DB w p arr (nd N) dp neg tr) (h0 : N ≠ 0) (hn : nd N ≤ 800) (ht : arr.take (nd N) = dg N) :
    Calls Tryz.prog 214 #[.pointer (some ⟨p, 0, none⟩)] w fun e w' => e = .returned (.tuple #[]) ∧ DB w' p arr (nd (strip N)) dp neg tr ∧ Only w w' p := by
  go_enter Tryz.func214, Tryz.ntmps214
  go_wp2_with fail
  go_loopg [] (nd N) (fun g wr => ∃ M z, N = M * 10 ^ z ∧ M ≠ 0 ∧ nd M = g ∧ DB wr p arr g dp neg tr ∧ Only w wr p)
  case atStart => exact ⟨N, 0, by rw [Nat.pow_zero, Nat.mul_one], h0, rfl, h, only_refl _ _⟩
  case round =>
    obtain ⟨M, z, hM, hM0, hg, hD, hO⟩ := hrel
    have hz : nd N = nd M + z := by rw [hM]; exact nd_pow hM0 z
    have h1 := nd_one hM0
    obtain ⟨n, hn'⟩ : ∃ n, gk = n + 1 := ⟨gk - 1, by omega⟩
    subst hn'
    have hl := dg_last ht hM hM0
    rw [hg, Nat.add_sub_cancel] at hl
    have kn := hD.cN
    have kd := hD.dv hl (by omega)
    have kp := hD.cP
    have f0 := hD.fz 800
    have hn8 : n < 800 := by omega
    have Hg := Lib.hid hg
    have HM := Lib.hid hM
    have Ht := Lib.hid ht
    have Hl := Lib.hid hl
    clear hg hM hz hl h1 hn ht
    by_cases h10 : M % 10 = 0
    · rw [h10] at kd
      have t1 : decide ((0 : Int) < ((n + 1 : Nat) : Int)) = true := by rw [decide_eq_true_eq]; omega
      have H10 := Lib.hid h10
      clear h10
      go_wp2_with fail
      go_quiet (fail)
      go_wp2_with fail
      go_roundg n
      case measure => omega
      case rel =>
        have e := H10.out
        have e2 := HM.out
        have e3 : M = M / 10 * 10 := by omega
        refine ⟨M / 10, z + 1, ?_, by omega, ?_, (hD.drewN _).setN _ ?_, (by repeat first | with_reducible exact hO | refine only_drewN ?_ _ | refine only_set ?_ _ _ | refine only_drew ?_)⟩
        · rw [e2, Nat.pow_succ]
          conv => lhs; rw [e3]
          ac_rfl
        · have := nd_pos hM0
          have := Hg.out
          omega
        · simp
    · have t1 : decide ((0 : Int) < ((n + 1 : Nat) : Int)) = true := by rw [decide_eq_true_eq]; omega
      have t2 : (((48 + M % 10 : Nat) : Int) == 48) = false := by rw [beq_eq_false_iff_ne]; omega
      have t3 : (((n + 1 : Nat) : Int) == 0) = false := by rw [beq_eq_false_iff_ne]; omega
      have H10 := Lib.hid h10
      clear h10
      go_wp2_with fail
      go_quiet (fail)
      go_wp2_with fail
      go_end0
      have e : strip N = M := by
        rw [HM.out, strip_pow hM0, strip, dif_neg (by have := H10.out; omega)]
      rw [e]
      refine ⟨rfl, ?_, (by repeat first | with_reducible exact hO | refine only_drewN ?_ _ | refine only_set ?_ _ _ | refine only_drew ?_)⟩
      rw [Hg.out]
      exact hD
end Go.Proofs.YtcpijmbdibgdmaaGreatDoor
