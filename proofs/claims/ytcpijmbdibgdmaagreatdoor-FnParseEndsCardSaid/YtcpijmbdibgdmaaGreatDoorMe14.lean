/-
  package model: numbers and references.
  package model: integers and references.
  The spec's values: what seven cells and the memory behind them stand for.
  spec.reader.number: a word that is true, false, null, a number or the beginning of a reference.
  spec.reader.value and array: what they come to, as relations; the deferred closure of value.
-/
import Derived.Test.YtcpijmbdibgdmaaGreatDoorMe13
import Derived.Test.YtcpijmbdibgdmaaGreatDoorMe06
import Derived.Test.YtcpijmbdibgdmaaGreatDoorMe04
import Derived.Test.YtcpijmbdibgdmaaGreatDoorMe01
import Derived.Defers
import Derived.Deep.RegionWith
set_option linter.all false
namespace Go.Proofs.YtcpijmbdibgdmaaGreatDoor
open Go.RowKit
attribute [local go_sem] ba_get store_flt

def cRef : List UInt8 := [47, 60, 40, 91, 93, 62]

set_option maxHeartbeats 8000000 in
set_option maxRecDepth 100000 in
theorem num_pct (p : Nat) (W0 w : World) (hG : Glob W0) (hpf : PFBad W0) (hW : Below W0.heap.size W0 w) (hp : W0.heap.size ≤ p) (hL : Blk w p 9 #[S [37]]) :
    Calls Tryz.prog 120 #[.pointer (some ⟨p, 0, none⟩)] w fun e w' => ∃ v, IVal v ∧ OkP w p [] v e w' := by
  have c0 : w.cell? ⟨p, 0, none⟩ = some (S [37]) := hL.cell 0
  have f0 := hL.frozen 0
  have hpl := hL.lt
  have hno : ∀ n, Lib.atoiAll [37] ≠ .ok n := fun n h => by cases h
  go_enter Tryz.func120, Tryz.ntmps120
  go_wp2_with fail
  refine (noBuf_any p [37] w hL).mono ?_
  rintro e w0 ⟨rfl, rfl⟩
  rw [show (([37] : List UInt8).length == 0) = false from rfl]
  go_wp2_with fail
  refine (start_pct _).mono ?_
  rintro e w1 ⟨rfl, hB1⟩
  have c1 : w1.cell? ⟨p, 0, none⟩ = some (S [37]) := (hB1.cell (p := ⟨p, 0, none⟩) hpl).trans c0
  have f1 : w1.frozen? ⟨p, 0, none⟩ = false := (hB1.frozen (p := ⟨p, 0, none⟩) hpl).trans f0
  have hW1 : Below W0.heap.size W0 w1 := hW.trans (hB1.mono hW.size)
  go_wp2_with fail
  refine (atoi_all [37] W0 w1 hG hW1 (by decide)).mono ?_
  rintro e w2 ⟨⟨g, ev, rfl, hg⟩, hB2⟩
  rcases hg with ⟨hg, rfl⟩ | ⟨_, N, q, rfl, hN, hNs, hq⟩
  · exact absurd hg (hno g)
  have hW2 : Below W0.heap.size W0 w2 := hW1.trans (hB2.mono hW1.size)
  go_wp2_with fail
  refine (isRange_any N [37] q W0 w2 hG hW2 hq hN).mono ?_
  rintro e w3 ⟨⟨b, rfl⟩, n3, rfl⟩
  have hB13 : Below w.heap.size w (w2.drewN n3) := hB1.trans ((below_drewN hB2 n3).mono hB1.size)
  have hW3 : Below W0.heap.size W0 (w2.drewN n3) := below_drewN hW2 n3
  have c3 : (w2.drewN n3).cell? ⟨p, 0, none⟩ = some (S [37]) := (hB13.cell (p := ⟨p, 0, none⟩) hpl).trans c0
  have f3 : (w2.drewN n3).frozen? ⟨p, 0, none⟩ = false := (hB13.frozen (p := ⟨p, 0, none⟩) hpl).trans f0
  have hL3 : Blk (w2.drewN n3) p 9 #[S [37]] := hL.below hB13 hpl
  generalize w2.drewN n3 = w3 at *
  cases b with
  | true =>
    go_wp2_with fail
    refine bodyPost_ret (v := .tuple #[.iface 101 (.int .i64 0), .nilIface]) (by simp [results, Tryz.results120, go_sem]) rfl ?_
    exact ⟨_, .inr ⟨_, _, rfl⟩, rfl, by have := Blk.set_ hL3 0 (S []); simpa using this, only_set (only_of_below hB13) _ _⟩
  | false =>
    go_wp2_with fail
    refine calls_gen (fun wx => Blk wx p 9 #[S []] ∧ Only w wx p) ⟨by have := Blk.set_ hL3 0 (S []); simpa using this, only_set (only_of_below hB13) _ _⟩ ?_
    rintro wx ⟨hLx, hOx⟩
    refine (parseFloat_bad W0 wx hpf (since_only hW hOx hp)).mono ?_
    rintro e w5 ⟨rfl, hB5⟩
    go_wp2_with fail
    refine bodyPost_ret (v := .tuple #[.nilIface, .nilIface]) (by simp [results, Tryz.results120, go_sem]) rfl ?_
    exact ⟨_, .inl rfl, rfl, hLx.below hB5 hLx.lt, only_below hOx hB5⟩

set_option maxHeartbeats 8000000 in
set_option maxRecDepth 100000 in
theorem num_real (pf : List UInt8 → Nat) (t : List UInt8) (n1 p : Nat) (W0 w : World) (hG : Glob W0) (hpf : PFSaid pf W0) (hW : Below W0.heap.size W0 w) (hp : W0.heap.size ≤ p) (hs : t.length ≤ 1048576)
    (hcl : cleanM cNum t) (hnx : nextM cNum t = n1) (hn0 : 0 < n1) (hz : zeroOk (t.take n1)) (hr : numM (t.take n1) = .real) (hno : ∀ n, Lib.atoiAll (t.take n1) ≠ .ok n) (h44 : ∀ b ∈ t.take n1, b ≠ 44) (hL : Blk w p 9 #[S t]) :
    Calls Tryz.prog 120 #[.pointer (some ⟨p, 0, none⟩)] w fun e w' => ∃ v, IVal v ∧ OkP w p (t.drop n1) v e w' := by
  have c0 : w.cell? ⟨p, 0, none⟩ = some (S t) := hL.cell 0
  have f0 := hL.frozen 0
  have hpl := hL.lt
  have hnle := nextM_le cNum t
  rw [hnx] at hnle
  have hst := fun w => start_any t n1 w hs hcl hnx hn0 hz
  unfold startRet at hst
  obtain ⟨x, hx⟩ : ∃ x, x = t.take n1 := ⟨_, rfl⟩
  have hxl : x.length ≤ 1048576 := by rw [hx, List.length_take]; omega
  obtain ⟨r1, hr1⟩ : ∃ r1, r1 = t.drop n1 := ⟨_, rfl⟩
  obtain ⟨i1, hi1⟩ : ∃ i1 : Int, i1 = (if n1 < t.length then (n1 : Int) else -1) := ⟨_, rfl⟩
  rw [← hi1] at hst
  rw [← hx] at hst hr hno h44
  rw [← hr1] at hst ⊢
  have HH := Lib.hid (And.intro hr (And.intro hno h44))
  have tl : (t.length == 0) = false := by rw [beq_eq_false_iff_ne]; omega
  clear hx hr1 hi1 hr hno h44 hcl hz
  go_enter Tryz.func120, Tryz.ntmps120
  go_wp2_with fail
  refine (noBuf_any p t w hL).mono ?_
  rintro e w0 ⟨rfl, rfl⟩
  rw [tl]
  go_wp2_with fail
  refine (hst _).mono ?_
  rintro e w1 ⟨rfl, hB1⟩
  have hW1 : Below W0.heap.size W0 w1 := hW.trans (hB1.mono hW.size)
  go_wp2_with fail
  refine (atoi_all x W0 w1 hG hW1 hxl).mono ?_
  rintro e w2 ⟨⟨g, ev, rfl, hg⟩, hB2⟩
  rcases hg with ⟨hg, rfl⟩ | ⟨_, N, q, rfl, hN, hNs, hq⟩
  · exact absurd hg (HH.out.2.1 g)
  have hW2 : Below W0.heap.size W0 w2 := hW1.trans (hB2.mono hW1.size)
  go_wp2_with fail
  refine (isRange_any N x q W0 w2 hG hW2 hq hN).mono ?_
  rintro e w3 ⟨⟨b, rfl⟩, n3, rfl⟩
  have hB13 : Below w.heap.size w (w2.drewN n3) := hB1.trans ((below_drewN hB2 n3).mono hB1.size)
  have c3 : (w2.drewN n3).cell? ⟨p, 0, none⟩ = some (S t) := (hB13.cell (p := ⟨p, 0, none⟩) hpl).trans c0
  have f3 : (w2.drewN n3).frozen? ⟨p, 0, none⟩ = false := (hB13.frozen (p := ⟨p, 0, none⟩) hpl).trans f0
  have hL3 : Blk (w2.drewN n3) p 9 #[S t] := hL.below hB13 hpl
  clear hN hB2
  generalize w2.drewN n3 = w3 at *
  cases b with
  | true =>
    go_wp2_with fail
    refine bodyPost_ret (v := .tuple #[.iface 101 (.int .i64 0), .nilIface]) (by simp [results, Tryz.results120, go_sem]) rfl ?_
    exact ⟨_, .inr ⟨_, _, rfl⟩, rfl, by have := Blk.set_ hL3 0 (S r1); simpa using this, only_set (only_of_below hB13) _ _⟩
  | false =>
    go_wp2_with fail
    refine calls_gen (fun wx => Blk wx p 9 #[S r1] ∧ Only w wx p) ⟨by have := Blk.set_ hL3 0 (S r1); simpa using this, only_set (only_of_below hB13) _ _⟩ ?_
    rintro wx ⟨hLx, hOx⟩
    refine (parseFloat_real pf x W0 wx hpf HH.out.1 hxl HH.out.2.2 (since_only hW hOx hp)).mono ?_
    rintro e w5 ⟨⟨u, rfl⟩, hB5⟩
    go_wp2_with fail
    refine bodyPost_ret (v := .tuple #[.iface 102 u, .nilIface]) (by simp [results, Tryz.results120, go_sem]) rfl ?_
    exact ⟨_, .inr ⟨_, _, rfl⟩, rfl, hLx.below hB5 hLx.lt, only_below hOx hB5⟩
end Go.Proofs.YtcpijmbdibgdmaaGreatDoor

namespace Go.Proofs.YtcpijmbdibgdmaaGreatDoor
open Go.RowKit
attribute [local go_sem] ba_get store_flt

def TokN (r : List UInt8) : Prop := cleanM cRef r ∧ (nextM cRef r = 0 ∨ nextM cRef r = r.length ∨ ∃ h : nextM cRef r < r.length, dlB (r[nextM cRef r]'h) = true)
def TokW (r : List UInt8) : Prop := ∃ (j : Nat) (h : j < r.length), j < nextA cRef r ∧ (r[j]'h).toNat = 37
def TokR (r : List UInt8) (n2 m2 : Nat) : Prop := cleanM cRef r ∧ nextM cRef r = n2 ∧ 0 < n2 ∧ (∃ h : n2 < r.length, dlB (r[n2]'h) = false) ∧ (∀ g, Lib.atoiAll (r.take n2) = .ok g → Clear (r.drop n2) m2)
/-- What stands behind an integer, and whether it makes a reference (REF, then rest2 stands behind it). -/
def Behind (r1 rest2 : List UInt8) (REF : Prop) : Prop :=
  ∃ m, Clear r1 m ∧ (((r1.drop m = [] ∨ TokN (r1.drop m) ∨ TokW (r1.drop m)) ∧ ¬REF) ∨
    ∃ n2 m2, TokR (r1.drop m) n2 m2 ∧ (REF ↔ (∃ g, Lib.atoiAll ((r1.drop m).take n2) = .ok g) ∧ isR (((r1.drop m).drop n2).drop m2) = true) ∧ (REF → rest2 = (((r1.drop m).drop n2).drop m2).drop 1))

/-- No Atoi of a text that holds a sign of percent. -/
theorem pu10_bad : ∀ (l : List UInt8) (a : Nat), (∃ b ∈ l, b.toNat < 48 ∨ 57 < b.toNat) → ∀ u, Lib.parseUint10 a l ≠ .ok u
  | [], _, h => by simp at h
  | c :: l, a, h => by
    intro u hu
    rw [Lib.parseUint10] at hu
    by_cases hc : 48 ≤ c.toNat ∧ c.toNat ≤ 57
    · rw [if_pos hc] at hu
      split at hu
      · cases hu
      · split at hu
        · cases hu
        · obtain ⟨b, hb, hb2⟩ := h
          rw [List.mem_cons] at hb
          rcases hb with rfl | hb
          · omega
          · exact pu10_bad l _ ⟨b, hb, hb2⟩ u hu
    · rw [if_neg hc] at hu; cases hu
theorem mag_bad (l : List UInt8) (h : ∃ b ∈ l, b.toNat < 48 ∨ 57 < b.toNat) : ∀ u, Lib.parseMag l ≠ .ok u := by
  intro u hu
  unfold Lib.parseMag at hu
  by_cases hl : l = []
  · rw [if_pos hl] at hu; cases hu
  · rw [if_neg hl] at hu; exact pu10_bad l 0 h u hu
theorem atoi_bad (x : List UInt8) (h : ∃ b ∈ x, (b.toNat < 48 ∨ 57 < b.toNat) ∧ b.toNat ≠ 43 ∧ b.toNat ≠ 45) : ∀ g, Lib.atoiAll x ≠ .ok g := by
  intro g hg
  obtain ⟨b, hb, hb1, hb2, hb3⟩ := h
  rcases x with _ | ⟨c, r⟩
  · simp at hb
  · have hm : ∀ u, Lib.parseMag (if c.toNat = 43 ∨ c.toNat = 45 then r else c :: r) ≠ .ok u := by
      refine mag_bad _ ⟨b, ?_, hb1⟩
      by_cases hc : c.toNat = 43 ∨ c.toNat = 45
      · rw [if_pos hc]
        rw [List.mem_cons] at hb
        rcases hb with rfl | hb
        · omega
        · exact hb
      · rw [if_neg hc]; exact hb
    simp only [Lib.atoiAll] at hg
    cases hp : Lib.parseMag (if c.toNat = 43 ∨ c.toNat = 45 then r else c :: r) with
    | ok u => exact hm u hp
    | _ => rw [hp] at hg; cases hg
theorem atoi_pct (x : List UInt8) (h : ∃ b ∈ x, b.toNat = 37) : ∀ g, Lib.atoiAll x ≠ .ok g := by
  obtain ⟨b, hb, h37⟩ := h
  exact atoi_bad x ⟨b, hb, by omega, by omega, by omega⟩

set_option maxHeartbeats 8000000 in
set_option maxRecDepth 100000 in
theorem num_int (t : List UInt8) (n1 p : Nat) (n : Int) (rest2 : List UInt8) (REF : Prop) (W0 w : World) (hG : Glob W0) (hW : Below W0.heap.size W0 w) (hp : W0.heap.size ≤ p) (hs : t.length ≤ 1048576)
    (hcl : cleanM cNum t) (hnx : nextM cNum t = n1) (hn0 : 0 < n1) (hz : zeroOk (t.take n1)) (hok : Lib.atoiAll (t.take n1) = .ok n)
    (hend : (n1 = t.length ∨ ∃ h : n1 < t.length, dlB (t[n1]'h) = true) → ¬REF) (hgo : ∀ h : n1 < t.length, dlB (t[n1]'h) = false → Behind (t.drop n1) rest2 REF) (hL : Blk w p 9 #[S t]) :
    Calls Tryz.prog 120 #[.pointer (some ⟨p, 0, none⟩)] w fun e w' => ∃ v, (REF → IVal v ∧ OkP w p rest2 v e w') ∧ (¬REF → v = .iface 101 (.int .i64 n) ∧ OkP w p (t.drop n1) v e w') := by
  have c0 : w.cell? ⟨p, 0, none⟩ = some (S t) := hL.cell 0
  have f0 := hL.frozen 0
  have hpl := hL.lt
  have hnle := nextM_le cNum t
  rw [hnx] at hnle
  have hst := fun w => start_any t n1 w hs hcl hnx hn0 hz
  unfold startRet at hst
  obtain ⟨x, hx⟩ : ∃ x, x = t.take n1 := ⟨_, rfl⟩
  have hxl : x.length ≤ 1048576 := by rw [hx, List.length_take]; omega
  have hexn : (ByteArray.mk t.toArray).extract n1 t.length = ⟨(t.drop n1).toArray⟩ := by rw [ByteArray.extract_mk, List.take_of_length_le (by rw [List.length_drop]; omega)]
  obtain ⟨r1, hr1⟩ : ∃ r1, r1 = t.drop n1 := ⟨_, rfl⟩
  have hr1l : r1.length ≤ 1048576 := by rw [hr1, List.length_drop]; omega
  rw [← hx] at hst hok
  rw [← hr1] at hst hexn hgo ⊢
  have Hok := Lib.hid hok
  have Hend := Lib.hid hend
  have Hgo := Lib.hid hgo
  have tl : (t.length == 0) = false := by rw [beq_eq_false_iff_ne]; omega
  clear hx hr1 hok hend hgo hcl hz
  have hat := fun (w1 : World) (hW1 : Below W0.heap.size W0 w1) => atoi_any x n Hok.out hxl w1
  go_enter Tryz.func120, Tryz.ntmps120
  go_wp2_with fail
  refine (noBuf_any p t w hL).mono ?_
  rintro e w0 ⟨rfl, rfl⟩
  rw [tl]
  go_wp2_with fail
  refine (hst _).mono ?_
  rintro e w1 ⟨rfl, hB1⟩
  have hW1 : Below W0.heap.size W0 w1 := hW.trans (hB1.mono hW.size)
  by_cases hlt : n1 < t.length
  · rw [if_pos hlt]
    have tn : decide ((n1 : Int) ≤ 0) = false := by rw [decide_eq_false_iff_not]; omega
    go_wp2_with fail
    refine (atoi_any x n Hok.out hxl w1).mono ?_
    rintro e w2 ⟨rfl, hB2⟩
    have hB12 : Below w.heap.size w w2 := hB1.trans (hB2.mono hB1.size)
    have hW2 : Below W0.heap.size W0 w2 := hW.trans (hB12.mono hW.size)
    have c2 : w2.cell? ⟨p, 0, none⟩ = some (S t) := (hB12.cell (p := ⟨p, 0, none⟩) hpl).trans c0
    have f2 : w2.frozen? ⟨p, 0, none⟩ = false := (hB12.frozen (p := ⟨p, 0, none⟩) hpl).trans f0
    have hL2 : Blk w2 p 9 #[S t] := hL.below hB12 hpl
    have HB12 := Lib.hid hB12
    clear hB1 hB2 hB12 hW1
    go_wp2_with fail
    refine (delimiter_any t[n1] w2).mono ?_
    rintro e w3 ⟨rfl, rfl⟩
    cases hd : dlB t[n1] with
    | true =>
      have Hd := Lib.hid hd
      clear hd
      go_wp2_with fail
      refine bodyPost_ret (v := .tuple #[.iface 101 (.int .i64 n), .nilIface]) (by simp [results, Tryz.results120, go_sem]) rfl ?_
      exact ⟨_, fun h => absurd h (Hend.out (.inr ⟨hlt, Hd.out⟩)), fun _ => ⟨rfl, rfl, by have := Blk.set_ hL2 0 (S r1); simpa using this, only_set (only_of_below HB12.out) _ _⟩⟩
    | false =>
      have hbeh := Hgo.out hlt hd
      clear hd
      obtain ⟨m, hcm, hcase⟩ := hbeh
      have Hcase := Lib.hid hcase
      have Hcm := Lib.hid hcm
      clear hcase hcm
      go_wp2_with fail
      refine (trim_any r1 m w2 hr1l Hcm.out).mono ?_
      rintro e w4 ⟨⟨r, rfl, hr⟩, hB4⟩
      have hB14 : Below w.heap.size w w4 := HB12.out.trans (hB4.mono HB12.out.size)
      have hW4 : Below W0.heap.size W0 w4 := hW.trans (hB14.mono hW.size)
      have c4 : w4.cell? ⟨p, 0, none⟩ = some (S t) := (hB14.cell (p := ⟨p, 0, none⟩) hpl).trans c0
      have f4 : w4.frozen? ⟨p, 0, none⟩ = false := (hB14.frozen (p := ⟨p, 0, none⟩) hpl).trans f0
      have hL4 : Blk w4 p 9 #[S t] := hL.below hB14 hpl
      have HB14 := Lib.hid hB14
      clear hB4 hB14 c2 f2 hL2
      have hnil : r1.drop m = [] → ¬REF := fun h => by
        rcases Hcase.out with ⟨_, h1⟩ | ⟨n2, m2, ⟨_, _, h2, ⟨h3, _⟩, _⟩, _⟩
        · exact h1
        · rw [h] at h3; simp at h3
      have Hnil := Lib.hid hnil
      have Hr := Lib.hid hr
      have hrl : r.length ≤ 1048576 := by
        rcases hr with h | ⟨_, h⟩
        · rw [h, List.length_drop]; omega
        · rw [h]; decide
      clear hnil hr
      by_cases h0 : r.length = 0
      · have t0 : ((r.length : Int) == 0) = true := by rw [beq_iff_eq]; omega
        have hnr : ¬REF := by
          rcases Hr.out with h | ⟨_, h⟩
          · exact Hnil.out (by rw [← h]; exact List.eq_nil_of_length_eq_zero h0)
          · rw [h] at h0; cases h0
        have Hnr := Lib.hid hnr
        clear hnr h0
        go_wp2_with fail
        refine bodyPost_ret (v := .tuple #[.iface 101 (.int .i64 n), .nilIface]) (by simp [results, Tryz.results120, go_sem]) rfl ?_
        exact ⟨_, fun h => absurd h (Hnr.out), fun _ => ⟨rfl, rfl, by have := Blk.set_ hL4 0 (S r1); simpa using this, only_set (only_of_below HB14.out) _ _⟩⟩
      · have t0 : ((r.length : Int) == 0) = false := by rw [beq_eq_false_iff_ne]; omega
        have hr0 : 0 < r.length := by omega
        have hexr : ∀ i, (ByteArray.mk r.toArray).extract 0 i = ⟨(r.take i).toArray⟩ := fun i => by rw [ByteArray.extract_mk]; simp
        clear h0
        go_wp2_with fail
        have HEXACT : cleanM cRef r → Calls Tryz.prog 139 #[S r, S cRef] w4 fun e w' => e = .returned (nextRet cRef r) ∧ Below w4.heap.size w4 w' := fun hc => next_any cRef r w4 hrl (by decide) (by decide) (by decide) hc
        have HWEAK := next_weak cRef r w4 hrl (by decide) (by decide) (by decide)
        have He := Lib.hid HEXACT
        have Hw := Lib.hid HWEAK
        clear HEXACT HWEAK
        rcases hc37 : (decide (r = [37]) : Bool) with _ | _
        · have hrd : r = r1.drop m := by
            rcases Hr.out with h | ⟨_, h⟩
            · exact h
            · rw [h] at hc37; cases hc37
          have Hrd := Lib.hid hrd
          clear hc37 hrd
          rcases Hcase.out with ⟨h1, hno⟩ | ⟨n2, m2, ⟨hc, hn2, hn20, ⟨hn2l, hd2⟩, hcl2⟩, hiff, hrest⟩
          · rw [← Hrd.out] at h1
            have Hno := Lib.hid hno
            clear hno
            rcases h1 with h1 | ⟨hc, h1⟩ | ⟨j, hj, hja, hj37⟩
            · rw [h1] at hr0; simp at hr0
            · refine (He.out hc).mono ?_
              unfold nextRet
              rintro e w5 ⟨rfl, hB5⟩
              have hnl := nextM_le cRef r
              obtain ⟨i2, hi2⟩ : ∃ i2, i2 = nextM cRef r := ⟨_, rfl⟩
              rw [← hi2] at h1 hnl ⊢
              clear hi2 hc
              have hB15 : Below w.heap.size w w5 := HB14.out.trans (hB5.mono HB14.out.size)
              have HW5 := Lib.hid (hW.trans (hB15.mono hW.size))
              have c5 : w5.cell? ⟨p, 0, none⟩ = some (S t) := (hB15.cell (p := ⟨p, 0, none⟩) hpl).trans c0
              have f5 : w5.frozen? ⟨p, 0, none⟩ = false := (hB15.frozen (p := ⟨p, 0, none⟩) hpl).trans f0
              have hL5 : Blk w5 p 9 #[S t] := hL.below hB15 hpl
              have HB15 := Lib.hid hB15
              clear hB5 hB15 c4 f4 hL4
              by_cases hl2 : i2 < r.length
              · rw [if_pos hl2, if_pos hl2]
                by_cases hz2 : i2 = 0
                · subst hz2
                  have tz : decide ((0 : Int) ≤ 0) = true := by decide
                  go_wp2_with fail
                  refine bodyPost_ret (v := .tuple #[.iface 101 (.int .i64 n), .nilIface]) (by simp [results, Tryz.results120, go_sem]) rfl ?_
                  exact ⟨_, fun h => absurd h (Hno.out), fun _ => ⟨rfl, rfl, by have := Blk.set_ hL5 0 (S r1); simpa using this, only_set (only_of_below HB15.out) _ _⟩⟩
                · have tz : decide ((i2 : Int) ≤ 0) = false := by rw [decide_eq_false_iff_not]; omega
                  have hdl : dlB r[i2] = true := by
                    rcases h1 with h1 | h1 | ⟨_, h1⟩
                    · exact absurd h1 hz2
                    · omega
                    · exact h1
                  have Hdl := Lib.hid hdl
                  have hp2 : 0 < i2 := by omega
                  clear h1 hz2 hdl
                  go_wp2_with fail
                  refine (delimiter_any r[i2] w5).mono ?_
                  rintro e w6 ⟨rfl, rfl⟩
                  rw [Hdl.out]
                  go_wp2_with fail
                  refine bodyPost_ret (v := .tuple #[.iface 101 (.int .i64 n), .nilIface]) (by simp [results, Tryz.results120, go_sem]) rfl ?_
                  exact ⟨_, fun h => absurd h (Hno.out), fun _ => ⟨rfl, rfl, by have := Blk.set_ hL5 0 (S r1); simpa using this, only_set (only_of_below HB15.out) _ _⟩⟩
              · rw [if_neg hl2, if_neg hl2]
                clear h1
                go_wp2_with fail
                refine bodyPost_ret (v := .tuple #[.iface 101 (.int .i64 n), .nilIface]) (by simp [results, Tryz.results120, go_sem]) rfl ?_
                exact ⟨_, fun h => absurd h (Hno.out), fun _ => ⟨rfl, rfl, by have := Blk.set_ hL5 0 (S r1); simpa using this, only_set (only_of_below HB15.out) _ _⟩⟩
            · refine Hw.out.mono ?_
              rintro e w5 ⟨hres, hB5⟩
              have hB15 : Below w.heap.size w w5 := HB14.out.trans (hB5.mono HB14.out.size)
              have HW5 := Lib.hid (hW.trans (hB15.mono hW.size))
              have c5 : w5.cell? ⟨p, 0, none⟩ = some (S t) := (hB15.cell (p := ⟨p, 0, none⟩) hpl).trans c0
              have f5 : w5.frozen? ⟨p, 0, none⟩ = false := (hB15.frozen (p := ⟨p, 0, none⟩) hpl).trans f0
              have hL5 : Blk w5 p 9 #[S t] := hL.below hB15 hpl
              have HB15 := Lib.hid hB15
              clear hB5 hB15 c4 f4 hL4
              rcases hres with rfl | ⟨i, hia, hil, rfl⟩
              · clear hja
                go_wp2_with fail
                refine bodyPost_ret (v := .tuple #[.iface 101 (.int .i64 n), .nilIface]) (by simp [results, Tryz.results120, go_sem]) rfl ?_
                exact ⟨_, fun h => absurd h (Hno.out), fun _ => ⟨rfl, rfl, by have := Blk.set_ hL5 0 (S r1); simpa using this, only_set (only_of_below HB15.out) _ _⟩⟩
              · have hji : j < i := by omega
                have tz : decide ((i : Int) ≤ 0) = false := by rw [decide_eq_false_iff_not]; omega
                have hpc : ∃ b ∈ r.take i, b.toNat = 37 := ⟨r[j], by rw [List.mem_take_iff_getElem]; exact ⟨j, by omega, rfl⟩, hj37⟩
                have Hpc := Lib.hid hpc
                clear hja hia hj37 hpc
                go_wp2_with fail
                refine (delimiter_any r[i] w5).mono ?_
                rintro e w6 ⟨rfl, rfl⟩
                cases hdi : dlB r[i] with
                | true =>
                  go_wp2_with fail
                  refine bodyPost_ret (v := .tuple #[.iface 101 (.int .i64 n), .nilIface]) (by simp [results, Tryz.results120, go_sem]) rfl ?_
                  exact ⟨_, fun h => absurd h (Hno.out), fun _ => ⟨rfl, rfl, by have := Blk.set_ hL5 0 (S r1); simpa using this, only_set (only_of_below HB15.out) _ _⟩⟩
                | false =>
                  go_wp2_with fail
                  refine (indRef_any (r.take i) r r1 n i 0 p W0 _ hG HW5.out hp (by rw [List.length_take]; omega) hrl hil (fun g hg => absurd hg (atoi_pct _ Hpc.out g)) hL5).mono ?_
                  rintro e w7 ⟨v, _, hv⟩
                  obtain ⟨rfl, rfl, hb, ho⟩ := hv (fun ⟨⟨g, hg⟩, _⟩ => atoi_pct _ Hpc.out g hg)
                  go_wp2_with fail
                  refine bodyPost_ret (v := .tuple #[.iface 101 (.int .i64 n), .nilIface]) (by simp [results, Tryz.results120, go_sem]) rfl ?_
                  exact ⟨_, fun h => absurd h Hno.out, fun _ => ⟨rfl, rfl, hb, only_trans (only_of_below HB15.out) ho⟩⟩
          · rw [← Hrd.out] at hc hn2 hn2l hcl2 hiff hrest
            refine (He.out hc).mono ?_
            unfold nextRet
            rw [hn2, if_pos hn2l, if_pos hn2l]
            rintro e w5 ⟨rfl, hB5⟩
            have hB15 : Below w.heap.size w w5 := HB14.out.trans (hB5.mono HB14.out.size)
            have HW5 := Lib.hid (hW.trans (hB15.mono hW.size))
            have c5 : w5.cell? ⟨p, 0, none⟩ = some (S t) := (hB15.cell (p := ⟨p, 0, none⟩) hpl).trans c0
            have f5 : w5.frozen? ⟨p, 0, none⟩ = false := (hB15.frozen (p := ⟨p, 0, none⟩) hpl).trans f0
            have hL5 : Blk w5 p 9 #[S t] := hL.below hB15 hpl
            have HB15 := Lib.hid hB15
            clear hB5 hB15 c4 f4 hL4
            have tz : decide ((n2 : Int) ≤ 0) = false := by rw [decide_eq_false_iff_not]; omega
            have tg : decide ((0 : Int) < (n2 : Int)) = true := by rw [decide_eq_true_eq]; omega
            have hd3 : dlB r[n2] = false := by have h := Hrd.out; simp only [h]; exact hd2
            have Hd3 := Lib.hid hd3
            have Hcl2 := Lib.hid hcl2
            have Hiff := Lib.hid hiff
            have Hrest := Lib.hid hrest
            clear hc hn2 hd2 hcl2 hiff hrest hd3
            go_wp2_with fail
            refine (delimiter_any r[n2] w5).mono ?_
            rintro e w6 ⟨rfl, rfl⟩
            rw [Hd3.out]
            go_wp2_with fail
            refine (indRef_any (r.take n2) r r1 n n2 m2 p W0 _ hG HW5.out hp (by rw [List.length_take]; omega) hrl hn2l Hcl2.out hL5).mono ?_
            rintro e w7 ⟨v, hv1, hv2⟩
            by_cases hA : (∃ g, Lib.atoiAll (r.take n2) = .ok g) ∧ isR ((r.drop n2).drop m2) = true
            · obtain ⟨hiv, rfl, hb, ho⟩ := hv1 hA
              have HA := Lib.hid hA
              clear hA hv1 hv2
              go_wp2_with fail
              refine bodyPost_ret (v := .tuple #[v, .nilIface]) (by simp [results, Tryz.results120, go_sem]) rfl ?_
              have hR := Hiff.out.2 HA.out
              exact ⟨_, fun _ => ⟨hiv, rfl, by rw [Hrest.out hR]; exact hb, only_trans (only_of_below HB15.out) ho⟩, fun h => absurd hR h⟩
            · obtain ⟨rfl, rfl, hb, ho⟩ := hv2 hA
              have HA := Lib.hid hA
              clear hA hv1 hv2
              go_wp2_with fail
              refine bodyPost_ret (v := .tuple #[.iface 101 (.int .i64 n), .nilIface]) (by simp [results, Tryz.results120, go_sem]) rfl ?_
              exact ⟨_, fun h => absurd (Hiff.out.1 h) HA.out, fun _ => ⟨rfl, rfl, hb, only_trans (only_of_below HB15.out) ho⟩⟩
        · have hr37 : r = [37] := by simpa using hc37
          have hnr : ¬REF := by
            rcases Hr.out with h | ⟨h, _⟩
            · rcases Hcase.out with ⟨_, h1⟩ | ⟨n2, m2, ⟨_, _, h2, ⟨h3, _⟩, _⟩, _⟩
              · exact h1
              · rw [← h, hr37] at h3; simp at h3; omega
            · exact Hnil.out (List.drop_eq_nil_of_le (by omega))
          have Hno := Lib.hid hnr
          clear hnr hc37
          subst hr37
          refine (He.out ⟨by decide, fun _ => trivial⟩).mono ?_
          rw [show nextRet cRef [37] = .tuple #[.int .i64 (-1), S [37]] from rfl]
          rintro e w5 ⟨rfl, hB5⟩
          have hB15 : Below w.heap.size w w5 := HB14.out.trans (hB5.mono HB14.out.size)
          have HW5 := Lib.hid (hW.trans (hB15.mono hW.size))
          have c5 : w5.cell? ⟨p, 0, none⟩ = some (S t) := (hB15.cell (p := ⟨p, 0, none⟩) hpl).trans c0
          have f5 : w5.frozen? ⟨p, 0, none⟩ = false := (hB15.frozen (p := ⟨p, 0, none⟩) hpl).trans f0
          have hL5 : Blk w5 p 9 #[S t] := hL.below hB15 hpl
          have HB15 := Lib.hid hB15
          clear hB5 hB15 c4 f4 hL4
          go_wp2_with fail
          refine bodyPost_ret (v := .tuple #[.iface 101 (.int .i64 n), .nilIface]) (by simp [results, Tryz.results120, go_sem]) rfl ?_
          exact ⟨_, fun h => absurd h (Hno.out), fun _ => ⟨rfl, rfl, by have := Blk.set_ hL5 0 (S r1); simpa using this, only_set (only_of_below HB15.out) _ _⟩⟩
  · rw [if_neg hlt]
    go_wp2_with fail
    refine (atoi_any x n Hok.out hxl w1).mono ?_
    rintro e w2 ⟨rfl, hB2⟩
    have hB12 : Below w.heap.size w w2 := hB1.trans (hB2.mono hB1.size)
    have c2 : w2.cell? ⟨p, 0, none⟩ = some (S t) := (hB12.cell (p := ⟨p, 0, none⟩) hpl).trans c0
    have f2 : w2.frozen? ⟨p, 0, none⟩ = false := (hB12.frozen (p := ⟨p, 0, none⟩) hpl).trans f0
    have hL2 : Blk w2 p 9 #[S t] := hL.below hB12 hpl
    go_wp2_with fail
    refine bodyPost_ret (v := .tuple #[.iface 101 (.int .i64 n), .nilIface]) (by simp [results, Tryz.results120, go_sem]) rfl ?_
    exact ⟨_, fun h => absurd h (Hend.out (.inl (by omega))), fun _ => ⟨rfl, rfl, by have := Blk.set_ hL2 0 (S r1); simpa using this, only_set (only_of_below hB12) _ _⟩⟩
end Go.Proofs.YtcpijmbdibgdmaaGreatDoor

namespace Go.Proofs.YtcpijmbdibgdmaaGreatDoor
open Go.RowKit

inductive SVal where
  | null
  | bool (b : Bool)
  | int (n : Int)
  | real (x : Nat)
  | str (l : List UInt8)
  | name (l : List UInt8)
  | arr (l : List SVal)
  | dict (ks : List (List UInt8)) (l : List SVal)
  | ref (n g : Int)

def sv7 (kd n g : Int) (x : Nat) (t : List UInt8) (ks vs : Value) : List Value := [.int .i64 kd, .int .i64 n, .int .i64 g, .float .f64 x, S t, ks, vs]
def sNil : Value := .slice none 0 0
mutual
/-- These seven cells are that value; the blocks that it lies in are all of F. -/
def VRep (w : World) (F : Nat → Prop) : SVal → List Value → Prop
  | .null, c => c = sv7 0 0 0 0 [] sNil sNil
  | .bool b, c => c = sv7 1 (if b then 1 else 0) 0 0 [] sNil sNil
  | .int n, c => c = sv7 2 n 0 0 [] sNil sNil
  | .real x, c => c = sv7 3 0 0 x [] sNil sNil
  | .str l, c => c = sv7 4 0 0 0 l sNil sNil
  | .name l, c => c = sv7 5 0 0 0 l sNil sNil
  | .arr l, c => ∃ v xs, c = sv7 6 0 0 0 [] sNil v ∧ w.ownsRow 0 34 7 v l.length xs ∧ (∀ g, v.ownBlock = some g → F g) ∧ KRep w F l xs
  | .dict ks l, c => ∃ k v xs, c = sv7 7 0 0 0 [] k v ∧ w.ownsRow 0 9 1 k ks.length (ks.map S) ∧ (∀ g, k.ownBlock = some g → F g) ∧ w.ownsRow 0 34 7 v l.length xs ∧ (∀ g, v.ownBlock = some g → F g) ∧ KRep w F l xs
  | .ref n g, c => c = sv7 8 n g 0 [] sNil sNil
/-- These cells, seven by seven, are those values. -/
def KRep (w : World) (F : Nat → Prop) : List SVal → List Value → Prop
  | [], xs => xs = []
  | v :: l, xs => ∃ c ys, xs = c ++ ys ∧ c.length = 7 ∧ VRep w F v c ∧ KRep w F l ys
end

theorem ownsRow_keep {w w' : World} {e : TypeId} {size n : Nat} {v : Value} {xs : List Value} (h : w.ownsRow 0 e size v n xs) (hb : ∀ g, v.ownBlock = some g → w'.heap[g]? = w.heap[g]?) : w'.ownsRow 0 e size v n xs := by
  refine ⟨h.1, ?_⟩
  rcases h.2 with hn | ⟨g, cap, cur, hv, hbg, hg, rest⟩
  · exact .inl hn
  · refine .inr ⟨g, cap, cur, hv, hbg, ?_, rest⟩
    rw [hb g (by rw [hv]; rfl)]
    exact hg
theorem ownsRow_lt {w : World} {e : TypeId} {size n : Nat} {v : Value} {xs : List Value} (h : w.ownsRow 0 e size v n xs) : ∀ g, v.ownBlock = some g → g < w.heap.size := by
  intro g hg
  exact (World.ownsRow.lt h g hg).2

mutual
theorem VRep.mono {w w' : World} {F F' : Nat → Prop} (hk : ∀ i, F i → i < w.heap.size → w'.heap[i]? = w.heap[i]? ∧ F' i) : ∀ (v : SVal) (c : List Value), VRep w F v c → VRep w' F' v c
  | .null, c, h => by unfold VRep at h ⊢; exact h
  | .bool b, c, h => by unfold VRep at h ⊢; exact h
  | .int n, c, h => by unfold VRep at h ⊢; exact h
  | .real x, c, h => by unfold VRep at h ⊢; exact h
  | .str l, c, h => by unfold VRep at h ⊢; exact h
  | .name l, c, h => by unfold VRep at h ⊢; exact h
  | .ref n g, c, h => by unfold VRep at h ⊢; exact h
  | .arr l, c, h => by
    unfold VRep at h ⊢
    obtain ⟨v, xs, h1, h2, h3, h4⟩ := h
    exact ⟨v, xs, h1, ownsRow_keep h2 (fun g hg => (hk g (h3 g hg) (ownsRow_lt h2 g hg)).1), fun g hg => (hk g (h3 g hg) (ownsRow_lt h2 g hg)).2, KRep.mono hk l xs h4⟩
  | .dict ks l, c, h => by
    unfold VRep at h ⊢
    obtain ⟨k, v, xs, h1, h5, h6, h2, h3, h4⟩ := h
    exact ⟨k, v, xs, h1, ownsRow_keep h5 (fun g hg => (hk g (h6 g hg) (ownsRow_lt h5 g hg)).1), fun g hg => (hk g (h6 g hg) (ownsRow_lt h5 g hg)).2,
      ownsRow_keep h2 (fun g hg => (hk g (h3 g hg) (ownsRow_lt h2 g hg)).1), fun g hg => (hk g (h3 g hg) (ownsRow_lt h2 g hg)).2, KRep.mono hk l xs h4⟩
theorem KRep.mono {w w' : World} {F F' : Nat → Prop} (hk : ∀ i, F i → i < w.heap.size → w'.heap[i]? = w.heap[i]? ∧ F' i) : ∀ (l : List SVal) (xs : List Value), KRep w F l xs → KRep w' F' l xs
  | [], xs, h => by unfold KRep at h ⊢; exact h
  | v :: l, xs, h => by
    unfold KRep at h ⊢
    obtain ⟨c, ys, h1, h2, h3, h4⟩ := h
    exact ⟨c, ys, h1, h2, VRep.mono hk v c h3, KRep.mono hk l ys h4⟩
end
theorem VRep.len {w : World} {F : Nat → Prop} : ∀ (v : SVal) (c : List Value), VRep w F v c → c.length = 7 := by
  intro v c h
  cases v <;> unfold VRep at h <;> first | (rw [h]; rfl) | (obtain ⟨_, _, rfl, _⟩ := h; rfl) | (obtain ⟨_, _, _, rfl, _⟩ := h; rfl)
theorem KRep.snoc {w : World} {F : Nat → Prop} {v : SVal} {c : List Value} (hv : VRep w F v c) : ∀ (l : List SVal) (xs : List Value), KRep w F l xs → KRep w F (l ++ [v]) (xs ++ c)
  | [], xs, h => by
    unfold KRep at h; subst h
    unfold KRep
    exact ⟨c, [], by simp, VRep.len v c hv, hv, by unfold KRep; rfl⟩
  | u :: l, xs, h => by
    unfold KRep at h
    obtain ⟨d, ys, rfl, h2, h3, h4⟩ := h
    show KRep w F (u :: (l ++ [v])) _
    unfold KRep
    exact ⟨d, ys ++ c, by simp, h2, h3, KRep.snoc hv l ys h4⟩
end Go.Proofs.YtcpijmbdibgdmaaGreatDoor

namespace Go.Proofs.YtcpijmbdibgdmaaGreatDoor
open Go.RowKit
attribute [local go_sem] ba_get store_flt

def vBool (b : Int) : Array Value := #[.int .i64 1, .int .i64 b, .int .i64 0, .float .f64 0, S [], .slice none 0 0, .slice none 0 0]
def vStr (kd : Int) (l : List UInt8) : Array Value := #[.int .i64 kd, .int .i64 0, .int .i64 0, .float .f64 0, S l, .slice none 0 0, .slice none 0 0]
/-- The cells of a value that is no array and no dictionary. -/
def SVal.flat : SVal → Array Value
  | .null => vZero
  | .bool b => vBool (if b then 1 else 0)
  | .int n => vInt n
  | .real x => vReal x
  | .str l => vStr 4 l
  | .name l => vStr 5 l
  | .ref n g => vRef n g
  | _ => vZero
def badOf (bad code : Nat) : Nat := if code = 0 then bad else if bad = 0 then code else bad
def numF (pf : List UInt8 → Nat) (s : List UInt8) (k : Nat) (odd : Bool) : SVal × Nat × Bool × Nat :=
  let w1 := wordAt s k odd
  if w1.1 = [116, 114, 117, 101] then (.bool true, w1.2.1, w1.2.2, 0)
  else if w1.1 = [102, 97, 108, 115, 101] then (.bool false, w1.2.1, w1.2.2, 0)
  else if w1.1 = [110, 117, 108, 108] then (.null, w1.2.1, w1.2.2, 0)
  else match numM w1.1 with
    | .refused => (.null, w1.2.1, w1.2.2, 1)
    | .open_ => (.null, w1.2.1, w1.2.2, 2)
    | .real => (.real (pf w1.1), w1.2.1, w1.2.2, 0)
    | .int n => match refM s w1.2.1 w1.2.2 n w1.1 with
      | (.int, p) => (.int n, p.1, p.2, 0)
      | (.ref g, p) => (.ref n g, p.1, p.2, 0)
      | (.zero, p) => (.null, p.1, p.2, 2)
def NumbPost (w : World) (r : Nat) (s : List UInt8) (bad deep : Nat) (ends : Bool) (fin : SVal × Nat × Bool × Nat) (e : Ending) (w' : World) : Prop :=
  e = .returned (.agg fin.1.flat) ∧ fin.2.1 ≤ s.length ∧ Rd w' r s fin.2.1 (badOf bad fin.2.2.2) deep fin.2.2.1 ends ∧ Only w w' r

theorem numM_bound {t : List UInt8} {n : Int} (h : numM t = .int n) : -2147483648 ≤ n ∧ n ≤ 2147483647 := by
  unfold numM at h
  split at h
  · cases h
  · split at h
    · cases h
    · split at h
      · cases h
      · split at h
        · cases h
        · split at h
          · split at h
            · cases h
            · injection h with h; subst h; omega
          · cases h

set_option maxHeartbeats 16000000 in
set_option maxRecDepth 100000 in
theorem numb_any (pf : List UInt8 → Nat) (W0 : World) (hpf : PFSaid pf W0) (r : Nat) (s : List UInt8) (k bad deep : Nat) (odd ends : Bool) (w : World)
    (hk : k ≤ s.length) (hs : s.length ≤ 1048576) (hr0 : W0.heap.size ≤ r) (hW : Below W0.heap.size W0 w) (hR0 : Rd w r s k bad deep odd ends) :
    Calls Tryz.prog 49 #[.pointer (some ⟨r, 0, none⟩)] w (NumbPost w r s bad deep ends (numF pf s k odd)) := by
  obtain ⟨fin, hfin⟩ : ∃ fin, fin = numF pf s k odd := ⟨_, rfl⟩
  rw [← hfin]
  have Hf := Lib.hid hfin
  clear hfin
  have Hpf := Lib.hid hpf
  have HW := Lib.hid hW
  clear hpf hW
  have hrB : r < w.heap.size := Blk.lt hR0
  go_enter Tryz.func49, Tryz.ntmps49
  go_wp2_with fail
  refine calls_gen (fun wo => Blk wo w.heap.size 34 vZero ∧ Rd wo r s k bad deep odd ends ∧ Only w wo r) ⟨Blk.newAt _ 34 vZero _ (by simp), Blk.alloc hR0 _, only_alloc (only_refl _ _) _⟩ ?_
  clear hR0
  rintro wo ⟨hz, hR, hO⟩
  refine (word_any r s k bad deep odd ends wo hk hs hR).mono ?_
  rintro e w2 ⟨rfl, hA, hO1⟩
  have hz1 := Blk.grown hz hO1 (fun e => by injection e with e; omega)
  have hO2 := only_trans hO hO1
  clear hR hO hO1 hz
  obtain ⟨⟨x1, k2, o2⟩, hx1⟩ : ∃ a, a = wordAt s k odd := ⟨_, rfl⟩
  have hk2 : k2 ≤ s.length := by have := wordAt_le (o := odd) hk; rw [← hx1] at this; exact this
  have hxl : x1.length ≤ s.length := by have := wordAt_len (s := s) (k := k) (o := odd); rw [← hx1] at this; exact this
  have Hx1 := Lib.hid hx1
  injection hx1 with e1 e2
  injection e2 with e2 e3
  rw [← e3, ← e2] at hA
  rw [← e1]
  clear e1 e2 e3
  obtain ⟨z0, z1, z2, z3, z4, z5, z6⟩ := res_cells hz1 rfl
  have y0 := hz1.frozen 0
  have y1 := hz1.frozen 1
  have y2 := hz1.frozen 2
  have y3 := hz1.frozen 3
  have y4 := hz1.frozen 4
  have y5 := hz1.frozen 5
  have y6 := hz1.frozen 6
  have l1 := Blk.lt hz1
  generalize hb1 : w.heap.size = b1 at *
  by_cases t1 : x1 = [116, 114, 117, 101]
  · subst t1
    have E : Hid (fin = (.bool true, k2, o2, 0)) := Lib.hid (by rw [Hf.out, numF]; simp only [← Hx1.out]; rfl)
    go_wp2_with fail
    refine bodyPost_ret (v := .agg (vBool 1)) (by simp [results, Tryz.results49, go_sem, vInt, vZero, vRef, vBool, vReal, S, l1, z0, z1, z2, z3, z4, z5, z6, y0, y1, y2, y3, y4, y5, y6]) rfl ?_
    unfold NumbPost
    rw [E.out]
    refine ⟨rfl, by first | exact hk2 | exact hk3, ?_, ?_⟩
    · have h := hA
      unfold Rd at h ⊢
      repeat first | with_reducible refine Blk.alloc ?_ _ | with_reducible refine Blk.far ?_ (show ¬ r = b1 from by omega) _
      exact h
    · have h := hO2
      repeat first | with_reducible exact h | with_reducible refine only_alloc ?_ _ | with_reducible refine only_setCell ?_ (.inr (show w.heap.size ≤ b1 by omega)) _
  by_cases t2 : x1 = [102, 97, 108, 115, 101]
  · subst t2
    have E : Hid (fin = (.bool false, k2, o2, 0)) := Lib.hid (by rw [Hf.out, numF]; simp only [← Hx1.out]; rfl)
    go_wp2_with fail
    refine bodyPost_ret (v := .agg (vBool 0)) (by simp [results, Tryz.results49, go_sem, vInt, vZero, vRef, vBool, vReal, S, l1, z0, z1, z2, z3, z4, z5, z6, y0, y1, y2, y3, y4, y5, y6]) rfl ?_
    unfold NumbPost
    rw [E.out]
    refine ⟨rfl, by first | exact hk2 | exact hk3, ?_, ?_⟩
    · have h := hA
      unfold Rd at h ⊢
      repeat first | with_reducible refine Blk.alloc ?_ _ | with_reducible refine Blk.far ?_ (show ¬ r = b1 from by omega) _
      exact h
    · have h := hO2
      repeat first | with_reducible exact h | with_reducible refine only_alloc ?_ _ | with_reducible refine only_setCell ?_ (.inr (show w.heap.size ≤ b1 by omega)) _
  by_cases t3 : x1 = [110, 117, 108, 108]
  · subst t3
    have E : Hid (fin = (.null, k2, o2, 0)) := Lib.hid (by rw [Hf.out, numF]; simp only [← Hx1.out]; rfl)
    go_wp2_with fail
    refine bodyPost_ret (v := .agg (vZero)) (by simp [results, Tryz.results49, go_sem, vInt, vZero, vRef, vBool, vReal, S, l1, z0, z1, z2, z3, z4, z5, z6, y0, y1, y2, y3, y4, y5, y6]) rfl ?_
    unfold NumbPost
    rw [E.out]
    refine ⟨rfl, by first | exact hk2 | exact hk3, ?_, ?_⟩
    · have h := hA
      unfold Rd at h ⊢
      repeat first | with_reducible refine Blk.alloc ?_ _ | with_reducible refine Blk.far ?_ (show ¬ r = b1 from by omega) _
      exact h
    · have h := hO2
      repeat first | with_reducible exact h | with_reducible refine only_alloc ?_ _ | with_reducible refine only_setCell ?_ (.inr (show w.heap.size ≤ b1 by omega)) _
  have T1 := Lib.hid t1
  have T2 := Lib.hid t2
  have T3 := Lib.hid t3
  have n1 : (x1 == [116, 114, 117, 101]) = false := beq_eq_false_iff_ne.2 t1
  have n2 : (x1 == [102, 97, 108, 115, 101]) = false := beq_eq_false_iff_ne.2 t2
  have n3 : (x1 == [110, 117, 108, 108]) = false := beq_eq_false_iff_ne.2 t3
  clear t1 t2 t3
  go_wp2_with fail
  refine (number_any pf W0 Hpf.out x1 w2 (by omega) (since_only HW.out hO2 hr0)).mono ?_
  rintro e w3 ⟨he, hB⟩
  have hz3 : Blk w3 b1 34 vZero := Blk.below hz1 hB (Blk.lt hz1)
  have hA3 : Rd w3 r s k2 bad deep o2 ends := Blk.below hA hB (Blk.lt hA)
  have hO3 : Only w w3 r := only_below hO2 hB
  clear hz1 hA hO2 z0 z1 z2 z3 z4 z5 z6 y0 y1 y2 y3 y4 y5 y6 l1 hB
  obtain ⟨nm, hnm⟩ : ∃ nm, nm = numM x1 := ⟨_, rfl⟩
  have Hn := Lib.hid hnm
  rw [← hnm] at he
  clear hnm
  cases nm with
  | refused =>
    subst he
    have E : Hid (fin = (.null, k2, o2, 1)) := Lib.hid (by rw [Hf.out, numF]; simp only [← Hx1.out]; rw [if_neg T1.out, if_neg T2.out, if_neg T3.out, ← Hn.out])
    unfold NumVal vZero
    go_wp2_with fail
    refine calls_gen (fun wo => Blk wo b1 34 vZero ∧ Rd wo r s k2 bad deep o2 ends ∧ Only w wo r) ⟨Blk.alloc hz3 _, Blk.alloc hA3 _, only_alloc hO3 _⟩ ?_
    clear hz3 hA3 hO3
    rintro w4 ⟨hz3, hA3, hO3⟩
    refine (fail_any r s k2 bad deep 1 o2 ends w4 hA3).mono ?_
    rintro e w5 ⟨rfl, hF, hO⟩
    have hz5 := Blk.grown hz3 hO (fun e => by injection e with e; omega)
    have hO5 := only_trans hO3 hO
    obtain ⟨z0, z1, z2, z3, z4, z5, z6⟩ := res_cells hz5 rfl
    have y0 := hz5.frozen 0
    have y1 := hz5.frozen 1
    have y2 := hz5.frozen 2
    have y3 := hz5.frozen 3
    have y4 := hz5.frozen 4
    have y5 := hz5.frozen 5
    have y6 := hz5.frozen 6
    have l1 := Blk.lt hz5
    unfold vZero
    go_wp2_with fail
    refine bodyPost_ret (v := .agg (vZero)) (by simp [results, Tryz.results49, go_sem, vInt, vZero, vRef, vBool, vReal, S, l1, z0, z1, z2, z3, z4, z5, z6, y0, y1, y2, y3, y4, y5, y6]) rfl ?_
    unfold NumbPost
    rw [E.out]
    refine ⟨rfl, by first | exact hk2 | exact hk3, ?_, ?_⟩
    · have h := hF
      unfold Rd at h ⊢
      repeat first | with_reducible refine Blk.alloc ?_ _ | with_reducible refine Blk.far ?_ (show ¬ r = b1 from by omega) _
      exact h
    · have h := hO5
      repeat first | with_reducible exact h | with_reducible refine only_alloc ?_ _ | with_reducible refine only_setCell ?_ (.inr (show w.heap.size ≤ b1 by omega)) _
  | open_ =>
    subst he
    have E : Hid (fin = (.null, k2, o2, 2)) := Lib.hid (by rw [Hf.out, numF]; simp only [← Hx1.out]; rw [if_neg T1.out, if_neg T2.out, if_neg T3.out, ← Hn.out])
    unfold NumVal vZero
    go_wp2_with fail
    refine calls_gen (fun wo => Blk wo b1 34 vZero ∧ Rd wo r s k2 bad deep o2 ends ∧ Only w wo r) ⟨Blk.alloc hz3 _, Blk.alloc hA3 _, only_alloc hO3 _⟩ ?_
    clear hz3 hA3 hO3
    rintro w4 ⟨hz3, hA3, hO3⟩
    refine (fail_any r s k2 bad deep 2 o2 ends w4 hA3).mono ?_
    rintro e w5 ⟨rfl, hF, hO⟩
    have hz5 := Blk.grown hz3 hO (fun e => by injection e with e; omega)
    have hO5 := only_trans hO3 hO
    obtain ⟨z0, z1, z2, z3, z4, z5, z6⟩ := res_cells hz5 rfl
    have y0 := hz5.frozen 0
    have y1 := hz5.frozen 1
    have y2 := hz5.frozen 2
    have y3 := hz5.frozen 3
    have y4 := hz5.frozen 4
    have y5 := hz5.frozen 5
    have y6 := hz5.frozen 6
    have l1 := Blk.lt hz5
    unfold vZero
    go_wp2_with fail
    refine bodyPost_ret (v := .agg (vZero)) (by simp [results, Tryz.results49, go_sem, vInt, vZero, vRef, vBool, vReal, S, l1, z0, z1, z2, z3, z4, z5, z6, y0, y1, y2, y3, y4, y5, y6]) rfl ?_
    unfold NumbPost
    rw [E.out]
    refine ⟨rfl, by first | exact hk2 | exact hk3, ?_, ?_⟩
    · have h := hF
      unfold Rd at h ⊢
      repeat first | with_reducible refine Blk.alloc ?_ _ | with_reducible refine Blk.far ?_ (show ¬ r = b1 from by omega) _
      exact h
    · have h := hO5
      repeat first | with_reducible exact h | with_reducible refine only_alloc ?_ _ | with_reducible refine only_setCell ?_ (.inr (show w.heap.size ≤ b1 by omega)) _
  | real =>
    subst he
    have E : Hid (fin = (.real (pf x1), k2, o2, 0)) := Lib.hid (by rw [Hf.out, numF]; simp only [← Hx1.out]; rw [if_neg T1.out, if_neg T2.out, if_neg T3.out, ← Hn.out])
    obtain ⟨z0, z1, z2, z3, z4, z5, z6⟩ := res_cells hz3 rfl
    have y0 := hz3.frozen 0
    have y1 := hz3.frozen 1
    have y2 := hz3.frozen 2
    have y3 := hz3.frozen 3
    have y4 := hz3.frozen 4
    have y5 := hz3.frozen 5
    have y6 := hz3.frozen 6
    have l1 := Blk.lt hz3
    unfold NumVal vReal
    go_wp2_with fail
    refine bodyPost_ret (v := .agg (vReal (pf x1))) (by simp [results, Tryz.results49, go_sem, vInt, vZero, vRef, vBool, vReal, S, l1, z0, z1, z2, z3, z4, z5, z6, y0, y1, y2, y3, y4, y5, y6]) rfl ?_
    unfold NumbPost
    rw [E.out]
    refine ⟨rfl, by first | exact hk2 | exact hk3, ?_, ?_⟩
    · have h := hA3
      unfold Rd at h ⊢
      repeat first | with_reducible refine Blk.alloc ?_ _ | with_reducible refine Blk.far ?_ (show ¬ r = b1 from by omega) _
      exact h
    · have h := hO3
      repeat first | with_reducible exact h | with_reducible refine only_alloc ?_ _ | with_reducible refine only_setCell ?_ (.inr (show w.heap.size ≤ b1 by omega)) _
  | int n =>
    subst he
    have hnb : -2147483648 ≤ n ∧ n ≤ 2147483647 := by
      exact numM_bound Hn.out.symm
    have hne : x1 ≠ [] := by
      rintro rfl
      exact absurd Hn.out (by unfold numM; simp [cntM, unsign])
    obtain ⟨z0, z1, z2, z3, z4, z5, z6⟩ := res_cells hz3 rfl
    have y0 := hz3.frozen 0
    have y1 := hz3.frozen 1
    have y2 := hz3.frozen 2
    have y3 := hz3.frozen 3
    have y4 := hz3.frozen 4
    have y5 := hz3.frozen 5
    have y6 := hz3.frozen 6
    have l1 := Blk.lt hz3
    unfold NumVal vInt
    go_wp2_with fail
    refine calls_gen (fun wo => Blk wo b1 34 vZero ∧ Rd wo r s k2 bad deep o2 ends ∧ Only w wo r) ⟨Blk.alloc hz3 _, Blk.alloc hA3 _, only_alloc hO3 _⟩ ?_
    clear hz3 hA3 hO3 z0 z1 z2 z3 z4 z5 z6 y0 y1 y2 y3 y4 y5 y6 l1
    rintro w4 ⟨hz3, hA3, hO3⟩
    refine (reference_any pf W0 Hpf.out r s k2 bad deep o2 ends n x1 w4 hne hk2 hs hnb hr0 (since_only HW.out hO3 hr0) hA3).mono ?_
    rintro e w5 ⟨rfl, hk3, hF, hO⟩
    have hz5 := Blk.grown hz3 hO (fun e => by injection e with e; omega)
    have hO5 := only_trans hO3 hO
    obtain ⟨z0, z1, z2, z3, z4, z5, z6⟩ := res_cells hz5 rfl
    have y0 := hz5.frozen 0
    have y1 := hz5.frozen 1
    have y2 := hz5.frozen 2
    have y3 := hz5.frozen 3
    have y4 := hz5.frozen 4
    have y5 := hz5.frozen 5
    have y6 := hz5.frozen 6
    have l1 := Blk.lt hz5
    clear hz3 hA3 hO3
    obtain ⟨⟨rv, k3, o3⟩, hrm⟩ : ∃ a, a = refM s k2 o2 n x1 := ⟨_, rfl⟩
    rw [← hrm] at hF hk3
    rw [← hrm]
    have Hr := Lib.hid hrm
    clear hrm
    simp only at hk3
    cases rv with
    | int =>
      have E : Hid (fin = (.int n, k3, o3, 0)) := Lib.hid (by rw [Hf.out, numF]; simp only [← Hx1.out]; rw [if_neg T1.out, if_neg T2.out, if_neg T3.out, ← Hn.out]; simp only [← Hr.out])
      unfold RefVal.cells vInt
      go_wp2_with fail
      refine bodyPost_ret (v := .agg (vInt n)) (by simp [results, Tryz.results49, go_sem, vInt, vZero, vRef, vBool, vReal, S, l1, z0, z1, z2, z3, z4, z5, z6, y0, y1, y2, y3, y4, y5, y6]) rfl ?_
      unfold NumbPost
      rw [E.out]
      refine ⟨rfl, by first | exact hk2 | exact hk3, ?_, ?_⟩
      · have h := hF
        unfold Rd at h ⊢
        repeat first | with_reducible refine Blk.alloc ?_ _ | with_reducible refine Blk.far ?_ (show ¬ r = b1 from by omega) _
        exact h
      · have h := hO5
        repeat first | with_reducible exact h | with_reducible refine only_alloc ?_ _ | with_reducible refine only_setCell ?_ (.inr (show w.heap.size ≤ b1 by omega)) _
    | ref g =>
      have E : Hid (fin = (.ref n g, k3, o3, 0)) := Lib.hid (by rw [Hf.out, numF]; simp only [← Hx1.out]; rw [if_neg T1.out, if_neg T2.out, if_neg T3.out, ← Hn.out]; simp only [← Hr.out])
      unfold RefVal.cells vRef
      go_wp2_with fail
      refine bodyPost_ret (v := .agg (vRef n g)) (by simp [results, Tryz.results49, go_sem, vInt, vZero, vRef, vBool, vReal, S, l1, z0, z1, z2, z3, z4, z5, z6, y0, y1, y2, y3, y4, y5, y6]) rfl ?_
      unfold NumbPost
      rw [E.out]
      refine ⟨rfl, by first | exact hk2 | exact hk3, ?_, ?_⟩
      · have h := hF
        unfold Rd at h ⊢
        repeat first | with_reducible refine Blk.alloc ?_ _ | with_reducible refine Blk.far ?_ (show ¬ r = b1 from by omega) _
        exact h
      · have h := hO5
        repeat first | with_reducible exact h | with_reducible refine only_alloc ?_ _ | with_reducible refine only_setCell ?_ (.inr (show w.heap.size ≤ b1 by omega)) _
    | zero =>
      have E : Hid (fin = (.null, k3, o3, 2)) := Lib.hid (by rw [Hf.out, numF]; simp only [← Hx1.out]; rw [if_neg T1.out, if_neg T2.out, if_neg T3.out, ← Hn.out]; simp only [← Hr.out])
      unfold RefVal.cells vZero
      go_wp2_with fail
      refine bodyPost_ret (v := .agg (vZero)) (by simp [results, Tryz.results49, go_sem, vInt, vZero, vRef, vBool, vReal, S, l1, z0, z1, z2, z3, z4, z5, z6, y0, y1, y2, y3, y4, y5, y6]) rfl ?_
      unfold NumbPost
      rw [E.out]
      refine ⟨rfl, by first | exact hk2 | exact hk3, ?_, ?_⟩
      · have h := hF
        unfold Rd at h ⊢
        repeat first | with_reducible refine Blk.alloc ?_ _ | with_reducible refine Blk.far ?_ (show ¬ r = b1 from by omega) _
        exact h
      · have h := hO5
        repeat first | with_reducible exact h | with_reducible refine only_alloc ?_ _ | with_reducible refine only_setCell ?_ (.inr (show w.heap.size ≤ b1 by omega)) _
end Go.Proofs.YtcpijmbdibgdmaaGreatDoor

namespace Go.Proofs.YtcpijmbdibgdmaaGreatDoor
open Go.RowKit
attribute [local go_sem] ba_get store_flt

/-- Where a reader stands: the place, what went wrong, the mark, the text's end. -/
structure Z where
  k : Nat
  bad : Nat
  odd : Bool
  ends : Bool
abbrev VRel := Nat → Z → SVal → Z → Prop

/-- The elements of an array, from the place behind '[' on (d: the depth at which they stand). -/
inductive AOut (V : VRel) (s : List UInt8) (d : Nat) : Z → List SVal → Z → Prop
  | stop {z : Z} (hb : z.bad ≠ 0) : AOut V s d z [] z
  | close {z : Z} {k1 : Nat} {o1 : Bool} (hb : z.bad = 0) (hs : (k1, o1) = skipAt s z.k z.odd) (hc : ([93] : List UInt8).isPrefixOf (s.drop k1) = true) : AOut V s d z [] ⟨k1 + 1, 0, o1, z.ends⟩
  | elem {z z' z'' : Z} {k1 : Nat} {o1 : Bool} {v : SVal} {l : List SVal} (hb : z.bad = 0) (hs : (k1, o1) = skipAt s z.k z.odd) (hc : ([93] : List UInt8).isPrefixOf (s.drop k1) = false)
      (hv : V d ⟨k1, 0, o1, z.ends || decide (s.length ≤ k1)⟩ v z') (ha : AOut V s d z' l z'') : AOut V s d z (v :: l) z''

/-- What one call of value says: the value's cells, where it lies, where the reader stands. -/
def ValPost (V : VRel) (s : List UInt8) (d : Nat) (z : Z) (w : World) (r : Nat) (e : Ending) (w' : World) : Prop :=
  ∃ (v : SVal) (cs : Array Value) (z' : Z), e = .returned (.agg cs) ∧ V d z v z' ∧ VRep w' (fun i => w.heap.size ≤ i) v cs.toList ∧ z.k ≤ z'.k ∧ z'.k ≤ s.length ∧ (z'.bad = 0 → z.k < z'.k) ∧
    Rd w' r s z'.k z'.bad d z'.odd z'.ends ∧ Only w w' r
/-- value does so at each place behind which less than m characters stand. -/
def ValSaid (V : VRel) (W0 : World) (s : List UInt8) (m : Nat) : Prop :=
  ∀ (r d : Nat) (z : Z) (w : World), z.k ≤ s.length → s.length - z.k < m → d ≤ 60 → W0.heap.size ≤ r → Below W0.heap.size W0 w → Rd w r s z.k z.bad d z.odd z.ends →
    Calls Tryz.prog 20 #[.pointer (some ⟨r, 0, none⟩)] w (ValPost V s d z w r)

set_option maxHeartbeats 4000000 in
theorem dec_any (bb r : Nat) (s : List UInt8) (k bad deep : Nat) (odd ends : Bool) (u : FrameMode) (w : World) (hd : deep ≤ 60) (hb : w.cell? ⟨bb, 0, none⟩ = some (.pointer (some ⟨r, 0, none⟩))) (hR : Rd w r s k bad (deep + 1) odd ends) :
    CallsD Tryz.prog 40 #[.pointer (some ⟨bb, 0, none⟩)] u w fun e u' w' => u' = u ∧ (e = .returned (.tuple #[]) ∧ Rd w' r s k bad deep odd ends ∧ Only w w' r) := by
  obtain ⟨c0, c1, c2, c3, c4, c5⟩ := hR.cs
  obtain ⟨f1, f2, f3, f4, f5⟩ := hR.fs
  have e1 : IntKind.i64.wrap ((deep + 1 : Nat) - 1 : Int) = deep := by rw [IntKind.wrap_i64]; omega
  go_enter_d Tryz.func40, Tryz.ntmps40
  go_wp2_with fail
  go_end0
  refine ⟨rfl, Rd.deep_ hR deep (by go_num), only_set (only_refl _ _) _ _⟩
end Go.Proofs.YtcpijmbdibgdmaaGreatDoor
