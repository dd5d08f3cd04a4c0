/-
  package model: where a word ends, whatever the text (what is known of it then).
  package model: what a number's parsing calls.
  strconv.ParseFloat: of a decimal number with a point; of a sign of percent.
  package model: booleans and null; where a number's text ends.
  package model: what stands behind an integer.
-/
import Derived.Test.YtcpijmbdibgdmaaGreatDoorMe04
import Derived.Laws.RangeAny
import Derived.Lib.TrimU
import Derived.Test.YtcpijmbdibgdmaaGreatDoorMe12
import Derived.LaidEql
import Derived.Stop.Asserts
import Derived.Test.YtcpijmbdibgdmaaGreatDoorMe11
set_option linter.all false
namespace Go.Proofs.YtcpijmbdibgdmaaGreatDoor
open Go.RowKit
attribute [local go_sem] ba_get store_flt

/-- How far the text is ASCII and no character that ends a word. -/
def nextA (C : List UInt8) : List UInt8 → Nat
  | [] => 0
  | b :: l => if 128 ≤ b.toNat ∨ stopB C b = true then 0 else nextA C l + 1
theorem nextA_go {C : List UInt8} {b : UInt8} {l : List UInt8} (h1 : b.toNat < 128) (h : stopB C b = false) : nextA C (b :: l) = nextA C l + 1 := by rw [nextA, if_neg (by rw [h]; simp; omega)]
theorem nextA_stop {C : List UInt8} {b : UInt8} {l : List UInt8} (h : 128 ≤ b.toNat ∨ stopB C b = true) : nextA C (b :: l) = 0 := by rw [nextA, if_pos h]
theorem dec_asc {s : List UInt8} {pos : Nat} (hp : pos < s.length) (h : (Utf8.decode ⟨s.toArray⟩ pos).1 < 128) : s[pos].toNat < 128 ∧ (Utf8.decode ⟨s.toArray⟩ pos).1 = s[pos].toNat := by
  by_cases ha : s[pos].toNat < 128
  · exact ⟨ha, by rw [decode_ascii ⟨s.toArray⟩ pos hp ha]; rfl⟩
  · have := (decode_high ⟨s.toArray⟩ pos hp (by have : ((ByteArray.mk s.toArray)[pos]'hp).toNat = s[pos].toNat := rfl; omega)).1
    omega

set_option maxHeartbeats 4000000 in
set_option maxRecDepth 100000 in
theorem next_weak (C s : List UInt8) (w : World) (hs : s.length ≤ 1048576) (hC0 : 0 < C.length) (hC1 : C.length ≤ 1000) (hCa : ∀ c ∈ C, c.toNat < 128) :
    Calls Tryz.prog 139 #[S s, S C] w fun e w' => (e = .returned (.tuple #[.int .i64 (-1), S s]) ∨ ∃ i : Nat, nextA C s ≤ i ∧ i < s.length ∧ e = .returned (.tuple #[.int .i64 i, S (s.drop i)])) ∧ Below w.heap.size w w' := by
  have tC : ((C.length : Int) == 0) = false := by rw [beq_eq_false_iff_ne]; omega
  go_enter Tryz.func139, Tryz.ntmps139
  go_wp2_with fail
  go_loopg [] s.length (fun g wr => ∃ pos : Nat, wr.heap[w.heap.size]? = some (.stringIter ⟨s.toArray⟩ pos) ∧ Below w.heap.size w wr ∧ s.length ≤ pos + g ∧ (nextA C s ≤ pos ∨ pos + nextA C (s.drop pos) = nextA C s))
  case atStart => exact ⟨0, World.iter_heap w _ 0, (Below.refl _ w).alloc (Nat.le_refl _) _, by omega, by simp⟩
  case round =>
    obtain ⟨pos, hit, hbw, hg, hn⟩ := hrel
    have Hg := Lib.hid hg
    clear hg
    by_cases hp : pos < s.length
    · have e1 : s.drop pos = s[pos] :: s.drop (pos + 1) := List.drop_eq_getElem_cons hp
      rw [e1] at hn
      have hkw : 1 ≤ (Utf8.decode ⟨s.toArray⟩ pos).2 := Lib.width_pos ⟨s.toArray⟩ pos
      have hasc : s[pos].toNat < 128 → (Utf8.decode ⟨s.toArray⟩ pos).1 = s[pos].toNat ∧ (Utf8.decode ⟨s.toArray⟩ pos).2 = 1 := fun ha => by rw [decode_ascii ⟨s.toArray⟩ pos hp ha]; exact ⟨rfl, rfl⟩
      have hdec := dec_asc (s := s) hp
      have hsz : w.heap.size < wr.heap.size := (Array.getElem?_eq_some_iff.1 hit).1
      have hnx : ∀ ty, (Instr.next (.pointer (some ⟨w.heap.size, 0, none⟩)) true ty).run Tryz.prog wr = _ := fun ty => Lib.run_next_any_at wr w.heap.size ⟨s.toArray⟩ pos ty hit hp
      have hr1 := Lib.rune_le ⟨s.toArray⟩ pos
      obtain ⟨R, hR⟩ : ∃ R, (Utf8.decode ⟨s.toArray⟩ pos).1 = R := ⟨_, rfl⟩
      obtain ⟨K, hK⟩ : ∃ K, (Utf8.decode ⟨s.toArray⟩ pos).2 = K := ⟨_, rfl⟩
      rw [hR, hK] at hnx
      rw [hR, hK] at hasc
      rw [hR] at hdec hr1
      rw [hK] at hkw
      have hit2 := Lib.iterAt_heap wr w.heap.size ⟨s.toArray⟩ pos (pos + K) hit
      have hbw2 := Lib.below_iterAt hbw (k := w.heap.size) (Nat.le_refl _) ⟨s.toArray⟩ (pos + K)
      have hsz2 := Lib.iterAt_size wr w.heap.size ⟨s.toArray⟩ (pos + K)
      obtain ⟨W, hWd⟩ : ∃ W, wr.iterAt w.heap.size ⟨s.toArray⟩ (pos + K) = W := ⟨_, rfl⟩
      rw [hWd] at hnx hit2 hbw2 hsz2
      have hnx2 : ∀ ty, (Instr.next (.pointer (some ⟨w.heap.size, 0, none⟩)) true ty).run Tryz.prog wr = .ok (.tuple #[.bool true, .int .i64 pos, .int .i32 (R : Nat)]) W := hnx
      clear hnx hWd
      have Hn := Lib.hid hn
      have Hasc := Lib.hid hasc
      have Hdec := Lib.hid hdec
      clear hn hasc hdec hR hK
      have Hsz2 := Lib.hid hsz2
      clear hsz2
      go_wp2_with fail
      go_loopg [] C.length (fun g wy => ∃ j : Nat, wy.heap[W.heap.size]? = some (.stringIter ⟨C.toArray⟩ j) ∧ Below W.heap.size W wy ∧ j + g = C.length ∧ ((C.take j).any fun c => R == c.toNat) = false ∧ (0 < j → wsR R = false))
      case atStart => exact ⟨0, World.iter_heap W _ 0, (Below.refl _ W).alloc (Nat.le_refl _) _, by omega, rfl, by omega⟩
      case round =>
        obtain ⟨j, hjt, hbj, hgj, hno, hws⟩ := hrel
        have Hgj := Lib.hid hgj
        have Hno := Lib.hid hno
        have Hws := Lib.hid hws
        clear hgj hno hws
        by_cases hj : j < C.length
        · have hcj : (C[j]).toNat < 128 := hCa _ (List.getElem_mem hj)
          have hny : ∀ ty, (Instr.next (.pointer (some ⟨W.heap.size, 0, none⟩)) true ty).run Tryz.prog wr = _ := fun ty => Lib.run_next_ascii_at wr W.heap.size ⟨C.toArray⟩ j ty hjt hj hcj
          have hjt2 := Lib.iterAt_heap wr W.heap.size ⟨C.toArray⟩ j (j + 1) hjt
          have hbj2 := Lib.below_iterAt hbj (k := W.heap.size) (Nat.le_refl _) ⟨C.toArray⟩ (j + 1)
          obtain ⟨Y, hYd⟩ : ∃ Y, wr.iterAt W.heap.size ⟨C.toArray⟩ (j + 1) = Y := ⟨_, rfl⟩
          rw [hYd] at hny hjt2 hbj2
          have hny2 : ∀ ty, (Instr.next (.pointer (some ⟨W.heap.size, 0, none⟩)) true ty).run Tryz.prog wr = .ok (.tuple #[.bool true, .int .i64 j, .int .i32 (C[j].toNat : Nat)]) Y := hny
          clear hny hYd
          have eC : C.drop j = C[j] :: C.drop (j + 1) := List.drop_eq_getElem_cons hj
          have hstop : (128 ≤ s[pos].toNat ∨ stopB C s[pos] = true) → nextA C s ≤ pos := fun h => by
            rcases Hn.out with h1 | h1
            · exact h1
            · rw [nextA_stop h] at h1; omega
          by_cases hcm : R = C[j].toNat
          · have tcm : ((R : Int) == ((C[j].toNat : Nat) : Int)) = true := by rw [beq_iff_eq, hcm]
            have hst : 128 ≤ s[pos].toNat ∨ stopB C s[pos] = true := by
              obtain ⟨h1, h2⟩ := Hdec.out (by omega)
              refine .inr ?_
              unfold stopB
              rw [Bool.and_eq_true, decide_eq_true_eq, Bool.or_eq_true]
              exact ⟨h1, .inl (List.any_eq_true.2 ⟨C[j], List.getElem_mem hj, by rw [beq_iff_eq]; exact UInt8.toNat_inj.1 (by omega)⟩)⟩
            have Hst := Lib.hid hst
            clear hst hcm
            go_wp2_with fail
            go_quiet (fail)
            go_wp2_with fail
            refine bodyPost_ret (v := .tuple #[.int .i64 pos, .string ((ByteArray.mk s.toArray).extract pos s.length)]) (by simp [results, Tryz.results139, go_sem]) rfl ?_
            refine ⟨.inr ⟨pos, hstop Hst.out, hp, ?_⟩, below_drewN (hbw2.trans (hbj2.mono (by have := Hsz2.out; omega))) _⟩
            rw [ByteArray.extract_mk, List.take_of_length_le (by rw [List.length_drop]; omega)]
          · have tcm : ((R : Int) == ((C[j].toNat : Nat) : Int)) = false := by rw [beq_eq_false_iff_ne]; omega
            cases hsp : spR R with
            | true =>
              have hst : 128 ≤ s[pos].toNat ∨ stopB C s[pos] = true := by
                by_cases ha : s[pos].toNat < 128
                · refine .inr ?_
                  unfold stopB wsR
                  rw [Bool.and_eq_true, decide_eq_true_eq, Bool.or_eq_true, ← (Hasc.out ha).1]
                  exact ⟨by have := (Hasc.out ha).1; omega, .inr (by rw [hsp]; rfl)⟩
                · exact .inl (by omega)
              have Hst := Lib.hid hst
              have Hsp := Lib.hid hsp
              clear hst hsp
              go_wp2_with (go_at_call 110; refine (isSpace_any R _).mono ?_; rintro e w' ⟨rfl, rfl⟩; simp only [Hsp.out])
              go_quiet (fail)
              go_wp2_with fail
              refine bodyPost_ret (v := .tuple #[.int .i64 pos, .string ((ByteArray.mk s.toArray).extract pos s.length)]) (by simp [results, Tryz.results139, go_sem]) rfl ?_
              refine ⟨.inr ⟨pos, hstop Hst.out, hp, ?_⟩, below_drewN (hbw2.trans (hbj2.mono (by have := Hsz2.out; omega))) _⟩
              rw [ByteArray.extract_mk, List.take_of_length_le (by rw [List.length_drop]; omega)]
            | false =>
              by_cases h0 : R = 0
              · have t0 : ((R : Int) == 0) = true := by rw [beq_iff_eq]; omega
                have hst : 128 ≤ s[pos].toNat ∨ stopB C s[pos] = true := by
                  obtain ⟨h1, h2⟩ := Hdec.out (by omega)
                  refine .inr ?_
                  unfold stopB wsR
                  rw [Bool.and_eq_true, decide_eq_true_eq, Bool.or_eq_true, ← h2]
                  exact ⟨by omega, .inr (by rw [h0]; rfl)⟩
                have Hst := Lib.hid hst
                have Hsp := Lib.hid hsp
                clear hst hsp h0
                go_wp2_with (go_at_call 110; refine (isSpace_any R _).mono ?_; rintro e w' ⟨rfl, rfl⟩; simp only [Hsp.out])
                go_quiet (fail)
                go_wp2_with fail
                refine bodyPost_ret (v := .tuple #[.int .i64 pos, .string ((ByteArray.mk s.toArray).extract pos s.length)]) (by simp [results, Tryz.results139, go_sem]) rfl ?_
                refine ⟨.inr ⟨pos, hstop Hst.out, hp, ?_⟩, below_drewN (hbw2.trans (hbj2.mono (by have := Hsz2.out; omega))) _⟩
                rw [ByteArray.extract_mk, List.take_of_length_le (by rw [List.length_drop]; omega)]
              · have t0 : ((R : Int) == 0) = false := by rw [beq_eq_false_iff_ne]; omega
                have hwf : wsR R = false := by unfold wsR; rw [hsp]; simp [h0]
                have Hwf := Lib.hid hwf
                have Hsp := Lib.hid hsp
                have Hcm := Lib.hid hcm
                clear hwf hsp hcm h0
                go_wp2_with (go_at_call 110; refine (isSpace_any R _).mono ?_; rintro e w' ⟨rfl, rfl⟩; simp only [Hsp.out])
                go_roundg (C.length - (j + 1))
                case measure => have := Hgj.out; omega
                case rel =>
                  refine ⟨j + 1, hjt2, hbj2, by omega, ?_, fun _ => Hwf.out⟩
                  rw [List.take_succ_eq_append_getElem hj, List.any_append, Hno.out]
                  simpa using Hcm.out
        · have hny : ∀ ty, (Instr.next (.pointer (some ⟨W.heap.size, 0, none⟩)) true ty).run Tryz.prog wr = _ := fun ty => Lib.run_next_end_at wr W.heap.size ⟨C.toArray⟩ j ty hjt hj
          have hnst : s[pos].toNat < 128 → stopB C s[pos] = false := fun ha => by
            have h1 := Hno.out
            have h2 := Hws.out (by have := Hgj.out; omega)
            obtain ⟨h3, _⟩ := Hasc.out ha
            rw [List.take_of_length_le (by omega)] at h1
            have h4 : (C.any fun c => s[pos] == c) = false := by
              rw [List.any_eq_false] at h1 ⊢
              intro c hc he
              exact h1 c hc (by rw [beq_iff_eq] at he ⊢; rw [← he]; exact h3)
            unfold stopB
            rw [h4, ← h3, h2]
            simp
          have Hns := Lib.hid hnst
          clear hnst
          go_wp2_with fail
          go_roundg (s.length - (pos + K))
          case measure => have := Hg.out; omega
          case rel =>
            refine ⟨pos + K, (hbj.block _ (by have := Hsz2.out; omega)).trans hit2, hbw2.trans (hbj.mono (by have := Hsz2.out; omega)), by omega, ?_⟩
            rcases Hn.out with h1 | h1
            · exact .inl (by omega)
            · by_cases ha : s[pos].toNat < 128
              · rw [nextA_go ha (Hns.out ha)] at h1
                have := (Hasc.out ha).2
                subst this
                exact .inr (by omega)
              · rw [nextA_stop (.inl (by omega))] at h1
                exact .inl (by omega)
    · have hnx : ∀ ty, (Instr.next (.pointer (some ⟨w.heap.size, 0, none⟩)) true ty).run Tryz.prog wr = _ := fun ty => Lib.run_next_end_at wr w.heap.size ⟨s.toArray⟩ pos ty hit hp
      go_wp2_with fail
      refine bodyPost_ret (v := .tuple #[.int .i64 (-1), S s]) (by simp [results, Tryz.results139, go_sem]) rfl ?_
      exact ⟨.inl rfl, hbw⟩
end Go.Proofs.YtcpijmbdibgdmaaGreatDoor

namespace Go.Proofs.YtcpijmbdibgdmaaGreatDoor
open Go.RowKit
attribute [local go_sem] ba_get store_flt

/-- strconv.Atoi of whatever text. -/
def AtoiPost (W0 : World) (x : List UInt8) (w : World) (e : Ending) (w' : World) : Prop :=
  (∃ (v : Int) (ev : Value), e = .returned (.tuple #[.int .i64 v, ev]) ∧ ((Lib.atoiAll x = .ok v ∧ ev = .nilIface) ∨ ((∀ n, Lib.atoiAll x ≠ .ok n) ∧ ∃ (N : Nat) (q : Addr), ev = .iface 142 (.pointer (some ⟨N, 0, none⟩)) ∧
    w'.heap[N]? = some (.cells #[.string ⟨#[65, 116, 111, 105]⟩, S x, .iface 207 (.pointer (some q))] 163 (0, 0)) ∧ w.heap.size ≤ N ∧ IsErr W0 q))) ∧ Below w.heap.size w w'
theorem atoi_all (x : List UInt8) (W0 w : World) (hG : Glob W0) (hW : Below W0.heap.size W0 w) (hl : x.length ≤ 1048576) : Calls Tryz.prog 34 #[S x] w (AtoiPost W0 x w) := by
  obtain ⟨h2, a2, c2, e2⟩ := hG.later hW 2 (by simp)
  obtain ⟨h3, a3, c3, e3⟩ := hG.later hW 3 (by simp)
  rcases h : Lib.atoiAll x with n | _ | _
  · exact (atoi_any x n h hl w).mono fun e w' ⟨h1, h2⟩ => ⟨⟨n, _, h1, .inl ⟨h, rfl⟩⟩, h2⟩
  · exact (Tryz.strconv_Atoi_syntax ⟨x.toArray⟩ (by show x.length ≤ _; omega) h _ w c2 (.inr ⟨_, _, rfl⟩)).mono fun e w' ⟨N, h1, h2, h3, h4⟩ => ⟨⟨0, _, h1, .inr ⟨fun n => by rw [h]; simp, N, a2, rfl, h3, h2, e2⟩⟩, h4⟩
  · exact (Tryz.strconv_Atoi_range ⟨x.toArray⟩ (by show x.length ≤ _; omega) h _ w c3 (.inr ⟨_, _, rfl⟩)).mono fun e w' ⟨N, h1, h2, h3, h4⟩ => ⟨⟨_, _, h1, .inr ⟨fun n => by rw [h]; simp, N, a3, rfl, h3, h2, e3⟩⟩, h4⟩

theorem Tryz.comp207 : (Tryz.prog.info? 207).map (·.comparable) = some true := by kernel_rfl
theorem Tryz.size209 : (Tryz.prog.info? 209).map (·.size) = some 1 := by kernel_rfl
theorem assert142 (v : Value) (xT : TypeId) (w : World) : (Instr.typeAssert (.iface 142 v) xT 142 true).run Tryz.prog w = .ok (.tuple #[v, .bool true]) w := by
  simp [Instr.typeAssert, run_underlying Tryz.underlying142]
/-- Two of the package's errors compared. -/
theorem err_eql {W0 : World} {a b : Addr} (ha : IsErr W0 a) (hb : IsErr W0 b) : ∃ t, ∀ w, Below W0.heap.size W0 w → (binOp .eql 71 (.iface 207 (.pointer (some a))) (.iface 207 (.pointer (some b)))).run Tryz.prog w = .ok (.bool t) w := by
  obtain ⟨i, hi, hcmp⟩ := Option.map_eq_some_iff.1 Tryz.comp207
  obtain ⟨j, hj, hjs⟩ := Option.map_eq_some_iff.1 Tryz.size209
  by_cases h : a = b
  · subst h
    exact ⟨true, fun w _ => run_eql_iface_ptr_same w a Tryz.underlying71 Tryz.underlying207 hi hcmp hj⟩
  · refine ⟨false, fun w hW => ?_⟩
    obtain ⟨ca, ta, h1⟩ := ha.later hW
    obtain ⟨cb, tb, h2⟩ := hb.later hW
    exact run_eql_iface_ptr_other w Tryz.underlying71 Tryz.underlying207 hi hcmp hj (by rw [hjs]; decide) h h1 h2

set_option maxHeartbeats 2000000 in
set_option maxRecDepth 100000 in
theorem isRange_any (N : Nat) (x : List UInt8) (q : Addr) (W0 w : World) (hG : Glob W0) (hW : Below W0.heap.size W0 w) (hq : IsErr W0 q) (hN : w.heap[N]? = some (.cells #[.string ⟨#[65, 116, 111, 105]⟩, S x, .iface 207 (.pointer (some q))] 163 (0, 0))) :
    Calls Tryz.prog 146 #[.iface 142 (.pointer (some ⟨N, 0, none⟩))] w fun e w' => (∃ b, e = .returned (.bool b)) ∧ ∃ n, w' = w.drewN n := by
  obtain ⟨h3, a3, c3, e3⟩ := hG.later hW 3 (by simp)
  have k2 : w.cell? ⟨N, 2, none⟩ = some (.iface 207 (.pointer (some q))) := Lib.cell_of_heap hN 2
  obtain ⟨t, ht⟩ := err_eql hq e3
  have heq := fun n => ht (w.drewN n) (below_drewN hW n)
  clear ht
  have has := fun w => assert142 (.pointer (some ⟨N, 0, none⟩)) 71 w
  go_enter Tryz.func146, Tryz.ntmps146
  go_wp2_with fail
  go_quiet (fail)
  cases t with
  | true =>
    go_wp2_with fail
    go_ret
    exact ⟨⟨_, rfl⟩, _, rfl⟩
  | false =>
    go_wp2_with fail
    go_ret
    exact ⟨⟨_, rfl⟩, _, rfl⟩

set_option maxHeartbeats 1000000 in
theorem replNone_any (s t u : List UInt8) (w : World) (hs : s.length ≤ 1048576) (ht : t.length ≤ 1000) (ht0 : 0 < t.length) (hn : idxM t s = none) : Calls Tryz.prog 188 #[S s, S t, S u] w fun e w' => e = .returned (S s) ∧ ∃ n, w' = w.drewN n := by
  have hix := index_any s t w hs ht ht0
  rw [hn] at hix
  go_enter Tryz.func188, Tryz.ntmps188
  go_wp2_with fail
  refine hix.mono ?_
  rintro e w1 ⟨rfl, n, rfl⟩
  dsimp only [idxRet]
  go_wp2_with fail
  go_ret
  exact ⟨rfl, n, rfl⟩
theorem idxM_absent (c : UInt8) (t : List UInt8) : ∀ l : List UInt8, (∀ b ∈ l, b ≠ c) → idxM (c :: t) l = none
  | [], _ => rfl
  | b :: l, h => by
    rw [idxM_miss]
    · rw [idxM_absent c t l (fun x hx => h x (List.mem_cons_of_mem _ hx))]; rfl
    · have hb := h b (List.mem_cons_self ..)
      simp only [List.isPrefixOf]
      rw [Bool.and_eq_false_iff]
      left
      rw [beq_eq_false_iff_ne]
      exact fun e => hb e.symm

/-- strconv.ParseFloat of a sign of percent: an error. -/
def PFBad (W0 : World) : Prop := ∀ (w : World), Below W0.heap.size W0 w →
  Calls Tryz.prog 84 #[S [37], .int .i64 64] w fun e w' => (∃ (k : FloatKind) (f : Nat) (T : TypeId) (u : Value), e = .returned (.tuple #[.float k f, .iface T u])) ∧ Below w.heap.size w w'

set_option maxHeartbeats 1000000 in
theorem parseFloat_real (pf : List UInt8 → Nat) (x : List UInt8) (W0 w : World) (hpf : PFSaid pf W0) (hx : numM x = .real) (hs : x.length ≤ 1048576) (hc : ∀ b ∈ x, b ≠ 44) (hW : Below W0.heap.size W0 w) :
    Calls Tryz.prog 147 #[S x] w fun e w' => (∃ u, e = .returned (.tuple #[.iface 102 u, .nilIface])) ∧ Below w.heap.size w w' := by
  have hn := idxM_absent 44 [] x hc
  have hpfx := fun n => hpf x (w.drewN n) hx hs (below_drewN hW n)
  clear hpf hx
  go_enter Tryz.func147, Tryz.ntmps147
  go_wp2_with fail
  refine (replNone_any x [44] [46] w hs (by decide) (by decide) hn).mono ?_
  rintro e w1 ⟨rfl, n, rfl⟩
  go_wp2_with fail
  refine (hpfx n).mono ?_
  rintro e w2 ⟨rfl, hB⟩
  go_wp2_with fail
  refine bodyPost_ret (v := .tuple #[.iface 102 (.float .f64 (pf x)), .nilIface]) (by simp [results, Tryz.results147, go_sem]) rfl ?_
  exact ⟨⟨_, rfl⟩, (below_drewN (Below.refl _ w) n).trans hB⟩
set_option maxHeartbeats 1000000 in
theorem parseFloat_bad (W0 w : World) (hpf : PFBad W0) (hW : Below W0.heap.size W0 w) :
    Calls Tryz.prog 147 #[S [37]] w fun e w' => e = .returned (.tuple #[.nilIface, .nilIface]) ∧ Below w.heap.size w w' := by
  have hn := idxM_absent 44 [] [37] (by decide)
  have hn2 := idxM_absent 46 [45] [37] (by decide)
  go_enter Tryz.func147, Tryz.ntmps147
  go_wp2_with fail
  refine (replNone_any [37] [44] [46] w (by decide) (by decide) (by decide) hn).mono ?_
  rintro e w1 ⟨rfl, n, rfl⟩
  go_wp2_with fail
  refine (hpf _ (below_drewN hW n)).mono ?_
  rintro e w2 ⟨⟨k, f, T, u, rfl⟩, hB⟩
  have hB1 : Below w.heap.size w w2 := (below_drewN (Below.refl _ w) n).trans hB
  go_wp2_with fail
  refine (replNone_any [37] [46, 45] [46] w2 (by decide) (by decide) (by decide) hn2).mono ?_
  rintro e w3 ⟨rfl, n3, rfl⟩
  go_wp2_with fail
  refine (hpf _ (below_drewN (hW.trans (hB1.mono hW.size)) n3)).mono ?_
  rintro e w4 ⟨⟨k', f', T', u', rfl⟩, hB4⟩
  go_wp2_with fail
  refine bodyPost_ret (v := .tuple #[.nilIface, .nilIface]) (by simp [results, Tryz.results147, go_sem]) rfl ?_
  exact ⟨rfl, hB1.trans ((below_drewN (Below.refl _ w2) n3).trans hB4 |>.mono hB1.size)⟩
end Go.Proofs.YtcpijmbdibgdmaaGreatDoor

namespace Go.Proofs.YtcpijmbdibgdmaaGreatDoor
open Go.RowKit
attribute [local go_sem] ba_get store_flt

theorem drop0 {t : List UInt8} {i0 : Nat} (h : i0 < t.length) : t[i0] ∈ t.drop i0 := by
  have : t[i0] = (t.drop i0)[0]'(by rw [List.length_drop]; omega) := by rw [List.getElem_drop]; rfl
  rw [this]
  exact List.getElem_mem _
theorem at_any (fv hi lo : Nat → Nat) (lb lo' lc pb po pc fb fo fc : Nat) (t : List UInt8) (W0 w : World) (hP : PW fv hi lo lb lo' lc pb po pc fb fo fc W0) (hW : Below W0.heap.size W0 w) (ht : numM t = .real) :
    Calls Tryz.prog 151 #[S t] w fun e w' => e = .returned (.tuple #[.float .f64 (atF fv hi lo t), .int .i64 t.length, .nilIface]) ∧ Below w.heap.size w w' := by
  obtain ⟨n, a, ha, hn, hn0, hin, hdot, hok⟩ := real_fin ht
  obtain ⟨i0, hu, hsg⟩ := sign_of t
  obtain ⟨hlen, hulen⟩ := real_len ht
  unfold atF
  rw [hu] at hin hdot hok hulen ⊢
  have hi0 : i0 < t.length := by rw [List.length_drop] at hulen; omega
  have hmem := okR_mem _ _ hok
  have h1 := hin.h1
  have h2 := hin.h2
  have h6 := hin.h6
  have h7 := hin.h7
  have hm : (rfL RFS.zero (t.drop i0)).m < 10000000000000000000 := Nat.lt_of_lt_of_le hin.h3 (pow_num (b := 19) (by omega) (by decide))
  refine at_core fv hi lo lb lo' lc pb po pc fb fo fc t (rfL RFS.zero (t.drop i0)) (nL 0 (t.drop i0)) (negB t) W0 w hP hW hlen ?_ ?_ ?_ hm ?_ ⟨by omega, by omega⟩ (by rw [hin.h5]; omega) ?_
  · intro w
    refine special_any t w (by omega) (by omega) ?_
    rcases hsg with ⟨rfl, _, h⟩ | ⟨rfl, h0, h⟩
    · left
      have h3 := h hi0
      have h4 := hmem _ (drop0 hi0)
      omega
    · right
      refine ⟨by omega, fun h5 => ?_⟩
      have h4 := hmem _ (drop0 hi0)
      omega
  · intro w
    exact rf_core t i0 (negB t) w (by omega) _ rfl hok hdot (hin.h9 hn0) ⟨by omega, by omega⟩ (by omega) hi0 hsg
  · intro w p hD
    exact set_core p t _ i0 _ (negB t) w (by omega) hD _ rfl rfl hok hdot (hin.h9 hn0) hin.h5 hi0 hsg
  · unfold expF
    split <;> omega
  · intro hm0 e
    have h5 := hin.h5
    rw [e, nd_zero] at h5
    exact hm0 (hin.h10 h5.symm)

set_option maxHeartbeats 1000000 in
theorem pfs_of (fv hi lo : Nat → Nat) (lb lo' lc pb po pc fb fo fc : Nat) (W0 : World) (hP : PW fv hi lo lb lo' lc pb po pc fb fo fc W0) : PFSaid (atF fv hi lo) W0 := by
  intro t w ht hs hW
  have hA := at_any fv hi lo lb lo' lc pb po pc fb fo fc t W0 w hP hW ht
  obtain ⟨x, hx⟩ : ∃ x, x = atF fv hi lo t := ⟨_, rfl⟩
  rw [← hx] at hA ⊢
  clear hx
  have t1 : ((t.length : Int) != (t.length : Int)) = false := by simp
  have h121 : Calls Tryz.prog 121 #[S t, .int .i64 64] w fun e w' => e = .returned (.tuple #[.float .f64 x, .int .i64 t.length, .nilIface]) ∧ Below w.heap.size w w' := by
    go_enter Tryz.func121, Tryz.ntmps121
    go_wp2_with fail
    refine hA.mono ?_
    rintro e w1 ⟨rfl, hB⟩
    go_wp2_with fail
    refine bodyPost_ret (v := .tuple #[.float .f64 x, .int .i64 t.length, .nilIface]) (by simp [results, Tryz.results121, go_sem]) rfl ?_
    exact ⟨rfl, hB⟩
  clear hA
  have h101 : Calls Tryz.prog 101 #[S t, .int .i64 64] w fun e w' => e = .returned (.tuple #[.float .f64 x, .nilIface]) ∧ Below w.heap.size w w' := by
    go_enter Tryz.func101, Tryz.ntmps101
    go_wp2_with fail
    refine h121.mono ?_
    rintro e w1 ⟨rfl, hB⟩
    go_wp2_with fail
    refine bodyPost_ret (v := .tuple #[.float .f64 x, .nilIface]) (by simp [results, Tryz.results101, go_sem]) rfl ?_
    exact ⟨rfl, hB⟩
  clear h121
  have h84 : Calls Tryz.prog 84 #[S t, .int .i64 64] w fun e w' => e = .returned (.tuple #[.float .f64 x, .nilIface]) ∧ Below w.heap.size w w' := by
    go_enter Tryz.func84, Tryz.ntmps84
    go_wp2_with fail
    refine h101.mono ?_
    rintro e w1 ⟨rfl, hB⟩
    go_wp2_with fail
    refine bodyPost_ret (v := .tuple #[.float .f64 x, .nilIface]) (by simp [results, Tryz.results84, go_sem]) rfl ?_
    exact ⟨rfl, hB⟩
  exact h84

set_option maxRecDepth 100000 in
set_option maxHeartbeats 4000000 in
theorem rf_pct (w : World) : Calls Tryz.prog 190 #[S [37]] w fun e w' => e = .returned (.tuple #[.int .u64 0, .int .i64 0, .bool false, .bool false, .bool false, .int .i64 0, .bool false]) ∧ w = w' := by
  go_enter Tryz.func190, Tryz.ntmps190
  go_wp2_with fail
  go_step3
  go_wp2_with fail
  go_step3
  go_wp2_with fail
  refine wp_loop_rounds 1 ?_
  rw [rounds_succ]
  go_wp2_with fail
  rw [Exit.noGoto_ret]
  go_wp2_with fail
  refine bodyPost_ret (v := .tuple #[.int .u64 0, .int .i64 0, .bool false, .bool false, .bool false, .int .i64 0, .bool false]) (by simp [results, Tryz.results190, go_sem]) rfl ?_
  exact ⟨rfl, rfl⟩
set_option maxRecDepth 100000 in
set_option maxHeartbeats 4000000 in
theorem pfb_of (W0 : World) (h2 : 2 < W0.heap.size) (hv : ∃ te pe, W0.cell? ⟨2, 0, none⟩ = some (.iface te pe)) : PFBad W0 := by
  intro w hW
  obtain ⟨te, pe, hv⟩ := hv
  have hsp := special_any [37] w (by decide) (by decide) (.inl ⟨by decide, by decide, by decide⟩)
  have hrf := rf_pct w
  have h151 : Calls Tryz.prog 151 #[S [37]] w fun e w' => e = .returned (.tuple #[.float .f64 0, .int .i64 0, .iface 139 (.int .i64 2)]) ∧ w = w' := by
    go_enter Tryz.func151, Tryz.ntmps151
    go_wp2_with fail
    refine hsp.mono ?_
    rintro e w1 ⟨rfl, rfl⟩
    go_wp2_with fail
    refine hrf.mono ?_
    rintro e w1 ⟨rfl, rfl⟩
    go_wp2_with fail
    refine bodyPost_ret (v := .tuple #[.float .f64 0, .int .i64 0, .iface 139 (.int .i64 2)]) (by simp [results, Tryz.results151, go_sem]) rfl ?_
    exact ⟨rfl, rfl⟩
  clear hsp hrf
  have h121 : Calls Tryz.prog 121 #[S [37], .int .i64 64] w fun e w' => e = .returned (.tuple #[.float .f64 0, .int .i64 0, .iface 139 (.int .i64 2)]) ∧ w = w' := by
    go_enter Tryz.func121, Tryz.ntmps121
    go_wp2_with fail
    refine h151.mono ?_
    rintro e w1 ⟨rfl, rfl⟩
    go_wp2_with fail
    refine bodyPost_ret (v := .tuple #[.float .f64 0, .int .i64 0, .iface 139 (.int .i64 2)]) (by simp [results, Tryz.results121, go_sem]) rfl ?_
    exact ⟨rfl, rfl⟩
  clear h151
  have h101 : Calls Tryz.prog 101 #[S [37], .int .i64 64] w fun e w' => e = .returned (.tuple #[.float .f64 0, .iface 139 (.int .i64 2)]) ∧ w = w' := by
    go_enter Tryz.func101, Tryz.ntmps101
    go_wp2_with fail
    refine h121.mono ?_
    rintro e w1 ⟨rfl, rfl⟩
    go_wp2_with fail
    refine bodyPost_ret (v := .tuple #[.float .f64 0, .iface 139 (.int .i64 2)]) (by simp [results, Tryz.results101, go_sem]) rfl ?_
    exact ⟨rfl, rfl⟩
  clear h121
  have hte := Tryz.strconv_toError_syntax ⟨#[80, 97, 114, 115, 101, 70, 108, 111, 97, 116]⟩ ⟨#[37]⟩ 0 64 (.iface te pe) w (by decide) ((hW.cell (p := ⟨2, 0, none⟩) h2).trans hv) (.inr ⟨te, pe, rfl⟩)
  go_enter Tryz.func84, Tryz.ntmps84
  go_wp2_with fail
  refine h101.mono ?_
  rintro e w1 ⟨rfl, rfl⟩
  go_wp2_with fail
  refine hte.mono ?_
  rintro e w1 ⟨N, rfl, _, _, hB⟩
  go_wp2_with fail
  refine bodyPost_ret (v := .tuple #[.float .f64 0, .iface 142 (.pointer (some ⟨N, 0, none⟩))]) (by simp [results, Tryz.results84, go_sem]) rfl ?_
  exact ⟨⟨_, _, _, _, rfl⟩, hB⟩
end Go.Proofs.YtcpijmbdibgdmaaGreatDoor

namespace Go.Proofs.YtcpijmbdibgdmaaGreatDoor
open Go.RowKit
attribute [local go_sem] ba_get store_flt

theorem hasPre_ne {c d : UInt8} (l m : List UInt8) (h : c ≠ d) : Lib.hasPrefix (c :: l) (d :: m) = false := by
  simp [Lib.hasPrefix, List.isPrefixOf, h, Ne.symm h]
theorem cat_bytes (a b : List UInt8) : (ByteArray.mk a.toArray ++ ByteArray.mk b.toArray) = ByteArray.mk (a ++ b).toArray := by
  apply ByteArray.ext
  simp [ByteArray.data_append]
def wTrue : List UInt8 := [116, 114, 117, 101]
def wFalse : List UInt8 := [102, 97, 108, 115, 101]
def wNull : List UInt8 := [110, 117, 108, 108]

set_option maxHeartbeats 4000000 in
set_option maxRecDepth 100000 in
theorem boolNull_not (b : UInt8) (l : List UInt8) (w : World) (hs : l.length ≤ 1048575) (hb : lowB b ≠ 110 ∧ lowB b ≠ 116 ∧ lowB b ≠ 102) :
    Calls Tryz.prog 118 #[S (b :: l)] w fun e w' => e = .returned (.tuple #[.nilIface, S [], .bool false]) ∧ Below w.heap.size w w' := by
  obtain ⟨t, ht⟩ : ∃ t : List UInt8, t = b :: l := ⟨_, rfl⟩
  have htl : t.length = l.length + 1 := by rw [ht]; simp
  have h4 : t.take 4 = b :: l.take 3 := by rw [ht]; rfl
  obtain ⟨m, hlo⟩ : ∃ m : List UInt8, (t.take 4).map lowB = lowB b :: m := ⟨(l.take 3).map lowB, by rw [h4]; rfl⟩
  obtain ⟨c, hc⟩ : ∃ c, c = lowB b := ⟨_, rfl⟩
  rw [← hc] at hb hlo
  clear hc
  have hml : m.length ≤ 3 := by have := congrArg List.length hlo; simp at this; omega
  rw [← ht]
  by_cases hl4 : t.length < 4
  · have t4 : decide ((t.length : Int) < 4) = true := by rw [decide_eq_true_eq]; omega
    go_enter Tryz.func118, Tryz.ntmps118
    go_wp2_with fail
    refine bodyPost_ret (v := .tuple #[.nilIface, S [], .bool false]) (by simp [results, Tryz.results118, go_sem]) rfl ?_
    exact ⟨rfl, Below.refl _ _⟩
  · have t4 : decide ((t.length : Int) < 4) = false := by rw [decide_eq_false_iff_not]; omega
    have hex : (ByteArray.mk t.toArray).extract 0 4 = ⟨(t.take 4).toArray⟩ := by rw [ByteArray.extract_mk]; simp
    have hex5 : (ByteArray.mk t.toArray).extract 4 5 = ⟨((t.drop 4).take 1).toArray⟩ := by rw [ByteArray.extract_mk]
    have hn := hasPre_ne m [117, 108, 108] hb.1
    have htr := hasPre_ne m [114, 117, 101] hb.2.1
    have hL := fun w => lower_any (t.take 4) w (by rw [List.length_take]; omega)
    rw [hlo] at hL
    clear ht h4 hlo
    go_enter Tryz.func118, Tryz.ntmps118
    go_wp2_with fail
    refine (hL w).mono ?_
    rintro e w1 ⟨rfl, hB1⟩
    go_wp2_with fail
    refine (hasPre_any _ [110, 117, 108, 108] w1).mono ?_
    rintro e w2 ⟨rfl, rfl⟩
    rw [hn]
    go_wp2_with fail
    refine (hasPre_any _ [116, 114, 117, 101] w2).mono ?_
    rintro e w3 ⟨rfl, rfl⟩
    rw [htr]
    by_cases hl5 : t.length < 5
    · have t5 : decide ((t.length : Int) < 5) = true := by rw [decide_eq_true_eq]; omega
      go_wp2_with fail
      refine bodyPost_ret (v := .tuple #[.nilIface, S [], .bool false]) (by simp [results, Tryz.results118, go_sem]) rfl ?_
      exact ⟨rfl, hB1⟩
    · have t5 : decide ((t.length : Int) < 5) = false := by rw [decide_eq_false_iff_not]; omega
      go_wp2_with fail
      refine (lower_any ((t.drop 4).take 1) w3 (by rw [List.length_take]; omega)).mono ?_
      rintro e w4 ⟨rfl, hB4⟩
      go_wp2_with fail
      rw [cat_bytes]
      refine (hasPre_any _ [102, 97, 108, 115, 101] w4).mono ?_
      rintro e w5 ⟨rfl, rfl⟩
      rw [List.cons_append, hasPre_ne _ _ hb.2.2]
      go_wp2_with fail
      refine bodyPost_ret (v := .tuple #[.nilIface, S [], .bool false]) (by simp [results, Tryz.results118, go_sem]) rfl ?_
      exact ⟨rfl, hB1.trans (hB4.mono hB1.size)⟩
set_option maxHeartbeats 4000000 in
set_option maxRecDepth 100000 in
theorem boolNull_null (r : List UInt8) (w : World) (hs : r.length ≤ 1048570) : Calls Tryz.prog 118 #[S (wNull ++ r)] w fun e w' => e = .returned (.tuple #[.nilIface, S wNull, .bool true]) ∧ Below w.heap.size w w' := by
  obtain ⟨t, ht⟩ : ∃ t : List UInt8, t = wNull ++ r := ⟨_, rfl⟩
  have htl : t.length = r.length + 4 := by rw [ht]; simp [wNull]
  have t4 : decide ((t.length : Int) < 4) = false := by rw [decide_eq_false_iff_not]; omega
  have hex : (ByteArray.mk t.toArray).extract 0 4 = ⟨([110, 117, 108, 108] : List UInt8).toArray⟩ := by rw [ByteArray.extract_mk, ht]; rfl
  have hL := fun w => lower_any [110, 117, 108, 108] w (by decide)
  rw [show ([110, 117, 108, 108] : List UInt8).map lowB = [110, 117, 108, 108] by decide] at hL
  rw [← ht]
  clear ht
  go_enter Tryz.func118, Tryz.ntmps118
  go_wp2_with fail
  refine (hL w).mono ?_
  rintro e w1 ⟨rfl, hB1⟩
  go_wp2_with fail
  refine (hasPre_any _ [110, 117, 108, 108] w1).mono ?_
  rintro e w2 ⟨rfl, rfl⟩
  rw [show Lib.hasPrefix [110, 117, 108, 108] [110, 117, 108, 108] = true by decide]
  go_wp2_with fail
  refine bodyPost_ret (v := .tuple #[.nilIface, S wNull, .bool true]) (by simp [results, Tryz.results118, go_sem, wNull]) rfl ?_
  exact ⟨rfl, hB1⟩

set_option maxHeartbeats 4000000 in
set_option maxRecDepth 100000 in
theorem boolNull_true (r : List UInt8) (w : World) (hs : r.length ≤ 1048570) : Calls Tryz.prog 118 #[S (wTrue ++ r)] w fun e w' => e = .returned (.tuple #[.iface 100 (.bool true), S wTrue, .bool true]) ∧ Below w.heap.size w w' := by
  obtain ⟨t, ht⟩ : ∃ t : List UInt8, t = wTrue ++ r := ⟨_, rfl⟩
  have htl : t.length = r.length + 4 := by rw [ht]; simp [wTrue]
  have t4 : decide ((t.length : Int) < 4) = false := by rw [decide_eq_false_iff_not]; omega
  have hex : (ByteArray.mk t.toArray).extract 0 4 = ⟨([116, 114, 117, 101] : List UInt8).toArray⟩ := by rw [ByteArray.extract_mk, ht]; rfl
  have hL := fun w => lower_any [116, 114, 117, 101] w (by decide)
  rw [show ([116, 114, 117, 101] : List UInt8).map lowB = [116, 114, 117, 101] by decide] at hL
  rw [← ht]
  clear ht
  go_enter Tryz.func118, Tryz.ntmps118
  go_wp2_with fail
  refine (hL w).mono ?_
  rintro e w1 ⟨rfl, hB1⟩
  go_wp2_with fail
  refine (hasPre_any _ [110, 117, 108, 108] w1).mono ?_
  rintro e w2 ⟨rfl, rfl⟩
  rw [show Lib.hasPrefix [116, 114, 117, 101] [110, 117, 108, 108] = false by decide]
  go_wp2_with fail
  refine (hasPre_any _ [116, 114, 117, 101] w2).mono ?_
  rintro e w3 ⟨rfl, rfl⟩
  rw [show Lib.hasPrefix [116, 114, 117, 101] [116, 114, 117, 101] = true by decide]
  go_wp2_with fail
  refine bodyPost_ret (v := .tuple #[.iface 100 (.bool true), S wTrue, .bool true]) (by simp [results, Tryz.results118, go_sem, wTrue]) rfl ?_
  exact ⟨rfl, hB1⟩

set_option maxHeartbeats 4000000 in
set_option maxRecDepth 100000 in
theorem boolNull_false (r : List UInt8) (w : World) (hs : r.length ≤ 1048570) : Calls Tryz.prog 118 #[S (wFalse ++ r)] w fun e w' => e = .returned (.tuple #[.iface 100 (.bool false), S wFalse, .bool true]) ∧ Below w.heap.size w w' := by
  obtain ⟨t, ht⟩ : ∃ t : List UInt8, t = wFalse ++ r := ⟨_, rfl⟩
  have htl : t.length = r.length + 5 := by rw [ht]; simp [wFalse]
  have t4 : decide ((t.length : Int) < 4) = false := by rw [decide_eq_false_iff_not]; omega
  have hex : (ByteArray.mk t.toArray).extract 0 4 = ⟨([102, 97, 108, 115] : List UInt8).toArray⟩ := by rw [ByteArray.extract_mk, ht]; rfl
  have hL := fun w => lower_any [102, 97, 108, 115] w (by decide)
  rw [show ([102, 97, 108, 115] : List UInt8).map lowB = [102, 97, 108, 115] by decide] at hL
  have t5 : decide ((t.length : Int) < 5) = false := by rw [decide_eq_false_iff_not]; omega
  have hex5 : (ByteArray.mk t.toArray).extract 4 5 = ⟨([101] : List UInt8).toArray⟩ := by rw [ByteArray.extract_mk, ht]; rfl
  rw [← ht]
  clear ht
  go_enter Tryz.func118, Tryz.ntmps118
  go_wp2_with fail
  refine (hL w).mono ?_
  rintro e w1 ⟨rfl, hB1⟩
  go_wp2_with fail
  refine (hasPre_any _ [110, 117, 108, 108] w1).mono ?_
  rintro e w2 ⟨rfl, rfl⟩
  rw [show Lib.hasPrefix [102, 97, 108, 115] [110, 117, 108, 108] = false by decide]
  go_wp2_with fail
  refine (hasPre_any _ [116, 114, 117, 101] w2).mono ?_
  rintro e w3 ⟨rfl, rfl⟩
  rw [show Lib.hasPrefix [102, 97, 108, 115] [116, 114, 117, 101] = false by decide]
  go_wp2_with fail
  refine (lower_any [101] w3 (by decide)).mono ?_
  rw [show ([101] : List UInt8).map lowB = [101] by decide]
  rintro e w4 ⟨rfl, hB4⟩
  go_wp2_with fail
  first | rw [cat_bytes] | skip
  refine (hasPre_any [102, 97, 108, 115, 101] [102, 97, 108, 115, 101] w4).mono ?_
  rintro e w5 ⟨rfl, rfl⟩
  rw [show Lib.hasPrefix [102, 97, 108, 115, 101] [102, 97, 108, 115, 101] = true by decide]
  go_wp2_with fail
  refine bodyPost_ret (v := .tuple #[.iface 100 (.bool false), S wFalse, .bool true]) (by simp [results, Tryz.results118, go_sem, wFalse]) rfl ?_
  exact ⟨rfl, hB1.trans (hB4.mono hB1.size)⟩

/-- A text of digits and points alone behind a leading 0. -/
def zeroOk (x : List UInt8) : Prop := ∀ h : 0 < x.length, x[0].toNat = 48 → ∀ b ∈ x, digitB b = true ∨ b.toNat = 46
def startRet (t : List UInt8) (n : Nat) : Value := .tuple #[S (t.take n), S (t.drop n), .int .i64 (if n < t.length then (n : Int) else -1)]

set_option maxHeartbeats 8000000 in
set_option maxRecDepth 100000 in
theorem start_any (t : List UInt8) (n : Nat) (w : World) (hs : t.length ≤ 1048576) (hcl : cleanM cNum t) (hnx : nextM cNum t = n) (hn0 : 0 < n) (hz : zeroOk (t.take n)) :
    Calls Tryz.prog 145 #[S t] w fun e w' => e = .returned (startRet t n) ∧ Below w.heap.size w w' := by
  have hn2 := next_any cNum t w hs (by decide) (by decide) (by decide) hcl
  have hnle := nextM_le cNum t
  rw [hnx] at hnle
  unfold nextRet at hn2
  rw [hnx] at hn2
  obtain ⟨x, hx⟩ : ∃ x, x = t.take n := ⟨_, rfl⟩
  have hxl : x.length = n := by rw [hx, List.length_take]; omega
  have hx0 : 0 < x.length := by omega
  have hexn : (ByteArray.mk t.toArray).extract n t.length = ⟨(t.drop n).toArray⟩ := by rw [ByteArray.extract_mk, List.take_of_length_le (by rw [List.length_drop]; omega)]
  have hexl : (ByteArray.mk t.toArray).extract t.length t.length = ⟨([] : List UInt8).toArray⟩ := by rw [ByteArray.extract_mk]; simp
  have hex0 : (ByteArray.mk t.toArray).extract 0 n = ⟨x.toArray⟩ := by rw [ByteArray.extract_mk, hx]; simp
  have Hz := Lib.hid (show zeroOk x by rw [hx]; exact hz)
  have hret : startRet t n = .tuple #[S x, S (t.drop n), .int .i64 (if n < t.length then (n : Int) else -1)] := by rw [hx]; rfl
  have Hret := Lib.hid hret
  have Hx := Lib.hid hx
  have Hxl := Lib.hid hxl
  clear hz hcl hret hx hxl
  have hib : n ≤ 1048576 := by omega
  have hxb : x.length ≤ 1048576 := by have := Hxl.out; omega
  -- the rest, once the three texts are known
  go_enter Tryz.func145, Tryz.ntmps145
  go_wp2_with fail
  refine hn2.mono ?_
  rintro e w1 ⟨rfl, hB1⟩
  have HB := Lib.hid hB1
  clear hB1 hn2
  by_cases hlt : n < t.length
  · rw [if_pos hlt, if_pos hlt]
    have tn : decide ((0 : Int) < (n : Int)) = true := by rw [decide_eq_true_eq]; omega
    have Hi := Lib.hid (show (if n < t.length then (n : Int) else -1) = (n : Int) from if_pos hlt)
    by_cases h1 : x.length ≤ 1
    · have t1 : decide ((1 : Int) < (x.length : Int)) = false := by rw [decide_eq_false_iff_not]; omega
      go_wp2_with fail
      refine bodyPost_ret (v := .tuple #[S x, S (t.drop n), .int .i64 n]) (by simp [results, Tryz.results145, go_sem]) rfl ?_
      exact ⟨by rw [Hret.out, Hi.out], HB.out⟩
    · have t1 : decide ((1 : Int) < (x.length : Int)) = true := by rw [decide_eq_true_eq]; omega
      have hx1 : 1 < x.length := by omega
      by_cases h0 : (x[0]'hx0).toNat = 48
      · have t0 : (((x[0].toNat : Nat) : Int) == 48) = true := by rw [beq_iff_eq]; omega
        have hall := Hz.out hx0 h0
        have t43 : (((x[1].toNat : Nat) : Int) == 43) = false := by rw [beq_eq_false_iff_ne]; have := hall x[1] (List.getElem_mem hx1); unfold digitB at this; rw [decide_eq_true_eq] at this; omega
        have t45 : (((x[1].toNat : Nat) : Int) == 45) = false := by rw [beq_eq_false_iff_ne]; have := hall x[1] (List.getElem_mem hx1); unfold digitB at this; rw [decide_eq_true_eq] at this; omega
        have Hall := Lib.hid hall
        clear hall h0
        by_cases h46 : (x[1]'hx1).toNat = 46
        · have t46 : (((x[1].toNat : Nat) : Int) == 46) = true := by rw [beq_iff_eq]; omega
          clear h46
          go_wp2_with fail
          go_loopg [9] x.length (fun g s9 wr => ∃ i : Nat, s9 = .int .i64 i ∧ 2 ≤ i ∧ i ≤ x.length ∧ i + g ≤ x.length + 2 ∧ x.length ≤ i + g ∧ wr = w1)
          case atStart => exact ⟨2, rfl, Nat.le_refl _, by omega, by omega, by omega, rfl⟩
          case round =>
            obtain ⟨i, rfl, hi2, hil, hg1, hg2, rfl⟩ := hrel
            have Hg1 := Lib.hid hg1
            have Hg2 := Lib.hid hg2
            clear hg1 hg2
            by_cases hi : i < x.length
            · have ti : decide ((i : Int) < (x.length : Int)) = true := by rw [decide_eq_true_eq]; omega
              have hall := Hall.out x[i] (List.getElem_mem hi)
              have u43 : (((x[i].toNat : Nat) : Int) == 43) = false := by rw [beq_eq_false_iff_ne]; unfold digitB at hall; rw [decide_eq_true_eq] at hall; omega
              have u45 : (((x[i].toNat : Nat) : Int) == 45) = false := by rw [beq_eq_false_iff_ne]; unfold digitB at hall; rw [decide_eq_true_eq] at hall; omega
              clear hall
              by_cases c48 : x[i].toNat = 48
              · have u48 : (((x[i].toNat : Nat) : Int) == 48) = true := by rw [beq_iff_eq]; omega
                clear c48
                go_wp2_with fail
                go_roundg (x.length - (i + 1))
                case measure => have := Hg2.out; omega
                case rel => exact ⟨i + 1, by go_num, by omega, by omega, by omega, by omega, rfl⟩
              · have u48 : (((x[i].toNat : Nat) : Int) == 48) = false := by rw [beq_eq_false_iff_ne]; omega
                clear c48
                go_wp2_with fail
                refine bodyPost_ret (v := .tuple #[S x, S (t.drop n), .int .i64 n]) (by simp [results, Tryz.results145, go_sem]) rfl ?_
                exact ⟨by rw [Hret.out, Hi.out], HB.out⟩
            · have ti : decide ((i : Int) < (x.length : Int)) = false := by rw [decide_eq_false_iff_not]; omega
              go_wp2_with fail
              refine bodyPost_ret (v := .tuple #[S x, S (t.drop n), .int .i64 n]) (by simp [results, Tryz.results145, go_sem]) rfl ?_
              exact ⟨by rw [Hret.out, Hi.out], HB.out⟩
        · have t46 : (((x[1].toNat : Nat) : Int) == 46) = false := by rw [beq_eq_false_iff_ne]; omega
          clear h46
          go_wp2_with fail
          refine bodyPost_ret (v := .tuple #[S x, S (t.drop n), .int .i64 n]) (by simp [results, Tryz.results145, go_sem]) rfl ?_
          exact ⟨by rw [Hret.out, Hi.out], HB.out⟩
      · have t0 : (((x[0].toNat : Nat) : Int) == 48) = false := by rw [beq_eq_false_iff_ne]; omega
        clear h0
        go_wp2_with fail
        refine bodyPost_ret (v := .tuple #[S x, S (t.drop n), .int .i64 n]) (by simp [results, Tryz.results145, go_sem]) rfl ?_
        exact ⟨by rw [Hret.out, Hi.out], HB.out⟩
  · rw [if_neg hlt, if_neg hlt]
    have hxt : x = t := by have h1 := Hx.out; rw [List.take_of_length_le (by omega)] at h1; exact h1
    have hdr : t.drop n = [] := List.drop_eq_nil_of_le (by omega)
    have Hi := Lib.hid (show (if n < t.length then (n : Int) else -1) = (-1 : Int) from if_neg hlt)
    rw [hdr] at Hret
    subst hxt
    by_cases h1 : x.length ≤ 1
    · have t1 : decide ((1 : Int) < (x.length : Int)) = false := by rw [decide_eq_false_iff_not]; omega
      go_wp2_with fail
      refine bodyPost_ret (v := .tuple #[S x, S [], .int .i64 (-1)]) (by simp [results, Tryz.results145, go_sem]; rfl) rfl ?_
      exact ⟨by rw [Hret.out, Hi.out], HB.out⟩
    · have t1 : decide ((1 : Int) < (x.length : Int)) = true := by rw [decide_eq_true_eq]; omega
      have hx1 : 1 < x.length := by omega
      by_cases h0 : (x[0]'hx0).toNat = 48
      · have t0 : (((x[0].toNat : Nat) : Int) == 48) = true := by rw [beq_iff_eq]; omega
        have hall := Hz.out hx0 h0
        have t43 : (((x[1].toNat : Nat) : Int) == 43) = false := by rw [beq_eq_false_iff_ne]; have := hall x[1] (List.getElem_mem hx1); unfold digitB at this; rw [decide_eq_true_eq] at this; omega
        have t45 : (((x[1].toNat : Nat) : Int) == 45) = false := by rw [beq_eq_false_iff_ne]; have := hall x[1] (List.getElem_mem hx1); unfold digitB at this; rw [decide_eq_true_eq] at this; omega
        have Hall := Lib.hid hall
        clear hall h0
        by_cases h46 : (x[1]'hx1).toNat = 46
        · have t46 : (((x[1].toNat : Nat) : Int) == 46) = true := by rw [beq_iff_eq]; omega
          clear h46
          go_wp2_with fail
          go_loopg [9] x.length (fun g s9 wr => ∃ i : Nat, s9 = .int .i64 i ∧ 2 ≤ i ∧ i ≤ x.length ∧ i + g ≤ x.length + 2 ∧ x.length ≤ i + g ∧ wr = w1)
          case atStart => exact ⟨2, rfl, Nat.le_refl _, by omega, by omega, by omega, rfl⟩
          case round =>
            obtain ⟨i, rfl, hi2, hil, hg1, hg2, rfl⟩ := hrel
            have Hg1 := Lib.hid hg1
            have Hg2 := Lib.hid hg2
            clear hg1 hg2
            by_cases hi : i < x.length
            · have ti : decide ((i : Int) < (x.length : Int)) = true := by rw [decide_eq_true_eq]; omega
              have hall := Hall.out x[i] (List.getElem_mem hi)
              have u43 : (((x[i].toNat : Nat) : Int) == 43) = false := by rw [beq_eq_false_iff_ne]; unfold digitB at hall; rw [decide_eq_true_eq] at hall; omega
              have u45 : (((x[i].toNat : Nat) : Int) == 45) = false := by rw [beq_eq_false_iff_ne]; unfold digitB at hall; rw [decide_eq_true_eq] at hall; omega
              clear hall
              by_cases c48 : x[i].toNat = 48
              · have u48 : (((x[i].toNat : Nat) : Int) == 48) = true := by rw [beq_iff_eq]; omega
                clear c48
                go_wp2_with fail
                go_roundg (x.length - (i + 1))
                case measure => have := Hg2.out; omega
                case rel => exact ⟨i + 1, by go_num, by omega, by omega, by omega, by omega, rfl⟩
              · have u48 : (((x[i].toNat : Nat) : Int) == 48) = false := by rw [beq_eq_false_iff_ne]; omega
                clear c48
                go_wp2_with fail
                refine bodyPost_ret (v := .tuple #[S x, S [], .int .i64 (-1)]) (by simp [results, Tryz.results145, go_sem]; rfl) rfl ?_
                exact ⟨by rw [Hret.out, Hi.out], HB.out⟩
            · have ti : decide ((i : Int) < (x.length : Int)) = false := by rw [decide_eq_false_iff_not]; omega
              go_wp2_with fail
              refine bodyPost_ret (v := .tuple #[S x, S [], .int .i64 (-1)]) (by simp [results, Tryz.results145, go_sem]; rfl) rfl ?_
              exact ⟨by rw [Hret.out, Hi.out], HB.out⟩
        · have t46 : (((x[1].toNat : Nat) : Int) == 46) = false := by rw [beq_eq_false_iff_ne]; omega
          clear h46
          go_wp2_with fail
          refine bodyPost_ret (v := .tuple #[S x, S [], .int .i64 (-1)]) (by simp [results, Tryz.results145, go_sem]; rfl) rfl ?_
          exact ⟨by rw [Hret.out, Hi.out], HB.out⟩
      · have t0 : (((x[0].toNat : Nat) : Int) == 48) = false := by rw [beq_eq_false_iff_ne]; omega
        clear h0
        go_wp2_with fail
        refine bodyPost_ret (v := .tuple #[S x, S [], .int .i64 (-1)]) (by simp [results, Tryz.results145, go_sem]; rfl) rfl ?_
        exact ⟨by rw [Hret.out, Hi.out], HB.out⟩
end Go.Proofs.YtcpijmbdibgdmaaGreatDoor

namespace Go.Proofs.YtcpijmbdibgdmaaGreatDoor
open Go.RowKit
attribute [local go_sem] ba_get store_flt

set_option maxHeartbeats 4000000 in
set_option maxRecDepth 100000 in
theorem start_pct (w : World) : Calls Tryz.prog 145 #[S [37]] w fun e w' => e = .returned (.tuple #[S [37], S [], .int .i64 0]) ∧ Below w.heap.size w w' := by
  have hn2 := next_any cNum [37] w (by decide) (by decide) (by decide) (by decide) ⟨by decide, fun _ => trivial⟩
  rw [show nextRet cNum [37] = .tuple #[.int .i64 0, S [37]] by rfl] at hn2
  go_enter Tryz.func145, Tryz.ntmps145
  go_wp2_with fail
  refine hn2.mono ?_
  rintro e w1 ⟨rfl, hB1⟩
  go_wp2_with fail
  refine bodyPost_ret (v := .tuple #[S [37], S [], .int .i64 0]) (by simp [results, Tryz.results145, go_sem]; try rfl) rfl ?_
  exact ⟨rfl, hB1⟩

set_option maxHeartbeats 1000000 in
theorem newRef_any (n g : Int) (w : World) : Calls Tryz.prog 60 #[.int .i64 n, .int .i64 g] w fun e w' => e = .returned (.pointer (some ⟨w.heap.size, 0, none⟩)) ∧ w' = w.alloc (.cells #[.int .i64 n, .int .i64 g] 107) := by
  go_enter Tryz.func60, Tryz.ntmps60
  go_wp2_with fail
  go_ret
  exact ⟨rfl, rfl⟩
/-- Behind the second number: R or not. -/
def isR (l : List UInt8) : Bool := match l with | b :: _ => b.toNat == 82 | [] => false

set_option maxHeartbeats 4000000 in
set_option maxRecDepth 100000 in
theorem indRef_any (x r l1 : List UInt8) (n : Int) (n2 m2 p : Nat) (W0 w : World) (hG : Glob W0) (hW : Below W0.heap.size W0 w) (hp : W0.heap.size ≤ p) (hx : x.length ≤ 1048576) (hr : r.length ≤ 1048576) (hn2 : n2 < r.length)
    (hc : ∀ g, Lib.atoiAll x = .ok g → Clear (r.drop n2) m2) {t0 : List UInt8} (hL : Blk w p 9 #[S t0]) :
    Calls Tryz.prog 149 #[S x, S r, S l1, .pointer (some ⟨p, 0, none⟩), .int .i64 n, .int .i64 n2] w fun e w' =>
      ∃ v, ((∃ g, Lib.atoiAll x = .ok g) ∧ isR ((r.drop n2).drop m2) = true → IVal v ∧ OkP w p (((r.drop n2).drop m2).drop 1) v e w') ∧
        (¬((∃ g, Lib.atoiAll x = .ok g) ∧ isR ((r.drop n2).drop m2) = true) → v = .iface 101 (.int .i64 n) ∧ OkP w p l1 v e w') := by
  have c0 : w.cell? ⟨p, 0, none⟩ = some (S t0) := hL.cell 0
  have f0 := hL.frozen 0
  have hpl := hL.lt
  have hex : (ByteArray.mk r.toArray).extract n2 r.length = ⟨(r.drop n2).toArray⟩ := by rw [ByteArray.extract_mk, List.take_of_length_le (by rw [List.length_drop]; omega)]
  have hat := atoi_all x W0 w hG hW hx
  have Hc := Lib.hid hc
  clear hc
  go_enter Tryz.func149, Tryz.ntmps149
  go_wp2_with fail
  refine hat.mono ?_
  rintro e w1 ⟨⟨g, ev, rfl, hg⟩, hB1⟩
  have c1 : w1.cell? ⟨p, 0, none⟩ = some (S t0) := (hB1.cell (p := ⟨p, 0, none⟩) hpl).trans c0
  have f1 : w1.frozen? ⟨p, 0, none⟩ = false := (hB1.frozen (p := ⟨p, 0, none⟩) hpl).trans f0
  have hL1 : Blk w1 p 9 #[S t0] := hL.below hB1 hpl
  rcases hg with ⟨hg, rfl⟩ | ⟨hg, N, q, rfl, hN, hNs, hq⟩
  · have Hg := Lib.hid hg
    clear hg
    go_wp2_with fail
    refine (trim_any (r.drop n2) m2 w1 (by rw [List.length_drop]; omega) (Hc.out g Hg.out)).mono ?_
    rintro e w2 ⟨⟨r3, rfl, hr3⟩, hB2⟩
    have hB12 : Below w.heap.size w w2 := hB1.trans (hB2.mono hB1.size)
    have c2 : w2.cell? ⟨p, 0, none⟩ = some (S t0) := (hB12.cell (p := ⟨p, 0, none⟩) hpl).trans c0
    have f2 : w2.frozen? ⟨p, 0, none⟩ = false := (hB12.frozen (p := ⟨p, 0, none⟩) hpl).trans f0
    have hL2 : Blk w2 p 9 #[S t0] := hL.below hB12 hpl
    have Hr3 := Lib.hid hr3
    clear hr3
    have hrl : r3.length ≤ 1048576 := by
      rcases Hr3.out with h | ⟨_, h⟩
      · rw [h, List.length_drop, List.length_drop]; omega
      · rw [h]; decide
    have hisr : isR r3 = isR ((r.drop n2).drop m2) := by
      rcases Hr3.out with h | ⟨h1, h⟩
      · rw [h]
      · rw [h, List.drop_eq_nil_of_le (by omega)]; rfl
    have Hisr := Lib.hid hisr
    clear hisr
    by_cases h0 : r3.length = 0
    · have t0' : ((r3.length : Int) == 0) = true := by rw [beq_iff_eq]; omega
      have hnr : isR r3 = false := by rw [List.eq_nil_of_length_eq_zero h0]; rfl
      have Hnr := Lib.hid hnr
      clear hnr h0
      go_wp2_with fail
      refine bodyPost_ret (v := .tuple #[.iface 101 (.int .i64 n), .nilIface]) (by simp [results, Tryz.results149, go_sem]) rfl ?_
      refine ⟨_, fun h => ?_, fun _ => ⟨rfl, rfl, by have := Blk.set_ hL2 0 (S l1); simpa using this, only_set (only_of_below hB12) _ _⟩⟩
      have := h.2
      rw [← Hisr.out, Hnr.out] at this
      cases this
    · have t0' : ((r3.length : Int) == 0) = false := by rw [beq_eq_false_iff_ne]; omega
      have h0' : 0 < r3.length := by omega
      by_cases h82 : (r3[0]'h0').toNat = 82
      · have t82 : (((r3[0].toNat : Nat) : Int) == 82) = true := by rw [beq_iff_eq]; omega
        have hr : isR r3 = true := by
          rw [show r3 = r3[0] :: r3.drop 1 from List.drop_eq_getElem_cons h0']
          show (r3[0].toNat == 82) = true
          rw [beq_iff_eq]; exact h82
        have Hr := Lib.hid hr
        clear hr h82 h0
        go_wp2_with fail
        refine (forward1 r3 w2 hrl).mono ?_
        rintro e w3 ⟨rfl, rfl⟩
        go_wp2_with fail
        refine (newRef_any n g _).mono ?_
        rintro e w3 ⟨rfl, rfl⟩
        have hsz := hB12.size
        go_wp2_with fail
        refine bodyPost_ret (v := .tuple #[.iface 107 (.agg #[.int .i64 n, .int .i64 g]), .nilIface]) (by simp [results, Tryz.results149, go_sem]) rfl ?_
        have e3 : r3 = (r.drop n2).drop m2 := by
          rcases Hr3.out with h | ⟨_, h⟩
          · exact h
          · have := Hr.out; rw [h] at this; cases this
        refine ⟨_, fun h => ⟨.inr ⟨_, _, rfl⟩, rfl, ?_, only_alloc (only_set (only_of_below hB12) _ _) _⟩, fun h => absurd ⟨⟨g, Hg.out⟩, by rw [← Hisr.out]; exact Hr.out⟩ h⟩
        rw [← e3, List.drop_one]
        exact Blk.alloc (by have := Blk.set_ hL2 0 (S r3.tail); simpa using this) _
      · have t82 : (((r3[0].toNat : Nat) : Int) == 82) = false := by rw [beq_eq_false_iff_ne]; omega
        have hnr : isR r3 = false := by
          rw [show r3 = r3[0] :: r3.drop 1 from List.drop_eq_getElem_cons h0']
          show (r3[0].toNat == 82) = false
          rw [beq_eq_false_iff_ne]; exact h82
        have Hnr := Lib.hid hnr
        clear hnr h82 h0
        go_wp2_with fail
        refine bodyPost_ret (v := .tuple #[.iface 101 (.int .i64 n), .nilIface]) (by simp [results, Tryz.results149, go_sem]) rfl ?_
        refine ⟨_, fun h => ?_, fun _ => ⟨rfl, rfl, by have := Blk.set_ hL2 0 (S l1); simpa using this, only_set (only_of_below hB12) _ _⟩⟩
        have := h.2
        rw [← Hisr.out, Hnr.out] at this
        cases this
  · have Hg := Lib.hid hg
    clear hg
    go_wp2_with fail
    refine bodyPost_ret (v := .tuple #[.iface 101 (.int .i64 n), .nilIface]) (by simp [results, Tryz.results149, go_sem]) rfl ?_
    refine ⟨_, fun h => ?_, fun _ => ⟨rfl, rfl, by have := Blk.set_ hL1 0 (S l1); simpa using this, only_set (only_of_below hB1) _ _⟩⟩
    obtain ⟨⟨g', hg'⟩, _⟩ := h
    exact absurd hg' (Hg.out g')
end Go.Proofs.YtcpijmbdibgdmaaGreatDoor
