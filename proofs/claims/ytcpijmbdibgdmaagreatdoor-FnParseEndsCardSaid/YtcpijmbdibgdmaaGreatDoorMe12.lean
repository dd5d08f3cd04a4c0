/-
  types.DecodeName, of a name that the reader takes.
  package model: names; a word ends for the package where it ends for the reader.
  package model: hexString, and what it calls.
  package model: hexadecimal strings.
-/
import Derived.Test.YtcpijmbdibgdmaaGreatDoorMe11
import Derived.Test.YtcpijmbdibgdmaaGreatDoorMe01
import Derived.Test.YtcpijmbdibgdmaaGreatDoorMe07
set_option linter.all false
namespace Go.Proofs.YtcpijmbdibgdmaaGreatDoor
open Go.RowKit
attribute [local go_sem] ba_get store_flt

theorem hx_v (b : UInt8) : 0 ≤ hexV b → Lib.Hx.v b = (hexV b).toNat ∧ (hexV b).toNat ≤ 15 := by
  have H : ∀ b : Fin 256, 0 ≤ hexV (UInt8.ofNat b.val) → Lib.Hx.v (UInt8.ofNat b.val) = (hexV (UInt8.ofNat b.val)).toNat ∧ (hexV (UInt8.ofNat b.val)).toNat ≤ 15 := by decide +kernel
  have := H ⟨b.toNat, b.toNat_lt⟩
  simpa using this
theorem hx_two {x y : UInt8} (hx : 0 ≤ hexV x) (hy : 0 ≤ hexV y) : Lib.Hx.decode [x, y] = ([UInt8.ofNat (16 * hexV x + hexV y).toNat], .ok) := by
  obtain ⟨h1, h2⟩ := hx_v x hx
  obtain ⟨h3, h4⟩ := hx_v y hy
  rw [Lib.Hx.decode_two, if_neg (by omega), if_neg (by omega), Lib.Hx.decode_nil, h1, h3]
  simp only
  congr 3
  omega
theorem hexd_two (x y : UInt8) (hx : 0 ≤ hexV x) (hy : 0 ≤ hexV y) (ev : Value) (w : World) (hE : w.cell? ⟨18, 0, none⟩ = some ev) : Calls Tryz.prog 125 #[S [x, y]] w fun e w' =>
    e = .returned (.tuple #[.slice (some ⟨w.heap.size, 0, none⟩) 1 1, .nilIface]) ∧ w'.cell? ⟨w.heap.size, 0, none⟩ = some (.int .u8 (16 * hexV x + hexV y)) ∧ w.heap.size < w'.heap.size ∧ Below w.heap.size w w' := by
  have hd : Lib.Hx.decode (ByteArray.mk [x, y].toArray).data.toList = ([UInt8.ofNat (16 * hexV x + hexV y).toNat], .ok) := hx_two hx hy
  have h := Tryz.hex_DecodeString ⟨[x, y].toArray⟩ w ev hE (by show 2 ≤ 281474976710656; omega)
  rw [hd] at h
  refine h.mono ?_
  rintro e w' ⟨rfl, hrow, hb⟩
  have hc := World.rowIs.cell hrow (i := 0) (show 0 < 2 / 2 by omega)
  have h2 := (hx_v x hx).2
  have h4 := (hx_v y hy).2
  have hs : (ByteArray.mk [x, y].toArray).size = 2 := rfl
  refine ⟨by rw [hs]; rfl, ?_, ?_, hb⟩
  · rw [hc]
    simp only [Lib.Hx.rowP]
    rw [if_pos (by simp)]
    simp only [Nat.sub_zero, List.getElem?_cons_zero, Option.getD_some]
    congr 2
    rw [UInt8.toNat_ofNat']
    omega
  · rcases Nat.lt_or_ge w.heap.size w'.heap.size with h | h
    · exact h
    · obtain ⟨c, h1, _⟩ := hrow
      rw [Array.getElem?_eq_none h] at h1; cases h1

theorem copyCheck_over (B b : Nat) (bs : List Value) (w0 w : World) (h0 : Lib.IsBuilder 195 5 B b bs w0) (hw : Below w0.heap.size w0 w) :
    Calls Tryz.prog 166 #[.pointer (some ⟨b, 0, none⟩)] w fun e w' => e = .returned (.tuple #[]) ∧ B ≤ b ∧ (∃ v, w'.heap[b]? = some (.cells #[.pointer (some ⟨b, 0, none⟩), v] 195 (0, 0)) ∧ w'.ownsRow B 5 1 v bs.length bs ∧ v.ownBlock ≠ some b ∧ b < w0.heap.size ∧ ∀ k, v.ownBlock = some k → k < w0.heap.size) ∧ Below B w w' ∧
      ∀ i, w0.heap.size ≤ i → i < w.heap.size → w'.heap[i]? = w.heap[i]? := by
  obtain ⟨p, hp, hB, v, hbk, hown, hne⟩ : ∃ p, (p = .pointer none ∨ p = .pointer (some ⟨b, 0, none⟩)) ∧ Lib.BuilderAt 195 5 B b p bs w0 := by
    rcases h0 with h | h
    · exact ⟨_, .inl rfl, h⟩
    · exact ⟨_, .inr rfl, h⟩
  have hlt : b < w0.heap.size := by
    rcases Nat.lt_or_ge b w0.heap.size with h' | h'
    · exact h'
    · simp [Array.getElem?_eq_none h'] at hbk
  have hbk2 : w.heap[b]? = some (.cells #[p, v] 195 (0, 0)) := (hw.block b hlt).trans hbk
  have hown2 : w.ownsRow B 5 1 v bs.length bs := by
    refine World.ownsRow.kept (row := none) hown ⟨hw.os, hw.tape, hw.output, hw.size, fun k hk _ => hw.block k hk⟩ ?_
    rcases v.ownBlock with _ | k
    · exact .inl rfl
    · right; simp
  have hvl := fun k hk => (World.ownsRow.lt hown k hk).2
  rcases hp with rfl | rfl
  · refine (copyCheck_fresh b w (by simp [World.cell?, hbk2]) (by simp [World.shape?, hbk2]) (by simp [World.frozen?, hbk2])).mono ?_
    rintro e w' ⟨rfl, rfl⟩
    obtain ⟨_, v', hb', ho', hn'⟩ := Lib.BuilderAt.used (T := 195) (e := 5) (B := B) (b := b) (p := .pointer none) (bs := bs) (w := w) ⟨hB, v, hbk2, hown2, hne⟩ (.pointer (some ⟨b, 0, none⟩))
    have e1 : v' = v := by
      have : (w.setCell ⟨b, 0, none⟩ (.pointer (some ⟨b, 0, none⟩))).heap[b]? = some (.cells #[.pointer (some ⟨b, 0, none⟩), v] 195 (0, 0)) := by simp [World.setCell, Array.getElem?_modify, hbk2]
      rw [this] at hb'
      simp at hb'
      exact hb'.symm
    subst e1
    exact ⟨rfl, hB, ⟨v', hb', ho', hn', hlt, hvl⟩, (Below.refl B w).setCell (p := ⟨b, 0, none⟩) hB _, fun i hi _ => Below.heap_setCell _ _ _ _ (by simp only; omega)⟩
  · refine (copyCheck_used b w (by simp [World.cell?, hbk2])).mono ?_
    rintro e w' ⟨rfl, rfl⟩
    exact ⟨rfl, hB, ⟨v, hbk2, hown2, hne, hlt, hvl⟩, Below.refl B _, fun i _ _ => rfl⟩

set_option maxHeartbeats 2000000 in
set_option maxRecDepth 100000 in
theorem writeString_over (B b : Nat) (bs : List Value) (s : ByteArray) (w0 w : World) (h0 : Lib.IsBuilder 195 5 B b bs w0) (hw : Below w0.heap.size w0 w) (hlen : bs.length + s.size ≤ 140737488355328) (hBw : B ≤ w.heap.size) :
    Calls Tryz.prog 126 #[.pointer (some ⟨b, 0, none⟩), .string s] w fun e w' => e = .returned (.tuple #[.int .i64 s.size, .nilIface]) ∧ (Lib.BuilderAt 195 5 B b (.pointer (some ⟨b, 0, none⟩)) (bs ++ Lib.strCells s) w' ∧ Below B w w' ∧ ∀ i, w0.heap.size ≤ i → i < w.heap.size → w'.heap[i]? = w.heap[i]?) := by
  obtain ⟨i0, hi, hz0, hz1, hz2⟩ := info_parts Tryz.info5
  have hcc := copyCheck_over B b bs w0 w h0 hw
  go_enter Tryz.func126, Tryz.ntmps126
  go_wp2_with (go_at_call 166; refine hcc.mono ?_)
  rintro e w1 ⟨rfl, hB, ⟨v, hbk, hown, hne, hbl, hvl⟩, hb1, hk1⟩
  have c0 : w1.cell? ⟨b, 0, none⟩ = some (.pointer (some ⟨b, 0, none⟩)) := by rw [Lib.cell_of_heap hbk]; rfl
  have c1 : w1.cell? ⟨b, 1, none⟩ = some v := by rw [Lib.cell_of_heap hbk]; rfl
  go_wp2_with (at_builtin; refine Lib.wpList_append_own_string _ rfl _ _ 40 9 rfl B 5 i0 Tryz.underlying40 Tryz.underlying9 hi hz0 hz1 hz2 _ _ _ rfl hown s rfl ?c3 ?c4 ?c5 ?_)
  case c3 => unfold maxLen; omega
  case c4 => omega
  case c5 => have := hb1.size; omega
  intro v' w2 hown' hgrow _
  have hlt : b < w1.heap.size := by
    rcases Nat.lt_or_ge b w1.heap.size with h' | h'
    · exact h'
    · simp [Array.getElem?_eq_none h'] at hbk
  have hb2 : w2.heap[b]? = some (.cells #[.pointer (some ⟨b, 0, none⟩), v] 195 (0, 0)) := by
    rw [hgrow.block b hlt (fun e => hne e.symm)]
    exact hbk
  have d0 : w2.cell? ⟨b, 0, none⟩ = some (.pointer (some ⟨b, 0, none⟩)) := by rw [Lib.cell_of_heap hb2]; rfl
  have d1 : w2.cell? ⟨b, 1, none⟩ = some v := by rw [Lib.cell_of_heap hb2]; rfl
  have f1 : w2.frozen? ⟨b, 1, none⟩ = false := Lib.frozen_of_heap hb2 1
  obtain ⟨ao, n', cap, rfl⟩ : ∃ ao n' cap, v' = .slice ao n' cap := by
    rcases hown'.2 with ⟨hv, _⟩ | ⟨g, cap, cur, hv, _⟩
    · exact ⟨_, _, _, hv⟩
    · exact ⟨_, _, _, hv⟩
  go_wp2
  go_ret2
  refine ⟨rfl, ?_, ?_, ?_⟩
  · exact Lib.BuilderAt.put (T := 195) (e := 5) hB hb2 (bs' := bs ++ Lib.strCells s) (by simpa [Lib.strCells_length] using hown') (by decide)
  · exact (hb1.grown hgrow (by have := hb1.size; omega) (fun k hk => (hown.lt k hk).1)).setCell (p := ⟨b, 1, none⟩) hB _
  · intro i hi hiw
    have h1 := hk1 i hi hiw
    have hiw1 : i < w1.heap.size := by have := hb1.size; omega
    exact (Below.heap_setCell _ _ _ _ (by simp only; omega)).trans ((hgrow.block i hiw1 (fun e => by have := hvl i e.symm; omega)).trans h1)


theorem byteCells_snoc (bs : List UInt8) (b : UInt8) : Lib.byteCells (bs ++ [b]) = Lib.byteCells bs ++ [.int .u8 ((b.toNat : Nat) : Int)] := by simp [Lib.byteCells]
theorem isB_snoc {B b : Nat} {bs : List UInt8} {c : UInt8} {w : World} (h : Lib.BuilderAt 195 5 B b (.pointer (some ⟨b, 0, none⟩)) (Lib.byteCells bs ++ [.int .u8 ((c.toNat : Nat) : Int)]) w) : Lib.IsBuilder 195 5 B b (Lib.byteCells (bs ++ [c])) w := .inr (by rw [byteCells_snoc]; exact h)
theorem nbM_35 {b : UInt8} {l : List UInt8} (h : b.toNat = 35) (hn : (nbM (b :: l)).isSome = true) : ∃ x y l', l = x :: y :: l' ∧ 0 ≤ hexV x ∧ 0 ≤ hexV y ∧ 16 * hexV x + hexV y ≠ 0 ∧ (nbM l').isSome = true := by
  by_cases hl : l.length < 2
  · rw [nbM_short h hl] at hn; cases hn
  · rcases l with _ | ⟨x, _ | ⟨y, l'⟩⟩
    · simp at hl
    · simp at hl
    · rw [nbM_two h] at hn
      split at hn
      · cases hn
      · rename_i hc
        exact ⟨x, y, l', rfl, by omega, by omega, by omega, by simpa using hn⟩
theorem isB_below {B b : Nat} {bs : List Value} {w0 w : World} (h0 : Lib.IsBuilder 195 5 B b bs w0) (hw : Below w0.heap.size w0 w) : Lib.IsBuilder 195 5 B b bs w := by
  have key : ∀ p, Lib.BuilderAt 195 5 B b p bs w0 → Lib.BuilderAt 195 5 B b p bs w := fun p ⟨hB, v, hbk, hown, hne⟩ => by
    have hlt : b < w0.heap.size := by
      rcases Nat.lt_or_ge b w0.heap.size with h' | h'
      · exact h'
      · simp [Array.getElem?_eq_none h'] at hbk
    refine ⟨hB, v, (hw.block b hlt).trans hbk, ?_, hne⟩
    refine World.ownsRow.kept (row := none) hown ⟨hw.os, hw.tape, hw.output, hw.size, fun k hk _ => hw.block k hk⟩ ?_
    rcases v.ownBlock with _ | k
    · exact .inl rfl
    · right; simp
  rcases h0 with h | h
  · exact .inl (key _ h)
  · exact .inr (key _ h)

set_option maxHeartbeats 4000000 in
set_option maxRecDepth 100000 in
theorem decName_any (s : List UInt8) (ev : Value) (w : World) (hs : s.length ≤ 1048576) (h18 : 18 < w.heap.size) (hE : w.cell? ⟨18, 0, none⟩ = some ev) (hn : (nbM s).isSome = true) (hp : ∀ b ∈ s, b.toNat ≠ 0) :
    Calls Tryz.prog 103 #[S s] w fun e w' => (∃ x : List UInt8, e = .returned (.tuple #[S x, .nilIface])) ∧ Below w.heap.size w w' := by
  go_enter Tryz.func103, Tryz.ntmps103
  go_wp2_with fail
  go_loopg [4, 6] s.length (fun g s4 s6 wr => ∃ (rp : Bool) (i : Nat) (bs : List UInt8), s4 = .bool rp ∧ s6 = .int .i64 i ∧ i + g = s.length ∧ bs.length ≤ i ∧ (rp = true ∨ bs = []) ∧ Below w.heap.size w wr ∧ Lib.IsBuilder 195 5 w.heap.size w.heap.size (Lib.byteCells bs) wr ∧ Hid ((nbM (s.drop i)).isSome = true))
  case atStart => exact ⟨false, 0, [], rfl, rfl, by omega, Nat.le_refl _, .inr rfl, (Below.refl _ w).alloc (Nat.le_refl _) _, Lib.fresh_isBuilder 195 5 w, Lib.hid hn⟩
  case round =>
    obtain ⟨rp, i, bs, rfl, rfl, hg, hbl, hrp, hB, hIB, H⟩ := hrel
    have hib : i ≤ 1048576 := by omega
    have Hg := Lib.hid hg
    have Hrp := Lib.hid hrp
    clear hg hrp
    by_cases hi : i < s.length
    · have ti : decide ((i : Int) < (s.length : Int)) = true := by rw [decide_eq_true_eq]; omega
      have e1 : s.drop i = s[i] :: s.drop (i + 1) := List.drop_eq_getElem_cons hi
      have hz : s[i].toNat ≠ 0 := hp _ (List.getElem_mem hi)
      have tz : (((s[i].toNat : Nat) : Int) == 0) = false := by rw [beq_eq_false_iff_ne]; omega
      by_cases h35 : s[i].toNat = 35
      · have t35 : (((s[i].toNat : Nat) : Int) == 35) = true := by rw [beq_iff_eq]; omega
        have t35' : (((s[i].toNat : Nat) : Int) != 35) = false := by rw [bne_eq_false_iff_eq]; omega
        obtain ⟨x, y, l', hl, hx, hy, hxy, hnx⟩ := nbM_35 h35 (by have := H.out; rw [e1] at this; exact this)
        have hll := congrArg List.length hl
        rw [List.length_drop] at hll
        simp only [List.length_cons] at hll
        have hxr := hexV_rng x
        have hyr := hexV_rng y
        have hl3 : s.drop (i + 3) = l' := by
          have := congrArg (List.drop 2) hl
          rw [List.drop_drop] at this
          simpa [Nat.add_assoc] using this
        have hex : (ByteArray.mk s.toArray).extract (i + 1) (i + 3) = ⟨[x, y].toArray⟩ := by
          rw [ByteArray.extract_mk, hl, show i + 3 - (i + 1) = 2 by omega]
          rfl
        have t3 : decide ((s.length : Int) < (i : Int) + 3) = false := by rw [decide_eq_false_iff_not]; omega
        have i3 : (i : Int) + 3 ≤ (s.length : Int) := by omega
        have txy : ((16 * hexV x + hexV y : Int) == 0) = false := by rw [beq_eq_false_iff_ne]; exact hxy
        have hEr : wr.cell? ⟨18, 0, none⟩ = some ev := (hB.cell (p := ⟨18, 0, none⟩) h18).trans hE
        obtain ⟨c, hcv⟩ : ∃ c : UInt8, ((c.toNat : Nat) : Int) = 16 * hexV x + hexV y := ⟨UInt8.ofNat (16 * hexV x + hexV y).toNat, by rw [UInt8.toNat_ofNat']; omega⟩
        have Hnx := Lib.hid (show (nbM (s.drop (i + 3))).isSome = true by rw [hl3]; exact hnx)
        have Hcv := Lib.hid hcv
        have Hhx := Lib.hid (And.intro hx hy)
        have Hh35 := Lib.hid h35
        have Hp := Lib.hid hp
        clear hnx hl3 hl hcv hx hy h35 hp e1 hn hxy hll
        have hd2 := hexd_two x y Hhx.out.1 Hhx.out.2 ev wr hEr
        cases rp with
        | false =>
          go_wp2_with fail
          rw [hex]
          refine hd2.mono ?_
          rintro e w2 ⟨rfl, hc0, hlt2, hb2⟩
          go_wp2_with fail
          have hbs : bs = [] := by rcases Hrp.out with h | h; cases h; exact h
          refine (writeString_over w.heap.size w.heap.size (Lib.byteCells bs) _ wr w2 hIB hb2 (by rw [Lib.byteCells_length, ByteArray.extract_mk]; show _ + List.length _ ≤ _; rw [List.length_take]; omega) (Nat.le_trans hB.size hb2.size)).mono ?_
          rintro e w3 ⟨rfl, hA3, hb3, hk3⟩
          have hc3 : w3.cell? ⟨wr.heap.size, 0, none⟩ = some (.int .u8 (16 * hexV x + hexV y)) := (World.cell?_of_block (w := w2) (hk3 _ (Nat.le_refl _) hlt2)).trans hc0
          have hwb : w.heap.size < wr.heap.size := by
            rcases hIB with h | h
            · exact Lib.BuilderAt.lt h
            · exact Lib.BuilderAt.lt h
          go_wp2_with fail
          refine (write_one w.heap.size w.heap.size _ wr.heap.size 1 (16 * hexV x + hexV y) w3 (.inr hA3) (by simp only [List.length_append, Lib.byteCells_length, Lib.strCells_length, ByteArray.extract_mk]; show _ + List.length _ + _ ≤ _; rw [List.length_take]; omega) (by have := hb3.size; have := hb2.size; have := hB.size; omega) hc3 (by omega)).mono ?_
          rintro e w4 ⟨rfl, hA4, hb4⟩
          go_wp2_with fail
          go_roundg (s.length - (i + 3))
          case measure => have := Hg.out; omega
          case rel =>
            refine ⟨true, i + 3, s.take i ++ [c], rfl, by go_num, by have := Hg.out; omega, by simp; omega, .inl rfl, hB.trans ((hb2.mono hB.size).trans (hb3.trans hb4)), isB_snoc ?_, Hnx⟩
            rw [Hcv.out]
            have e5 : Lib.byteCells bs ++ Lib.strCells ((ByteArray.mk s.toArray).extract 0 i) = Lib.byteCells (s.take i) := by
              rw [hbs, ByteArray.extract_mk, Lib.strCells_eq]
              simp [Lib.byteCells]
            rw [← e5]
            exact hA4
        | true =>
          go_wp2_with fail
          refine hd2.mono ?_
          rintro e w2 ⟨rfl, hc0, hlt2, hb2⟩
          have hwb : w.heap.size < wr.heap.size := by
            rcases hIB with h | h
            · exact Lib.BuilderAt.lt h
            · exact Lib.BuilderAt.lt h
          go_wp2_with fail
          refine (write_one w.heap.size w.heap.size (Lib.byteCells bs) wr.heap.size 1 (16 * hexV x + hexV y) w2 (isB_below hIB hb2) (by rw [Lib.byteCells_length]; omega) (Nat.le_trans hB.size hb2.size) hc0 (by omega)).mono ?_
          rintro e w4 ⟨rfl, hA4, hb4⟩
          go_wp2_with fail
          go_roundg (s.length - (i + 3))
          case measure => have := Hg.out; omega
          case rel => exact ⟨true, i + 3, bs ++ [c], rfl, by go_num, by have := Hg.out; omega, by simp; omega, .inl rfl, hB.trans ((hb2.mono hB.size).trans hb4), isB_snoc (by rw [Hcv.out]; exact hA4), Hnx⟩
      · have t35 : (((s[i].toNat : Nat) : Int) == 35) = false := by rw [beq_eq_false_iff_ne]; omega
        have t35' : (((s[i].toNat : Nat) : Int) != 35) = true := by rw [bne_iff_ne]; omega
        have hnx : (nbM (s.drop (i + 1))).isSome = true := by
          have := H.out
          rw [e1, nbM_plain h35] at this
          simpa using this
        have Hnx := Lib.hid hnx
        have H35 := Lib.hid h35
        have Hp := Lib.hid hp
        clear hnx h35 hp e1 hn
        cases rp with
        | false =>
          go_wp2_with fail
          go_roundg (s.length - (i + 1))
          case measure => have := Hg.out; omega
          case rel => exact ⟨false, i + 1, bs, rfl, by go_num, by have := Hg.out; omega, by omega, Hrp.out, hB, hIB, Hnx⟩
        | true =>
          go_wp2_with (go_at_call 124; refine (writeByte_any w.heap.size w.heap.size (Lib.byteCells bs) ((s[i].toNat : Nat) : Int) _ hIB (by rw [Lib.byteCells_length]; omega) hB.size).mono ?_; rintro e w2 ⟨rfl, h2, h3⟩)
          go_roundg (s.length - (i + 1))
          case measure => have := Hg.out; omega
          case rel => exact ⟨true, i + 1, bs ++ [s[i]], rfl, by go_num, by have := Hg.out; omega, by simp; omega, .inl rfl, hB.trans h3, isB_snoc h2, Hnx⟩
    · have ti : decide ((i : Int) < (s.length : Int)) = false := by rw [decide_eq_false_iff_not]; omega
      cases rp with
      | false =>
        go_wp2_with fail
        refine bodyPost_ret (v := .tuple #[S s, .nilIface]) (by simp [results, Tryz.results103, go_sem]) rfl ?_
        exact ⟨⟨_, rfl⟩, hB⟩
      | true =>
        go_wp2_with (go_at_call 128; refine (Tryz.Builder_String_any w.heap.size w.heap.size bs _ hIB hB.size).mono ?_; rintro e w2 ⟨rfl, h3⟩)
        refine bodyPost_ret (v := .tuple #[S bs, .nilIface]) (by simp [results, Tryz.results103, go_sem]) rfl ?_
        exact ⟨⟨_, rfl⟩, hB.trans h3⟩
end Go.Proofs.YtcpijmbdibgdmaaGreatDoor

namespace Go.Proofs.YtcpijmbdibgdmaaGreatDoor
open Go.RowKit
attribute [local go_sem] ba_get store_flt

theorem wordR_odd : ∀ (l : List UInt8), (wordR l true).2 = true
  | [] => rfl
  | b :: l => by
    rw [wordR]
    split
    · simp only [Bool.true_or]; exact wordR_odd l
    · rfl
/-- The characters C end a word just where the reader's delimiters do. -/
structure Ends (C : List UInt8) : Prop where
  goes : ∀ b : UInt8, regB b = true → plainB b = true → stopB C b = false
  stops : ∀ b : UInt8, regB b = false → shutB b = false → stopB C b = true
def cName : List UInt8 := [47, 60, 62, 40, 41, 91, 93, 37]
def cNum : List UInt8 := [47, 60, 40, 91, 93, 62, 37]
theorem ends_name : Ends cName := by
  have H1 : ∀ b : Fin 256, regB (UInt8.ofNat b.val) = true → plainB (UInt8.ofNat b.val) = true → stopB cName (UInt8.ofNat b.val) = false := by decide +kernel
  have H2 : ∀ b : Fin 256, regB (UInt8.ofNat b.val) = false → shutB (UInt8.ofNat b.val) = false → stopB cName (UInt8.ofNat b.val) = true := by decide +kernel
  exact ⟨fun b => by simpa using H1 ⟨b.toNat, b.toNat_lt⟩, fun b => by simpa using H2 ⟨b.toNat, b.toNat_lt⟩⟩
theorem ends_num : Ends cNum := by
  have H1 : ∀ b : Fin 256, regB (UInt8.ofNat b.val) = true → plainB (UInt8.ofNat b.val) = true → stopB cNum (UInt8.ofNat b.val) = false := by decide +kernel
  have H2 : ∀ b : Fin 256, regB (UInt8.ofNat b.val) = false → shutB (UInt8.ofNat b.val) = false → stopB cNum (UInt8.ofNat b.val) = true := by decide +kernel
  exact ⟨fun b => by simpa using H1 ⟨b.toNat, b.toNat_lt⟩, fun b => by simpa using H2 ⟨b.toNat, b.toNat_lt⟩⟩
theorem stopB_asc {C : List UInt8} {b : UInt8} (h : stopB C b = true) : b.toNat < 128 := by
  unfold stopB at h
  rw [Bool.and_eq_true, decide_eq_true_eq] at h
  exact h.1
theorem plain_asc {b : UInt8} (h : plainB b = true) : b.toNat < 128 := by unfold plainB at h; rw [decide_eq_true_eq] at h; omega
theorem word_next {C : List UInt8} (hC : Ends C) : ∀ (t : List UInt8), (wordR t false).2 = false → shutAt (t.drop (wordR t false).1) = false → cleanM C t ∧ nextM C t = (wordR t false).1 ∧ ∀ b ∈ t.take (wordR t false).1, plainB b = true ∧ regB b = true
  | [], _, _ => ⟨trivial, rfl, by simp [wordR]⟩
  | b :: l, h, hs => by
    rw [wordR] at h hs ⊢
    by_cases hr : regB b = true
    · rw [if_pos hr] at h hs ⊢
      have hp : plainB b = true := by
        cases hp : plainB b with
        | true => rfl
        | false =>
          rw [hp] at h
          simp only [Bool.not_false, Bool.or_true] at h
          rw [wordR_odd] at h
          cases h
      rw [hp] at h hs ⊢
      simp only [Bool.not_true, Bool.or_false, List.drop_succ_cons] at h hs ⊢
      obtain ⟨h1, h2, h3⟩ := word_next hC l h hs
      refine ⟨⟨plain_asc hp, fun _ => h1⟩, ?_, ?_⟩
      · rw [nextM_go (hC.goes b hr hp), h2]
      · intro c hc
        rw [List.take_succ_cons, List.mem_cons] at hc
        rcases hc with rfl | hc
        · exact ⟨hp, hr⟩
        · exact h3 c hc
    · have hr' : regB b = false := by simpa using hr
      rw [if_neg hr] at h hs ⊢
      have hst := hC.stops b hr' hs
      exact ⟨⟨stopB_asc hst, fun h0 => by rw [hst] at h0; cases h0⟩, nextM_stop hst, by simp⟩

theorem reg_nz {b : UInt8} (h : regB b = true) : b.toNat ≠ 0 := by
  intro e
  unfold regB whiteB at h
  simp [e] at h

set_option maxHeartbeats 1000000 in
theorem decSeq_any (s : List UInt8) (ev : Value) (w : World) (hs : s.length ≤ 1048576) (h18 : 18 < w.heap.size) (hE : w.cell? ⟨18, 0, none⟩ = some ev) (hn : (nbM s).isSome = true) (hp : ∀ b ∈ s, b.toNat ≠ 0) :
    Calls Tryz.prog 140 #[S s] w fun e w' => (∃ x : List UInt8, e = .returned (.tuple #[S x, .nilIface])) ∧ Below w.heap.size w w' := by
  go_enter Tryz.func140, Tryz.ntmps140
  go_wp2_with fail
  refine (decName_any s ev w hs h18 hE hn hp).mono ?_
  rintro e w1 ⟨⟨x, rfl⟩, hB⟩
  go_wp2_with fail
  refine bodyPost_ret (v := .tuple #[S x, .nilIface]) (by simp [results, Tryz.results140, go_sem]) rfl ?_
  exact ⟨⟨x, rfl⟩, hB⟩

set_option maxHeartbeats 4000000 in
set_option maxRecDepth 100000 in
theorem name_parse (t : List UInt8) (n p : Nat) (ev : Value) (W0 w : World) (hW : Below W0.heap.size W0 w) (h18 : 18 < W0.heap.size) (hE : W0.cell? ⟨18, 0, none⟩ = some ev) (hp : W0.heap.size ≤ p) (hs : t.length ≤ 1048575)
    (hcl : cleanM cName t) (hnx : nextM cName t = n) (hall : ∀ b ∈ t.take n, plainB b = true ∧ regB b = true) (hnb : (nbM (t.take n)).isSome = true) (hL : Blk w p 9 #[S (47 :: t)]) :
    Calls Tryz.prog 115 #[.pointer (some ⟨p, 0, none⟩)] w fun e w' => ∃ (q : Nat) (x : List UInt8), e = .returned (.tuple #[.pointer (some ⟨q, 0, none⟩), .nilIface]) ∧ w'.cell? ⟨q, 0, none⟩ = some (S x) ∧ Blk w' p 9 #[S (t.drop n)] ∧ Only w w' p := by
  have c0 : w.cell? ⟨p, 0, none⟩ = some (S (47 :: t)) := hL.cell 0
  have f0 := hL.frozen 0
  have hpl := hL.lt
  have ht0 : (((47 :: t).length : Nat) : Int) = (t.length : Int) + 1 := by simp
  have hpre : Lib.hasPrefix (47 :: t) [47] = true := by rw [hasPre_one]; rfl
  have hfw : ∀ w : World, Calls Tryz.prog 119 #[S (47 :: t), .int .i64 1] w fun e w' => e = .returned (S t) ∧ w = w' := fun w => forward1 (47 :: t) w (by simp; omega)
  have hn2 := fun w : World => next_any cName t w (by omega) (by decide) (by decide) (by decide) hcl
  have hnle := nextM_le cName t
  rw [hnx] at hnle
  obtain ⟨l, hl⟩ : ∃ l : List UInt8, l = 47 :: t := ⟨_, rfl⟩
  have hll : l.length = t.length + 1 := by rw [hl]; simp
  have tl : ((l.length : Int) == 0) = false := by rw [beq_eq_false_iff_ne]; omega
  rw [← hl] at c0 hpre hfw hL
  clear ht0 hl
  have hHall := Lib.hid hall
  have hHnb := Lib.hid hnb
  clear hall hnb hcl
  go_enter Tryz.func115, Tryz.ntmps115
  go_wp2_with fail
  refine (hasPre_any l [47] w).mono ?_
  rintro e w1 ⟨rfl, rfl⟩
  rw [hpre]
  go_wp2_with fail
  refine (hfw _).mono ?_
  rintro e w2 ⟨rfl, rfl⟩
  go_wp2_with fail
  refine (hn2 w1).mono ?_
  rintro e w3 ⟨rfl, hB3⟩
  unfold nextRet
  rw [hnx]
  have c3 : w3.cell? ⟨p, 0, none⟩ = some (S l) := (hB3.cell (p := ⟨p, 0, none⟩) hpl).trans c0
  have f3 : w3.frozen? ⟨p, 0, none⟩ = false := (hB3.frozen (p := ⟨p, 0, none⟩) hpl).trans f0
  have hL3 : Blk w3 p 9 #[S l] := hL.below hB3 hpl
  by_cases hlt : n < t.length
  · rw [if_pos hlt, if_pos hlt]
    have hex0 : (ByteArray.mk t.toArray).extract 0 n = ⟨(t.take n).toArray⟩ := by rw [ByteArray.extract_mk]; simp
    have hexn : (ByteArray.mk t.toArray).extract n t.length = ⟨(t.drop n).toArray⟩ := by rw [ByteArray.extract_mk, List.take_of_length_le (by rw [List.length_drop]; omega)]
    have tn : decide ((n : Int) < 0) = false := by rw [decide_eq_false_iff_not]; omega
    go_wp2_with fail
    refine calls_gen (fun wx => Blk wx p 9 #[S (t.drop n)] ∧ Only w1 wx p) ⟨by have := Blk.set_ hL3 0 (S (t.drop n)); simpa using this, only_set (only_of_below hB3) _ _⟩ ?_
    rintro wx ⟨hLx, hOx⟩
    have hWx := since_only hW hOx hp
    refine (decSeq_any (t.take n) ev wx (by rw [List.length_take]; omega) (Nat.lt_of_lt_of_le h18 hWx.size) ((hWx.cell (p := ⟨18, 0, none⟩) h18).trans hE) hHnb.out (fun b hb => reg_nz (hHall.out b hb).2)).mono ?_
    rintro e w4 ⟨⟨x, rfl⟩, hB4⟩
    have hL4 : Blk w4 p 9 #[S (t.drop n)] := hLx.below hB4 hLx.lt
    go_wp2_with fail
    refine bodyPost_ret (v := .tuple #[.pointer (some ⟨w4.heap.size, 0, none⟩), .nilIface]) (by simp [results, Tryz.results115, go_sem]) rfl ?_
    refine ⟨w4.heap.size, x, rfl, by simp [go_sem], ?_, ?_⟩
    · first | exact (Blk.alloc hL4 _).far (by have := hL4.lt; simp only; omega) _ | exact Blk.alloc hL4 _
    · first | exact only_setCell (only_alloc (only_below hOx hB4) _) (.inr (by have := hB4.size; have := hOx.size; simp only; omega)) _ | exact only_alloc (only_below hOx hB4) _
  · rw [if_neg hlt, if_neg hlt]
    have hnt : n = t.length := by omega
    have Hnt := Lib.hid hnt
    clear hnt
    go_wp2_with fail
    refine calls_gen (fun wx => Blk wx p 9 #[S (t.drop n)] ∧ Only w1 wx p) ⟨by have := Blk.set_ hL3 0 (S (t.drop n)); rw [List.drop_eq_nil_of_le (by have := Hnt.out; omega)] at this ⊢; simpa using this, only_set (only_of_below hB3) _ _⟩ ?_
    rintro wx ⟨hLx, hOx⟩
    have hWx := since_only hW hOx hp
    refine (decSeq_any t ev wx (by omega) (Nat.lt_of_lt_of_le h18 hWx.size) ((hWx.cell (p := ⟨18, 0, none⟩) h18).trans hE) (by have := hHnb.out; rwa [List.take_of_length_le (by have := Hnt.out; omega)] at this) (fun b hb => reg_nz (hHall.out b (by rwa [List.take_of_length_le (by have := Hnt.out; omega)])).2)).mono ?_
    rintro e w4 ⟨⟨x, rfl⟩, hB4⟩
    have hL4 : Blk w4 p 9 #[S (t.drop n)] := hLx.below hB4 hLx.lt
    go_wp2_with fail
    refine bodyPost_ret (v := .tuple #[.pointer (some ⟨w4.heap.size, 0, none⟩), .nilIface]) (by simp [results, Tryz.results115, go_sem]) rfl ?_
    refine ⟨w4.heap.size, x, rfl, by simp [go_sem], ?_, ?_⟩
    · first | exact (Blk.alloc hL4 _).far (by have := hL4.lt; simp only; omega) _ | exact Blk.alloc hL4 _
    · first | exact only_setCell (only_alloc (only_below hOx hB4) _) (.inr (by have := hB4.size; have := hOx.size; simp only; omega)) _ | exact only_alloc (only_below hOx hB4) _
end Go.Proofs.YtcpijmbdibgdmaaGreatDoor

namespace Go.Proofs.YtcpijmbdibgdmaaGreatDoor
open Go.RowKit
attribute [local go_sem] ba_get store_flt

set_option maxHeartbeats 4000000 in
set_option maxRecDepth 100000 in
theorem indexRune_any (s : List UInt8) (r : Nat) (w : World) (hs : s.length ≤ 1048576) (hr : r < 128) (ha : ∀ b ∈ s, b.toNat < 128) :
    Calls Tryz.prog 245 #[S s, .int .i32 r] w fun e w' => (∃ j : Int, e = .returned (.int .i64 j) ∧ (0 ≤ j ∧ (s.any fun b => b.toNat == r) = true ∨ j = -1 ∧ (s.any fun b => b.toNat == r) = false)) ∧ Below w.heap.size w w' := by
  have t1 : ((r : Int) == 65533) = false := by rw [beq_eq_false_iff_ne]; omega
  have t1' : ((r : Int) != 65533) = true := by rw [bne_iff_ne]; omega
  have t2 : decide ((r : Int) < 0) = false := by rw [decide_eq_false_iff_not]; omega
  have t3 : decide ((1114111 : Int) < (r : Int)) = false := by rw [decide_eq_false_iff_not]; omega
  have t4 : decide ((55296 : Int) ≤ (r : Int)) = false := by rw [decide_eq_false_iff_not]; omega
  go_enter Tryz.func245, Tryz.ntmps245
  go_wp2_with fail
  go_loopg [] s.length (fun g wr => ∃ pos : Nat, wr.heap[w.heap.size]? = some (.stringIter ⟨s.toArray⟩ pos) ∧ Below w.heap.size w wr ∧ pos + g = s.length ∧ ((s.take pos).any fun b => b.toNat == r) = false)
  case atStart => exact ⟨0, World.iter_heap w _ 0, (Below.refl _ w).alloc (Nat.le_refl _) _, by omega, rfl⟩
  case round =>
    obtain ⟨pos, hit, hbw, hg, hno⟩ := hrel
    have Hg := Lib.hid hg
    have Hno := Lib.hid hno
    clear hg hno
    by_cases hp : pos < s.length
    · have hasc := ha _ (List.getElem_mem hp)
      have hnx : ∀ ty, (Instr.next (.pointer (some ⟨w.heap.size, 0, none⟩)) true ty).run Tryz.prog wr = _ := fun ty => Lib.run_next_ascii_at wr w.heap.size ⟨s.toArray⟩ pos ty hit hp hasc
      have hit2 := Lib.iterAt_heap wr w.heap.size ⟨s.toArray⟩ pos (pos + 1) hit
      have hbw2 := Lib.below_iterAt hbw (k := w.heap.size) (Nat.le_refl _) ⟨s.toArray⟩ (pos + 1)
      obtain ⟨W, hWd⟩ : ∃ W, wr.iterAt w.heap.size ⟨s.toArray⟩ (pos + 1) = W := ⟨_, rfl⟩
      rw [hWd] at hnx hit2 hbw2
      have hnx2 : ∀ ty, (Instr.next (.pointer (some ⟨w.heap.size, 0, none⟩)) true ty).run Tryz.prog wr = .ok (.tuple #[.bool true, .int .i64 pos, .int .i32 (s[pos].toNat : Nat)]) W := hnx
      clear hnx hWd
      by_cases hcm : s[pos].toNat = r
      · have tcm : (((s[pos].toNat : Nat) : Int) == (r : Int)) = true := by rw [beq_iff_eq]; omega
        have Hc := Lib.hid hcm
        clear hcm
        go_wp2_with fail
        go_ret
        refine ⟨⟨(pos : Int), rfl, .inl ⟨by omega, ?_⟩⟩, hbw2⟩
        exact List.any_eq_true.2 ⟨s[pos], List.getElem_mem hp, by rw [Hc.out]; simp⟩
      · have tcm : (((s[pos].toNat : Nat) : Int) == (r : Int)) = false := by rw [beq_eq_false_iff_ne]; omega
        have Hc := Lib.hid hcm
        clear hcm
        go_wp2_with fail
        go_roundg (s.length - (pos + 1))
        case measure => have := Hg.out; omega
        case rel =>
          refine ⟨pos + 1, hit2, hbw2, by omega, ?_⟩
          rw [List.take_succ_eq_append_getElem hp, List.any_append, Hno.out]
          simp [Hc.out]
    · have hnx : ∀ ty, (Instr.next (.pointer (some ⟨w.heap.size, 0, none⟩)) true ty).run Tryz.prog wr = _ := fun ty => Lib.run_next_end_at wr w.heap.size ⟨s.toArray⟩ pos ty hit hp
      go_wp2_with fail
      go_ret
      refine ⟨⟨-1, rfl, .inr ⟨rfl, ?_⟩⟩, hbw⟩
      have := Hno.out
      rwa [List.take_of_length_le (by omega)] at this

set_option maxHeartbeats 1000000 in
theorem containsRune_any (s : List UInt8) (r : Nat) (w : World) (hs : s.length ≤ 1048576) (hr : r < 128) (ha : ∀ b ∈ s, b.toNat < 128) :
    Calls Tryz.prog 232 #[S s, .int .i32 r] w fun e w' => e = .returned (.bool (s.any fun b => b.toNat == r)) ∧ Below w.heap.size w w' := by
  go_enter Tryz.func232, Tryz.ntmps232
  go_wp2_with fail
  refine (indexRune_any s r w hs hr ha).mono ?_
  rintro e w1 ⟨⟨j, rfl, hj | hj⟩, hB⟩
  · obtain ⟨h1, h2⟩ := hj
    have tj : decide ((0 : Int) ≤ j) = true := by rw [decide_eq_true_eq]; exact h1
    have H2 := Lib.hid h2
    clear h2
    go_wp2_with fail
    go_ret
    rw [H2.out]
    exact ⟨rfl, hB⟩
  · obtain ⟨h1, h2⟩ := hj
    subst h1
    have H2 := Lib.hid h2
    clear h2
    go_wp2_with fail
    go_ret
    rw [H2.out]
    exact ⟨rfl, hB⟩

theorem trimR_sub (p : Nat → Bool) (s : List UInt8) : ∃ l : List UInt8, Lib.trimRightF p ⟨s.toArray⟩ = ⟨l.toArray⟩ ∧ (∀ b ∈ l, b ∈ s) ∧ l.length ≤ s.length := by
  refine ⟨s.take (Lib.rightEndF p ⟨s.toArray⟩), ?_, fun b hb => List.mem_of_mem_take hb, by rw [List.length_take]; omega⟩
  unfold Lib.trimRightF
  rw [ByteArray.extract_mk]
  simp
theorem trimL_sub (p : Nat → Bool) (s : List UInt8) : ∃ l : List UInt8, Lib.trimLeftF p ⟨s.toArray⟩ = ⟨l.toArray⟩ ∧ (∀ b ∈ l, b ∈ s) ∧ l.length ≤ s.length := by
  unfold Lib.trimLeftF
  split
  · exact ⟨[], rfl, by simp, by simp⟩
  · refine ⟨s.drop (Lib.idxFunc p false ⟨s.toArray⟩).toNat, ?_, fun b hb => List.mem_of_mem_drop hb, by rw [List.length_drop]; omega⟩
    rw [show (ByteArray.mk s.toArray).size = s.length from rfl, ByteArray.extract_mk, List.take_of_length_le (by rw [List.length_drop]; omega)]

set_option maxHeartbeats 1000000 in
theorem trimSpace_any (s : List UInt8) (w : World) (hs : s.length ≤ 1048576) (hT : Lib.Utf8Tabs 26 27 w) :
    Calls Tryz.prog 187 #[S s] w fun e w' => (∃ l : List UInt8, e = .returned (S l) ∧ (∀ b ∈ l, b ∈ s) ∧ l.length ≤ s.length) ∧ Below w.heap.size w w' := by
  obtain ⟨l1, h1, h1m, h1l⟩ := trimL_sub spR s
  obtain ⟨l2, h2, h2m, h2l⟩ := trimR_sub spR l1
  go_enter Tryz.func187, Tryz.ntmps187
  go_wp2_with fail
  refine (Tryz.strings_TrimLeftFunc 110 #[] enters110 spR ⟨s.toArray⟩ w (predSp w)).mono ?_
  rintro e w1 ⟨rfl, hB1⟩
  rw [h1]
  go_wp2_with fail
  refine (Tryz.strings_TrimRightFunc 110 #[] enters110 spR ⟨l1.toArray⟩ w1 (by show l1.length ≤ _; omega) (Utf8Tabs_below hT hB1) (predSp w1)).mono ?_
  rintro e w2 ⟨rfl, hB2⟩
  rw [h2]
  go_wp2_with fail
  go_ret
  exact ⟨⟨l2, rfl, fun b hb => h1m b (h2m b hb), by omega⟩, hB1.trans (hB2.mono hB1.size)⟩

def hwB (b : UInt8) : Bool := decide (0 ≤ hexV b ∨ b.toNat = 9 ∨ b.toNat = 10 ∨ b.toNat = 12 ∨ b.toNat = 13 ∨ b.toNat = 32)
def wsL : List UInt8 := [32, 9, 10, 12, 13]
def hxL : List UInt8 := [65, 66, 67, 68, 69, 70, 49, 50, 51, 52, 53, 54, 55, 56, 57, 48]
theorem hw_cases (b : UInt8) (h : hwB b = true) : (uppB b).toNat < 128 ∧ ((wsL.any fun c => c.toNat == (uppB b).toNat) = true ∨ (wsL.any fun c => c.toNat == (uppB b).toNat) = false ∧ (hxL.any fun c => uppB b == c) = true) := by
  have H : ∀ b : Fin 256, hwB (UInt8.ofNat b.val) = true → (uppB (UInt8.ofNat b.val)).toNat < 128 ∧ ((wsL.any fun c => c.toNat == (uppB (UInt8.ofNat b.val)).toNat) = true ∨ (wsL.any fun c => c.toNat == (uppB (UInt8.ofNat b.val)).toNat) = false ∧ (hxL.any fun c => uppB (UInt8.ofNat b.val) == c) = true) := by decide +kernel
  have := H ⟨b.toNat, b.toNat_lt⟩
  simp only [UInt8.ofNat_toNat] at this
  exact this h
theorem rem2 (i : Nat) : (i : Int).tmod 2 = ((i % 2 : Nat) : Int) := by rw [Int.tmod_eq_emod_of_nonneg (by omega)]; omega

set_option maxHeartbeats 8000000 in
set_option maxRecDepth 100000 in
theorem hexString_any (s : List UInt8) (w : World) (hs : s.length ≤ 1048576) (hh : ∀ b ∈ s, hwB b = true) :
    Calls Tryz.prog 186 #[S s] w fun e w' => (∃ (q : Nat) (x : List UInt8), e = .returned (.tuple #[.pointer (some ⟨q, 0, none⟩), .bool true]) ∧ w.heap.size ≤ q ∧ w'.cell? ⟨q, 0, none⟩ = some (S x)) ∧ Below w.heap.size w w' := by
  by_cases h0 : s.length = 0
  · have t0 : ((s.length : Int) == 0) = true := by rw [beq_iff_eq]; omega
    go_enter Tryz.func186, Tryz.ntmps186
    go_wp2_with fail
    refine bodyPost_ret (v := .tuple #[.pointer (some ⟨w.heap.size, 0, none⟩), .bool true]) (by simp [results, Tryz.results186, go_sem]) rfl ?_
    refine ⟨⟨w.heap.size, [], rfl, Nat.le_refl _, by simp [go_sem]⟩, ?_⟩
    first | exact ((Below.refl _ w).alloc (Nat.le_refl _) _).setCell (Nat.le_refl _) _ | exact (Below.refl _ w).alloc (Nat.le_refl _) _
  · have t0 : ((s.length : Int) == 0) = false := by rw [beq_eq_false_iff_ne]; omega
    obtain ⟨u, hu⟩ : ∃ u : List UInt8, u = s.map uppB := ⟨_, rfl⟩
    have hul : u.length = s.length := by rw [hu]; simp
    have huc : ∀ j (h : j < u.length), u[j].toNat < 128 ∧ ((wsL.any fun c => c.toNat == u[j].toNat) = true ∨ (wsL.any fun c => c.toNat == u[j].toNat) = false ∧ (hxL.any fun c => u[j] == c) = true) := fun j h => by
      have e : u[j] = uppB (s[j]'(by omega)) := by simp [hu]
      rw [e]
      exact hw_cases _ (hh _ (List.getElem_mem _))
    have hup := fun w => upper_any s w hs
    rw [← hu] at hup
    have Huc := Lib.hid huc
    have Hul := Lib.hid hul
    clear huc hu hh hul h0
    go_enter Tryz.func186, Tryz.ntmps186
    go_wp2_with fail
    refine (hup _).mono ?_
    rintro e w2 ⟨rfl, hB2⟩
    have hIB : Lib.IsBuilder 195 5 w.heap.size w.heap.size [] w2 := isB_below (Lib.fresh_isBuilder 195 5 w) hB2
    have hBw : Below w.heap.size w w2 := ((Below.refl _ w).alloc (Nat.le_refl _) _).trans (hB2.mono (by simp))
    have hbb : w.heap.size < w2.heap.size := by have := hB2.size; simp at this; omega
    clear hB2 hup
    go_wp2_with fail
    go_loopg [6] u.length (fun g s6 wr => ∃ (pos i : Nat) (bs : List UInt8), s6 = .int .i64 i ∧ i ≤ pos ∧ wr.heap[w2.heap.size]? = some (.stringIter ⟨u.toArray⟩ pos) ∧ Below w.heap.size w wr ∧ Lib.IsBuilder 195 5 w.heap.size w.heap.size (Lib.byteCells bs) wr ∧ pos + g = u.length ∧ bs.length ≤ 2 * pos)
    case atStart => exact ⟨0, 0, [], rfl, Nat.le_refl _, World.iter_heap w2 _ 0, hBw.alloc (by omega) _, isB_alloc hIB _, by omega, by simp⟩
    case round =>
      obtain ⟨pos, i, bs, rfl, hip, hit, hbw, hbr, hg, hbl⟩ := hrel
      have hul := Hul.out
      have hib : i ≤ 1048576 := by omega
      have Hg := Lib.hid hg
      clear hg hul
      by_cases hp : pos < u.length
      · obtain ⟨hasc, hca⟩ := Huc.out pos hp
        have hsz : w2.heap.size < wr.heap.size := (Array.getElem?_eq_some_iff.1 hit).1
        have hnx : ∀ ty, (Instr.next (.pointer (some ⟨w2.heap.size, 0, none⟩)) true ty).run Tryz.prog wr = _ := fun ty => Lib.run_next_ascii_at wr w2.heap.size ⟨u.toArray⟩ pos ty hit hp hasc
        have hit2 := Lib.iterAt_heap wr w2.heap.size ⟨u.toArray⟩ pos (pos + 1) hit
        have hbw2 := Lib.below_iterAt hbw (k := w2.heap.size) (by omega) ⟨u.toArray⟩ (pos + 1)
        have hsz2 := Lib.iterAt_size wr w2.heap.size ⟨u.toArray⟩ (pos + 1)
        have hbr2 := isB_iterAt hbr hit (pos + 1)
        obtain ⟨W, hWd⟩ : ∃ W, wr.iterAt w2.heap.size ⟨u.toArray⟩ (pos + 1) = W := ⟨_, rfl⟩
        rw [hWd] at hnx hit2 hbw2 hsz2 hbr2
        have hnx2 : ∀ ty, (Instr.next (.pointer (some ⟨w2.heap.size, 0, none⟩)) true ty).run Tryz.prog wr = .ok (.tuple #[.bool true, .int .i64 pos, .int .i32 (u[pos].toNat : Nat)]) W := hnx
        have Hsz2 := Lib.hid hsz2
        have Hca := Lib.hid hca
        clear hnx hWd hbr hsz2 hca
        go_wp2_with fail
        refine (containsRune_any wsL u[pos].toNat W (by decide) hasc (by decide)).mono ?_
        rintro e W2 ⟨rfl, hBW⟩
        have hit3 : W2.heap[w2.heap.size]? = some (.stringIter ⟨u.toArray⟩ (pos + 1)) := (hBW.block _ (by have := Hsz2.out; omega)).trans hit2
        have hbw3 : Below w.heap.size w W2 := hbw2.trans (hBW.mono (by have := Hsz2.out; omega))
        have hbr3 := isB_below hbr2 hBW
        cases hws : (wsL.any fun c => c.toNat == u[pos].toNat) with
        | true =>
          have Hws := Lib.hid hws
          clear hws
          by_cases h2 : i % 2 = 0
          · have tr : decide ((0 : Int) < (i : Int) % 2) = false := by rw [decide_eq_false_iff_not]; omega
            go_wp2_with fail
            go_roundg (u.length - (pos + 1))
            case measure => have := Hg.out; omega
            case rel => exact ⟨pos + 1, i, bs, rfl, by omega, hit3, hbw3, hbr3, by omega, by omega⟩
          · have tr : decide ((0 : Int) < (i : Int) % 2) = true := by rw [decide_eq_true_eq]; omega
            go_wp2_with fail
            refine (writeString_keep w.heap.size w.heap.size (Lib.byteCells bs) ⟨#[48]⟩ W2 hbr3 (by rw [Lib.byteCells_length]; show _ + 1 ≤ _; have := Hul.out; have := Hg.out; omega) hbw3.size).mono ?_
            rintro e W3 ⟨rfl, hA3, hB3, hK3⟩
            have hA3' : Lib.IsBuilder 195 5 w.heap.size w.heap.size (Lib.byteCells (bs ++ [48])) W3 := isB_snoc hA3
            go_wp2_with fail
            go_roundg (u.length - (pos + 1))
            case measure => have := Hg.out; omega
            case rel => exact ⟨pos + 1, 0, bs ++ [48], rfl, by omega, (hK3 _ (Array.getElem?_eq_some_iff.1 hit3).1 (by omega) (fun c fz h => by rw [hit3] at h; cases h)).trans hit3, hbw3.trans hB3, hA3', by omega, by simp; omega⟩
        | false =>
          have hhx : (hxL.any fun c => u[pos] == c) = true := by
            rcases Hca.out with h | h
            · rw [hws] at h; cases h
            · exact h.2
          have Hhx := Lib.hid hhx
          clear hws hhx
          go_wp2_with fail
          have hsz3 : w2.heap.size < W2.heap.size := (Array.getElem?_eq_some_iff.1 hit3).1
          go_loopg [6, 9] hxL.length (fun g s6 s9 wy => ∃ j : Nat, s6 = .int .i64 i ∧ s9 = .bool false ∧ wy.heap[W2.heap.size]? = some (.stringIter ⟨hxL.toArray⟩ j) ∧ Below W2.heap.size W2 wy ∧ j + g = hxL.length ∧ ((hxL.take j).any fun c => u[pos] == c) = false)
          case atStart => exact ⟨0, rfl, rfl, World.iter_heap W2 _ 0, (Below.refl _ W2).alloc (Nat.le_refl _) _, by omega, rfl⟩
          case round =>
            obtain ⟨j, rfl, rfl, hjt, hbj, hgj, hno⟩ := hrel
            have Hgj := Lib.hid hgj
            have Hno := Lib.hid hno
            clear hgj hno
            by_cases hj : j < hxL.length
            · have hcj : (hxL[j]).toNat < 128 := (show ∀ c ∈ hxL, c.toNat < 128 by decide) _ (List.getElem_mem hj)
              have hny : ∀ ty, (Instr.next (.pointer (some ⟨W2.heap.size, 0, none⟩)) true ty).run Tryz.prog wr = _ := fun ty => Lib.run_next_ascii_at wr W2.heap.size ⟨hxL.toArray⟩ j ty hjt hj hcj
              have hjt2 := Lib.iterAt_heap wr W2.heap.size ⟨hxL.toArray⟩ j (j + 1) hjt
              have hbj2 := Lib.below_iterAt hbj (k := W2.heap.size) (Nat.le_refl _) ⟨hxL.toArray⟩ (j + 1)
              obtain ⟨Y, hYd⟩ : ∃ Y, wr.iterAt W2.heap.size ⟨hxL.toArray⟩ (j + 1) = Y := ⟨_, rfl⟩
              rw [hYd] at hny hjt2 hbj2
              have hny2 : ∀ ty, (Instr.next (.pointer (some ⟨W2.heap.size, 0, none⟩)) true ty).run Tryz.prog wr = .ok (.tuple #[.bool true, .int .i64 j, .int .i32 (hxL[j].toNat : Nat)]) Y := hny
              clear hny hYd
              by_cases hcm : u[pos] = hxL[j]
              · have tcm : (((u[pos].toNat : Nat) : Int) == ((hxL[j].toNat : Nat) : Int)) = true := by rw [beq_iff_eq, hcm]
                clear hcm
                go_wp2_with fail
                have hitY : Y.heap[w2.heap.size]? = some (.stringIter ⟨u.toArray⟩ (pos + 1)) := (hbj2.block _ hsz3).trans hit3
                have hbwY : Below w.heap.size w Y := hbw3.trans (hbj2.mono (by omega))
                refine (writeRune_keep w.heap.size w.heap.size (Lib.byteCells bs) ((u[pos].toNat : Nat) : Int) (by omega) (by omega) Y (isB_below hbr3 hbj2) (by rw [Lib.byteCells_length]; have := Hul.out; omega) hbwY.size).mono ?_
                rintro e W4 ⟨rfl, hA4, hB4, hK4⟩
                go_wp2_with fail
                go_roundg (u.length - (pos + 1))
                case measure => have := Hg.out; omega
                case rel => exact ⟨pos + 1, i + 1, bs ++ [u[pos]], by go_num, by omega, (hK4 _ (Array.getElem?_eq_some_iff.1 hitY).1 (by omega) (fun c fz h => by rw [hitY] at h; cases h)).trans hitY, hbwY.trans hB4, isB_snoc hA4, by omega, by simp; omega⟩
              · have tcm : (((u[pos].toNat : Nat) : Int) == ((hxL[j].toNat : Nat) : Int)) = false := by rw [beq_eq_false_iff_ne]; intro h; exact hcm (UInt8.toNat_inj.1 (Int.ofNat.inj h))
                have Hcm := Lib.hid hcm
                clear hcm
                go_wp2_with fail
                go_roundg (hxL.length - (j + 1))
                case measure => have := Hgj.out; omega
                case rel =>
                  refine ⟨j + 1, rfl, rfl, hjt2, hbj2, by omega, ?_⟩
                  rw [List.take_succ_eq_append_getElem hj, List.any_append, Hno.out]
                  simp [Hcm.out]
            · exfalso
              have h1 := Hno.out
              rw [List.take_of_length_le (by omega)] at h1
              have h2 := Hhx.out
              rw [h1] at h2
              cases h2
      · have hnx : ∀ ty, (Instr.next (.pointer (some ⟨w2.heap.size, 0, none⟩)) true ty).run Tryz.prog wr = _ := fun ty => Lib.run_next_end_at wr w2.heap.size ⟨u.toArray⟩ pos ty hit hp
        by_cases h2 : i % 2 = 0
        · have tr : decide ((0 : Int) < (i : Int) % 2) = false := by rw [decide_eq_false_iff_not]; omega
          go_wp2_with fail
          refine (Tryz.Builder_String_any w.heap.size w.heap.size bs wr hbr hbw.size).mono ?_
          rintro e W5 ⟨rfl, hB5⟩
          go_wp2_with fail
          refine bodyPost_ret (v := .tuple #[.pointer (some ⟨W5.heap.size, 0, none⟩), .bool true]) (by simp [results, Tryz.results186, go_sem]) rfl ?_
          have hB6 : Below w.heap.size w W5 := hbw.trans hB5
          refine ⟨⟨W5.heap.size, bs, rfl, hB6.size, by simp [go_sem]⟩, ?_⟩
          first | exact (hB6.alloc hB6.size _).setCell hB6.size _ | exact hB6.alloc hB6.size _
        · have tr : decide ((0 : Int) < (i : Int) % 2) = true := by rw [decide_eq_true_eq]; omega
          go_wp2_with fail
          refine (writeString_keep w.heap.size w.heap.size (Lib.byteCells bs) ⟨#[48]⟩ wr hbr (by rw [Lib.byteCells_length]; show _ + 1 ≤ _; have := Hul.out; have := Hg.out; omega) hbw.size).mono ?_
          rintro e W3 ⟨rfl, hA3, hB3, hK3⟩
          have hA3' : Lib.IsBuilder 195 5 w.heap.size w.heap.size (Lib.byteCells (bs ++ [48])) W3 := isB_snoc hA3
          go_wp2_with fail
          refine (Tryz.Builder_String_any w.heap.size w.heap.size (bs ++ [48]) W3 hA3' (hbw.trans hB3).size).mono ?_
          rintro e W5 ⟨rfl, hB5⟩
          go_wp2_with fail
          refine bodyPost_ret (v := .tuple #[.pointer (some ⟨W5.heap.size, 0, none⟩), .bool true]) (by simp [results, Tryz.results186, go_sem]) rfl ?_
          have hB6 : Below w.heap.size w W5 := (hbw.trans hB3).trans hB5
          refine ⟨⟨W5.heap.size, (bs ++ [48]), rfl, hB6.size, by simp [go_sem]⟩, ?_⟩
          first | exact (hB6.alloc hB6.size _).setCell hB6.size _ | exact hB6.alloc hB6.size _
end Go.Proofs.YtcpijmbdibgdmaaGreatDoor

namespace Go.Proofs.YtcpijmbdibgdmaaGreatDoor
open Go.RowKit
attribute [local go_sem] ba_get store_flt

theorem hexM_odd : ∀ (l : List UInt8) (h : Nat) (d : Bool), (hexM l h d true).2.2.2 = true
  | [], _, _ => rfl
  | b :: l, h, d => by
    rw [hexM]
    repeat' split
    all_goals first | rfl | (simp only [Bool.true_or]; exact hexM_odd l _ _) | exact hexM_odd l _ _
theorem hw_ws (b : UInt8) : whiteB b = true → b.toNat ≠ 0 → hwB b = true := by
  have H : ∀ b : Fin 256, whiteB (UInt8.ofNat b.val) = true → (UInt8.ofNat b.val).toNat ≠ 0 → hwB (UInt8.ofNat b.val) = true := by decide +kernel
  have := H ⟨b.toNat, b.toNat_lt⟩
  simpa using this
theorem hexM_idx : ∀ (l : List UInt8) (h : Nat) (d : Bool), (hexM l h d false).1 = 0 → (hexM l h d false).2.2.2 = false →
    ∃ i, (hexM l h d false).2.2.1 = i + 1 ∧ idxM [62] l = some i ∧ i < l.length ∧ ∀ b ∈ l.take i, hwB b = true
  | [], _, _, h, _ => by rw [hexM] at h; cases h
  | b :: l, h, d, h0, h1 => by
    have hpre : ([62] : List UInt8).isPrefixOf (b :: l) = (62 == b) := by simp [List.isPrefixOf]
    rw [hexM] at h0 h1 ⊢
    by_cases h62 : b.toNat = 62
    · rw [if_pos h62]
      refine ⟨0, rfl, idxM_hit ?_, by simp, by simp⟩
      rw [hpre, beq_iff_eq]
      exact UInt8.toNat_inj.1 h62.symm
    · have hmiss : idxM [62] (b :: l) = (idxM [62] l).map (· + 1) := idxM_miss (by rw [hpre, beq_eq_false_iff_ne]; intro e; exact h62 (by rw [← e]; rfl))
      rw [if_neg h62] at h0 h1 ⊢
      have key : ∀ (h' : Nat) (d' : Bool), (hexM l h' d' false).1 = 0 → (hexM l h' d' false).2.2.2 = false → hwB b = true → ∃ i, (hexM l h' d' false).2.2.1 + 1 = i + 1 ∧ idxM [62] (b :: l) = some i ∧ i < (b :: l).length ∧ ∀ c ∈ (b :: l).take i, hwB c = true := fun h' d' e0 e1 hb => by
        obtain ⟨i, h2, h3, h4, h5⟩ := hexM_idx l h' d' e0 e1
        refine ⟨i + 1, by rw [h2], by rw [hmiss, h3]; rfl, by simp; omega, ?_⟩
        intro c hc
        rw [List.take_succ_cons, List.mem_cons] at hc
        rcases hc with rfl | hc
        · exact hb
        · exact h5 c hc
      by_cases hw : whiteB b = true
      · rw [if_pos hw] at h0 h1 ⊢
        simp only at h0 h1 ⊢
        cases ho : (false || d || b.toNat == 0) with
        | true => rw [ho, hexM_odd] at h1; cases h1
        | false =>
          rw [ho] at h0 h1
          have hz : b.toNat ≠ 0 := by
            intro e
            rw [e] at ho
            simp at ho
          exact key _ _ h0 h1 (hw_ws b hw hz)
      · rw [if_neg hw] at h0 h1 ⊢
        by_cases hx : hexV b < 0
        · rw [if_pos hx] at h0; cases h0
        · rw [if_neg hx] at h0 h1 ⊢
          have hb : hwB b = true := by unfold hwB; rw [decide_eq_true_eq]; omega
          by_cases hd : d = true
          · rw [if_pos hd] at h0 h1 ⊢
            exact key _ _ h0 h1 hb
          · rw [if_neg hd] at h0 h1 ⊢
            exact key _ _ h0 h1 hb

set_option maxHeartbeats 4000000 in
set_option maxRecDepth 100000 in
theorem hex_parse (r : List UInt8) (i p : Nat) (W0 w : World) (hT : Lib.Utf8Tabs 26 27 W0) (hW : Below W0.heap.size W0 w) (hp : W0.heap.size ≤ p) (hs : r.length ≤ 1048575)
    (hi : idxM [62] r = some i) (hil : i < r.length) (hall : ∀ b ∈ r.take i, hwB b = true) (hL : Blk w p 9 #[S (60 :: r)]) :
    Calls Tryz.prog 142 #[.pointer (some ⟨p, 0, none⟩)] w fun e w' => ∃ v, IVal v ∧ OkP w p (r.drop (i + 1)) v e w' := by
  have c0 : w.cell? ⟨p, 0, none⟩ = some (S (60 :: r)) := hL.cell 0
  have f0 := hL.frozen 0
  have hpl := hL.lt
  have hpre : Lib.hasPrefix (60 :: r) [60] = true := by rw [hasPre_one]; rfl
  have hfw : ∀ w : World, Calls Tryz.prog 119 #[S (60 :: r), .int .i64 1] w fun e w' => e = .returned (S r) ∧ w = w' := fun w => forward1 (60 :: r) w (by simp; omega)
  obtain ⟨l, hl⟩ : ∃ l : List UInt8, l = 60 :: r := ⟨_, rfl⟩
  have hll : l.length = r.length + 1 := by rw [hl]; simp
  have tl : ((l.length : Int) == 0) = false := by rw [beq_eq_false_iff_ne]; omega
  have tl2 : decide ((l.length : Int) < 2) = false := by rw [decide_eq_false_iff_not]; omega
  rw [← hl] at c0 hpre hfw hL
  have hix := fun w => index_any r [62] w (by omega) (by decide) (by decide)
  rw [hi] at hix
  have hex0 : (ByteArray.mk r.toArray).extract 0 i = ⟨(r.take i).toArray⟩ := by rw [ByteArray.extract_mk]; simp
  have hexn : (ByteArray.mk r.toArray).extract i r.length = ⟨(r.drop i).toArray⟩ := by rw [ByteArray.extract_mk, List.take_of_length_le (by rw [List.length_drop]; omega)]
  have ti : decide ((i : Int) < 0) = false := by rw [decide_eq_false_iff_not]; omega
  have Hall := Lib.hid hall
  clear hl hi hall
  go_enter Tryz.func142, Tryz.ntmps142
  go_wp2_with fail
  refine (hasPre_any l [60] w).mono ?_
  rintro e w1 ⟨rfl, rfl⟩
  rw [hpre]
  go_wp2_with fail
  refine (hfw _).mono ?_
  rintro e w2 ⟨rfl, rfl⟩
  go_wp2_with fail
  refine (hix w1).mono ?_
  rintro e w3 ⟨rfl, nn, rfl⟩
  dsimp only [idxRet]
  go_wp2_with fail
  refine (trimSpace_any (r.take i) _ (by rw [List.length_take]; omega) (Utf8Tabs_below hT (below_drewN hW nn))).mono ?_
  rintro e w4 ⟨⟨l2, rfl, hm, hl2⟩, hB4⟩
  rw [List.length_take] at hl2
  have hB4' : Below w1.heap.size w1 w4 := (below_drewN (Below.refl _ w1) nn).trans hB4
  go_wp2_with fail
  refine (hexString_any l2 w4 (by omega) (fun b hb => Hall.out b (hm b hb))).mono ?_
  rintro e w5 ⟨⟨q, x, rfl, hqs, hq⟩, hB5⟩
  have hB5' : Below w1.heap.size w1 w5 := hB4'.trans (hB5.mono hB4'.size)
  have c5 : w5.cell? ⟨p, 0, none⟩ = some (S l) := (hB5'.cell (p := ⟨p, 0, none⟩) hpl).trans c0
  have f5 : w5.frozen? ⟨p, 0, none⟩ = false := (hB5'.frozen (p := ⟨p, 0, none⟩) hpl).trans f0
  have hL5 : Blk w5 p 9 #[S l] := hL.below hB5' hpl
  have hqp : q ≠ p := by have := hB4'.size; omega
  have hqp' : p ≠ q := fun e => hqp e.symm
  go_wp2_with fail
  refine (forward1 (r.drop i) _ (by rw [List.length_drop]; omega)).mono ?_
  rintro e w6 ⟨rfl, rfl⟩
  go_wp2_with fail
  refine bodyPost_ret (v := .tuple #[.iface 104 (S x), .nilIface]) (by simp [results, Tryz.results142, go_sem]) rfl ?_
  refine ⟨_, .inr ⟨_, _, rfl⟩, rfl, ?_, only_set (only_of_below hB5') _ _⟩
  have := Blk.set_ hL5 0 (S ((r.drop i).drop 1))
  rw [List.drop_drop] at this
  simpa using this
end Go.Proofs.YtcpijmbdibgdmaaGreatDoor
