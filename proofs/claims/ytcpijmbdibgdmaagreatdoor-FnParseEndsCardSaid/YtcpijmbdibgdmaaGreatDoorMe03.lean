/-
  spec.Number: a number as it is written.
  A decimal number as it is read, sign by sign: plain law.
  package model: the small functions of the parser (white space, delimiters, the rest of a text, depth).
-/
import Derived.Test.YtcpijmbdibgdmaaGreatDoorMe01
import Derived.Test.YtcpijmbdibgdmaaGreatDoorMe02
import Derived.Test.YtcpijmbdibgdmaaGreatDoorMe00
import Derived.Deep.LoopGhost
import Derived.Lib.Hide
set_option linter.all false
namespace Go.Proofs.YtcpijmbdibgdmaaGreatDoor
open Go.RowKit
attribute [local go_sem] ba_get store_flt

/-- Digits, points, digits ahead of the first point; none: there is something else. -/
def cntM : List UInt8 → Nat → Nat → Nat → Option (Nat × Nat × Nat)
  | [], d, p, a => some (d, p, a)
  | b :: l, d, p, a => if digitB b = true then cntM l (d + 1) p (if p = 0 then a + 1 else a) else if b.toNat = 46 then cntM l d (p + 1) a else none
/-- What is behind a sign. -/
def unsign : List UInt8 → List UInt8
  | [] => []
  | b :: l => if b.toNat = 43 ∨ b.toNat = 45 then l else b :: l
theorem unsign_sign {t r : List UInt8} {b : UInt8} (h : t = b :: r) (hb : b.toNat = 43 ∨ b.toNat = 45) : unsign t = r := by rw [h, unsign, if_pos hb]
theorem unsign_plain {t r : List UInt8} {b : UInt8} (h : t = b :: r) (h1 : b.toNat ≠ 43) (h2 : b.toNat ≠ 45) : unsign t = t := by rw [h, unsign, if_neg (by omega)]
inductive NumOut where
  | refused
  | open_
  | real
  | int (n : Int)
/-- What a number is. -/
def numM (t : List UInt8) : NumOut :=
  match cntM (unsign t) 0 0 0 with
  | none => .refused
  | some (d, p, a) =>
    if d = 0 ∨ 1 < p then .refused else if 14 < a ∨ 60 < d then .open_ else if p = 1 then .real
    else match Lib.atoiAll t with
      | .ok n => if 2147483647 < n ∨ n < -2147483648 then .open_ else .int n
      | _ => .open_
def vInt (n : Int) : Array Value := #[.int .i64 2, .int .i64 n, .int .i64 0, .float .f64 0, S [], .slice none 0 0, .slice none 0 0]
def vReal (x : Nat) : Array Value := #[.int .i64 3, .int .i64 0, .int .i64 0, .float .f64 x, S [], .slice none 0 0, .slice none 0 0]
/-- strconv.ParseFloat of what spec.Number takes for a real, and what it leaves. -/
def PFSaid (pf : List UInt8 → Nat) (W0 : World) : Prop := ∀ (t : List UInt8) (w : World), numM t = .real → t.length ≤ 1048576 → Below W0.heap.size W0 w →
  Calls Tryz.prog 84 #[S t, .int .i64 64] w fun e w' => e = .returned (.tuple #[.float .f64 (pf t), .nilIface]) ∧ Below w.heap.size w w'
def NumVal (pf : List UInt8 → Nat) (t : List UInt8) : NumOut → Value
  | .refused => .tuple #[.agg vZero, .int .i64 1]
  | .open_ => .tuple #[.agg vZero, .int .i64 2]
  | .real => .tuple #[.agg (vReal (pf t)), .int .i64 0]
  | .int n => .tuple #[.agg (vInt n), .int .i64 0]

theorem cntM_ahead : ∀ (l : List UInt8) (d p a : Nat) (d' a' : Nat), cntM l d p a = some (d', 0, a') → p = 0 ∧ l.length + a = a' ∧ l.length + d = d' ∧ ∀ b ∈ l, 48 ≤ b.toNat ∧ b.toNat ≤ 57
  | [], d, p, a, d', a', h => by
    simp [cntM] at h
    obtain ⟨rfl, rfl, rfl⟩ := h
    simp
  | b :: l, d, p, a, d', a', h => by
    rw [cntM] at h
    split at h
    · rename_i hb
      obtain ⟨hp, h1, h2, h3⟩ := cntM_ahead l _ _ _ _ _ h
      subst hp
      simp only [if_true] at h1
      refine ⟨rfl, by simp; omega, by simp; omega, ?_⟩
      intro c hc
      rcases List.mem_cons.1 hc with rfl | hc
      · simpa [digitB] using hb
      · exact h3 c hc
    · split at h
      · obtain ⟨hp, _⟩ := cntM_ahead l _ _ _ _ _ h
        omega
      · cases h

theorem parse_digits : ∀ (l : List UInt8) (acc k : Nat), (∀ b ∈ l, 48 ≤ b.toNat ∧ b.toNat ≤ 57) → acc < 10 ^ k → l.length + k ≤ 18 → ∃ v, Lib.parseUint10 acc l = .ok v ∧ v < 1000000000000000000
  | [], acc, k, _, ha, hk => by
    have hp : 10 ^ k ≤ 10 ^ 18 := Nat.pow_le_pow_right (by decide) (by simpa using hk)
    have e18 : (10 : Nat) ^ 18 = 1000000000000000000 := by decide
    exact ⟨acc, rfl, by omega⟩
  | c :: r, acc, k, h, ha, hk => by
    have hk' : r.length + 1 + k ≤ 18 := by simpa using hk
    have hp : 10 ^ k ≤ 10 ^ 17 := Nat.pow_le_pow_right (by decide) (by omega)
    have e17 : (10 : Nat) ^ 17 = 100000000000000000 := by decide
    have hc := h c (by simp)
    obtain ⟨v, hv, hl⟩ := parse_digits r (acc * 10 + (c.toNat - 48)) (k + 1) (fun b hb => h b (by simp [hb])) (by rw [Nat.pow_succ]; omega) (by omega)
    refine ⟨v, ?_, hl⟩
    rw [Lib.parseUint10, if_pos hc, if_neg (by omega), if_neg (by omega)]
    exact hv

theorem atoi_digits {t : List UInt8} {d a : Nat} (h : cntM (unsign t) 0 0 0 = some (d, 0, a)) (hd : d ≠ 0) (ha : a ≤ 14) : ∃ n, Lib.atoiAll t = .ok n ∧ -9223372036854775808 ≤ n ∧ n ≤ 9223372036854775807 := by
  obtain ⟨_, h1, h2, h3⟩ := cntM_ahead _ _ _ _ _ _ h
  obtain ⟨v, hv, hvl⟩ := parse_digits (unsign t) 0 0 h3 (by decide) (by omega)
  cases t with
  | nil => simp [unsign] at h2; omega
  | cons c r =>
    have hne : unsign (c :: r) ≠ [] := by intro e; rw [e] at h2; simp at h2; omega
    have hm : Lib.parseMag (unsign (c :: r)) = .ok v := by rw [Lib.parseMag, if_neg hne]; exact hv
    have hu : (if c.toNat = 43 ∨ c.toNat = 45 then r else c :: r) = unsign (c :: r) := rfl
    by_cases hc : c.toNat = 45
    · refine ⟨-(v : Int), ?_, by omega, by omega⟩
      simp only [Lib.atoiAll, hu, hm]
      rw [if_neg (by omega), if_neg (by omega), if_pos hc]
    · refine ⟨(v : Int), ?_, by omega, by omega⟩
      simp only [Lib.atoiAll, hu, hm]
      rw [if_neg (by omega), if_neg (by omega), if_neg hc]

theorem grown_bytes (w : World) (e : TypeId) (s : ByteArray) (row : Option Nat) : w.grownBy (Lib.bytesWorld w e s) row := by
  unfold Lib.bytesWorld
  refine ⟨?_, ?_, ?_, ?_, ?_⟩
  · rfl
  · rfl
  · rfl
  · simp [World.freeze]
  · intro k hk _
    simp only [World.freeze]
    rw [if_neg (by decide)]
    simp only [Array.getElem?_modify]
    rw [if_neg (by first | omega | (simp; omega))]
    exact Below.heap_alloc _ _ _ hk
theorem below_bytes (w : World) (e : TypeId) (s : ByteArray) : Below w.heap.size w (Lib.bytesWorld w e s) := by
  have h := grown_bytes w e s none
  exact ⟨h.os, h.tape, h.output, h.size, fun k hk => h.block k hk (by simp)⟩
theorem atoi_any (t : List UInt8) (n : Int) (h : Lib.atoiAll t = .ok n) (hl : t.length ≤ 1048576) (w : World) :
    Calls Tryz.prog 34 #[S t] w fun e w' => e = .returned (.tuple #[.int .i64 n, .nilIface]) ∧ Below w.heap.size w w' := by
  refine (Go.Proofs.Tryz.strconv_Atoi_ok ⟨t.toArray⟩ (by show t.toArray.size ≤ _; simp; omega) n h w).mono ?_
  rintro e w' ⟨he, hw⟩
  refine ⟨he, ?_⟩
  rcases hw with rfl | ⟨x, rfl⟩
  · exact Below.refl _ _
  · exact below_bytes _ _ _

/-- The block in which the result lies. -/
theorem res_cells {w : World} {g : Nat} {cs : Array Value} (h : Blk w g 34 cs) (hc : cs = vZero) :
    w.cell? ⟨g, 0, none⟩ = some (.int .i64 0) ∧ w.cell? ⟨g, 1, none⟩ = some (.int .i64 0) ∧ w.cell? ⟨g, 2, none⟩ = some (.int .i64 0) ∧ w.cell? ⟨g, 3, none⟩ = some (.float .f64 0) ∧
    w.cell? ⟨g, 4, none⟩ = some (S []) ∧ w.cell? ⟨g, 5, none⟩ = some (.slice none 0 0) ∧ w.cell? ⟨g, 6, none⟩ = some (.slice none 0 0) := by
  subst hc
  exact ⟨h.cell 0, h.cell 1, h.cell 2, h.cell 3, h.cell 4, h.cell 5, h.cell 6⟩

set_option maxHeartbeats 16000000 in
set_option maxRecDepth 100000 in
theorem number_any (pf : List UInt8 → Nat) (W0 : World) (hpf : PFSaid pf W0) (t : List UInt8) (w : World) (hs : t.length ≤ 1048576) (hW : Below W0.heap.size W0 w) :
    Calls Tryz.prog 75 #[S t] w fun e w' => e = .returned (NumVal pf t (numM t)) ∧ Below w.heap.size w w' := by
  obtain ⟨fin, hfin⟩ : ∃ fin, fin = numM t := ⟨_, rfl⟩
  have Hf := Lib.hid hfin
  rw [← hfin]
  clear hfin
  have Hpf := Lib.hid hpf
  have HW := Lib.hid hW
  clear hpf hW
  obtain ⟨cn, hcn⟩ : ∃ cn, cn = cntM (unsign t) 0 0 0 := ⟨_, rfl⟩
  have Hc := Lib.hid hcn
  clear hcn
  by_cases hl0 : 0 < t.length
  · have tl0 : decide ((0 : Int) < (t.length : Int)) = true := by rw [decide_eq_true_eq]; omega
    have U : Hid (t = t[0] :: t.drop 1) := Lib.hid (by have := drop_at hl0; simpa using this)
    by_cases h43 : t[0].toNat = 43
    · have t43 : ((t[0].toNat : Int) == 43) = true := by rw [beq_iff_eq]; omega
      have U2 : Hid (unsign t = t.drop 1) := Lib.hid (unsign_sign U.out (.inl h43))
      clear h43
      go_enter Tryz.func75, Tryz.ntmps75
      go_wp2_with fail
      go_loopg [5, 6, 7, 8] (t.length - 1) (fun g d p a k wr => ∃ kd kp ka kk : Nat, d = .int .i64 kd ∧ p = .int .i64 kp ∧ a = .int .i64 ka ∧ k = .int .i64 kk ∧ kk ≤ t.length ∧ g + kk = t.length ∧ kd ≤ kk ∧ kp ≤ kk ∧ ka ≤ kk ∧ Blk wr w.heap.size 34 vZero ∧ Below w.heap.size w wr ∧ cn = cntM (t.drop kk) kd kp ka)
      case atStart => exact ⟨0, 0, 0, 1, rfl, rfl, rfl, rfl, by omega, by omega, by omega, by omega, by omega, Blk.new _ _ _, (Below.refl _ _).alloc (Nat.le_refl _) _, by rw [Hc.out, U2.out]⟩
      case round =>
        obtain ⟨kd, kp, ka, kk, rfl, rfl, rfl, rfl, hkl, hg, hd1, hp1, ha1, hZ, hB, A⟩ := hrel
        have A := Lib.hid A
        rename_i A0
        clear A0
        have hg := Lib.hid hg
        rename_i hg0
        clear hg0
        by_cases hlt : kk < t.length
        · have tlt : decide ((kk : Int) < (t.length : Int)) = true := by rw [decide_eq_true_eq]; omega
          cases hd : digitB t[kk] with
          | true =>
            have HD := Lib.hid hd
            clear hd
            by_cases hp0 : kp = 0
            · have tp : ((kp : Int) == 0) = true := by rw [beq_iff_eq]; omega
              have HP := Lib.hid hp0
              clear hp0
              go_wp2_with (go_at_call 93; refine (digit_any t[kk] _).mono ?_; rintro e w6 ⟨rfl, rfl⟩; simp only [HD.out])
              go_roundg (gk - 1)
              case measure => have := hg.out; omega
              case rel =>
                refine ⟨kd + 1, kp, ka + 1, kk + 1, by go_num, rfl, by go_num, by go_num, by omega, by have := hg.out; omega, by omega, by omega, by omega, hZ, hB, ?_⟩
                rw [A.out, drop_at hlt, cntM, if_pos HD.out, if_pos HP.out]
            · have tp : ((kp : Int) == 0) = false := by rw [beq_eq_false_iff_ne]; omega
              go_wp2_with (go_at_call 93; refine (digit_any t[kk] _).mono ?_; rintro e w6 ⟨rfl, rfl⟩; simp only [HD.out])
              go_roundg (gk - 1)
              case measure => have := hg.out; omega
              case rel =>
                refine ⟨kd + 1, kp, ka, kk + 1, by go_num, rfl, rfl, by go_num, by omega, by have := hg.out; omega, by omega, by omega, by omega, hZ, hB, ?_⟩
                rw [A.out, drop_at hlt, cntM, if_pos HD.out, if_neg hp0]
          | false =>
            have HD := Lib.hid hd
            clear hd
            by_cases h46 : t[kk].toNat = 46
            · have t46 : ((t[kk].toNat : Int) == 46) = true := by rw [beq_iff_eq]; omega
              have H46 := Lib.hid h46
              clear h46
              go_wp2_with (go_at_call 93; refine (digit_any t[kk] _).mono ?_; rintro e w6 ⟨rfl, rfl⟩; simp only [HD.out])
              go_roundg (gk - 1)
              case measure => have := hg.out; omega
              case rel =>
                refine ⟨kd, kp + 1, ka, kk + 1, rfl, by go_num, rfl, by go_num, by omega, by have := hg.out; omega, by omega, by omega, by omega, hZ, hB, ?_⟩
                rw [A.out, drop_at hlt, cntM, if_neg (by simp [HD.out]), if_pos H46.out]
            · have t46 : ((t[kk].toNat : Int) == 46) = false := by rw [beq_eq_false_iff_ne]; omega
              have E : Hid (fin = .refused) := Lib.hid (by rw [Hf.out, numM, ← Hc.out, A.out, drop_at hlt, cntM, if_neg (by simp [HD.out]), if_neg h46])
              obtain ⟨z0, z1, z2, z3, z4, z5, z6⟩ := res_cells hZ rfl
              have y0 := hZ.frozen 0
              have y1 := hZ.frozen 1
              have y2 := hZ.frozen 2
              have y3 := hZ.frozen 3
              have y4 := hZ.frozen 4
              have y5 := hZ.frozen 5
              have y6 := hZ.frozen 6
              go_wp2_with (go_at_call 93; refine (digit_any t[kk] _).mono ?_; rintro e w6 ⟨rfl, rfl⟩; simp only [HD.out])
              refine bodyPost_ret (v := .tuple #[.agg (vZero), .int .i64 1]) (by simp [results, Tryz.results75, go_sem, vZero, vReal, vInt, z0, z1, z2, z3, z4, z5, z6]) rfl ?_
              refine ⟨?_, (by repeat first | with_reducible exact hB | refine Below.setCell ?_ (by simp) _)⟩
              rw [E.out]; rfl
        · have tlt : decide ((kk : Int) < (t.length : Int)) = false := by rw [decide_eq_false_iff_not]; omega
          have A2 : Hid (cn = some (kd, kp, ka)) := Lib.hid (by rw [A.out, List.drop_eq_nil_of_le (by omega), cntM])
          clear A
          obtain ⟨z0, z1, z2, z3, z4, z5, z6⟩ := res_cells hZ rfl
          have y0 := hZ.frozen 0
          have y1 := hZ.frozen 1
          have y2 := hZ.frozen 2
          have y3 := hZ.frozen 3
          have y4 := hZ.frozen 4
          have y5 := hZ.frozen 5
          have y6 := hZ.frozen 6
          by_cases hd0 : kd = 0
          · have td : ((kd : Int) == 0) = true := by rw [beq_iff_eq]; omega
            have E : Hid (fin = .refused) := Lib.hid (by rw [Hf.out, numM, ← Hc.out, A2.out]; simp [hd0])
            clear hd0
            go_wp2_with fail
            refine bodyPost_ret (v := .tuple #[.agg (vZero), .int .i64 1]) (by simp [results, Tryz.results75, go_sem, vZero, vReal, vInt, z0, z1, z2, z3, z4, z5, z6]) rfl ?_
            refine ⟨?_, (by repeat first | with_reducible exact hB | refine Below.setCell ?_ (by simp) _)⟩
            rw [E.out]; rfl
          have td : ((kd : Int) == 0) = false := by rw [beq_eq_false_iff_ne]; omega
          by_cases hp2 : 1 < kp
          · have tp : decide ((1 : Int) < (kp : Int)) = true := by rw [decide_eq_true_eq]; omega
            have E : Hid (fin = .refused) := Lib.hid (by rw [Hf.out, numM, ← Hc.out, A2.out]; simp [hp2])
            go_wp2_with fail
            refine bodyPost_ret (v := .tuple #[.agg (vZero), .int .i64 1]) (by simp [results, Tryz.results75, go_sem, vZero, vReal, vInt, z0, z1, z2, z3, z4, z5, z6]) rfl ?_
            refine ⟨?_, (by repeat first | with_reducible exact hB | refine Below.setCell ?_ (by simp) _)⟩
            rw [E.out]; rfl
          have tp : decide ((1 : Int) < (kp : Int)) = false := by rw [decide_eq_false_iff_not]; omega
          by_cases ha14 : 14 < ka
          · have ta : decide ((14 : Int) < (ka : Int)) = true := by rw [decide_eq_true_eq]; omega
            have E : Hid (fin = .open_) := Lib.hid (by rw [Hf.out, numM, ← Hc.out, A2.out]; simp [hd0, hp2, ha14])
            go_wp2_with fail
            refine bodyPost_ret (v := .tuple #[.agg (vZero), .int .i64 2]) (by simp [results, Tryz.results75, go_sem, vZero, vReal, vInt, z0, z1, z2, z3, z4, z5, z6]) rfl ?_
            refine ⟨?_, (by repeat first | with_reducible exact hB | refine Below.setCell ?_ (by simp) _)⟩
            rw [E.out]; rfl
          have ta : decide ((14 : Int) < (ka : Int)) = false := by rw [decide_eq_false_iff_not]; omega
          by_cases hd60 : 60 < kd
          · have td6 : decide ((60 : Int) < (kd : Int)) = true := by rw [decide_eq_true_eq]; omega
            have E : Hid (fin = .open_) := Lib.hid (by rw [Hf.out, numM, ← Hc.out, A2.out]; simp [hd0, hp2, hd60])
            go_wp2_with fail
            refine bodyPost_ret (v := .tuple #[.agg (vZero), .int .i64 2]) (by simp [results, Tryz.results75, go_sem, vZero, vReal, vInt, z0, z1, z2, z3, z4, z5, z6]) rfl ?_
            refine ⟨?_, (by repeat first | with_reducible exact hB | refine Below.setCell ?_ (by simp) _)⟩
            rw [E.out]; rfl
          have td6 : decide ((60 : Int) < (kd : Int)) = false := by rw [decide_eq_false_iff_not]; omega
          by_cases hp1e : kp = 1
          · have tp1 : ((kp : Int) == 1) = true := by rw [beq_iff_eq]; omega
            have E : Hid (fin = .real) := Lib.hid (by rw [Hf.out, numM, ← Hc.out, A2.out]; simp [hd0, hp1e, ha14, hd60])
            clear hp1e
            go_wp2_with fail
            refine (Hpf.out t _ (by rw [← Hf.out]; exact E.out) hs (HW.out.trans (hB.mono HW.out.size))).mono ?_
            rintro e w1 ⟨rfl, hB1⟩
            clear z0 z1 z2 z3 z4 z5 z6 y0 y1 y2 y3 y4 y5 y6
            have hZ1 : Blk w1 w.heap.size 34 vZero := Blk.below hZ hB1 (Blk.lt hZ)
            have hB2 : Below w.heap.size w w1 := hB.trans (hB1.mono hB.size)
            clear hZ hB hB1
            have hZ := hZ1
            have hB := hB2
            clear hZ1 hB2
            obtain ⟨z0, z1, z2, z3, z4, z5, z6⟩ := res_cells hZ rfl
            have y0 := hZ.frozen 0
            have y1 := hZ.frozen 1
            have y2 := hZ.frozen 2
            have y3 := hZ.frozen 3
            have y4 := hZ.frozen 4
            have y5 := hZ.frozen 5
            have y6 := hZ.frozen 6
            go_wp2_with fail
            refine bodyPost_ret (v := .tuple #[.agg (vReal (pf t)), .int .i64 0]) (by simp [results, Tryz.results75, go_sem, vZero, vReal, vInt, z0, z1, z2, z3, z4, z5, z6]) rfl ?_
            refine ⟨?_, (by repeat first | with_reducible exact hB | refine Below.setCell ?_ (by simp) _)⟩
            rw [E.out]; rfl
          have tp1 : ((kp : Int) == 1) = false := by rw [beq_eq_false_iff_ne]; omega
          obtain ⟨n, hn, hn1, hn2⟩ : ∃ n, Lib.atoiAll t = .ok n ∧ -9223372036854775808 ≤ n ∧ n ≤ 9223372036854775807 := by
            have hk0 : kp = 0 := by omega
            have := A2.out
            rw [Hc.out, hk0] at this
            exact atoi_digits this hd0 (by omega)
          have HN := Lib.hid hn
          clear hn
          have hk0 : kp ≠ 1 := hp1e
          go_wp2_with fail
          refine (atoi_any t n HN.out hs _).mono ?_
          rintro e w1 ⟨rfl, hB1⟩
          clear z0 z1 z2 z3 z4 z5 z6 y0 y1 y2 y3 y4 y5 y6
          have hZ1 : Blk w1 w.heap.size 34 vZero := Blk.below hZ hB1 (Blk.lt hZ)
          have hB2 : Below w.heap.size w w1 := hB.trans (hB1.mono hB.size)
          clear hZ hB hB1
          have hZ := hZ1
          have hB := hB2
          clear hZ1 hB2
          obtain ⟨z0, z1, z2, z3, z4, z5, z6⟩ := res_cells hZ rfl
          have y0 := hZ.frozen 0
          have y1 := hZ.frozen 1
          have y2 := hZ.frozen 2
          have y3 := hZ.frozen 3
          have y4 := hZ.frozen 4
          have y5 := hZ.frozen 5
          have y6 := hZ.frozen 6
          by_cases hbig : 2147483647 < n
          · have tb : decide (2147483647 < n) = true := by rw [decide_eq_true_eq]; exact hbig
            have E : Hid (fin = .open_) := Lib.hid (by rw [Hf.out, numM, ← Hc.out, A2.out]; simp [hd0, hp2, ha14, hd60, hk0, HN.out, hbig])
            go_wp2_with fail
            refine bodyPost_ret (v := .tuple #[.agg (vZero), .int .i64 2]) (by simp [results, Tryz.results75, go_sem, vZero, vReal, vInt, z0, z1, z2, z3, z4, z5, z6]) rfl ?_
            refine ⟨?_, (by repeat first | with_reducible exact hB | refine Below.setCell ?_ (by simp) _)⟩
            rw [E.out]; rfl
          have tb : decide (2147483647 < n) = false := by rw [decide_eq_false_iff_not]; exact hbig
          by_cases hsml : n < -2147483648
          · have tb2 : decide (n < -2147483648) = true := by rw [decide_eq_true_eq]; exact hsml
            have E : Hid (fin = .open_) := Lib.hid (by rw [Hf.out, numM, ← Hc.out, A2.out]; simp [hd0, hp2, ha14, hd60, hk0, HN.out, hsml])
            go_wp2_with fail
            refine bodyPost_ret (v := .tuple #[.agg (vZero), .int .i64 2]) (by simp [results, Tryz.results75, go_sem, vZero, vReal, vInt, z0, z1, z2, z3, z4, z5, z6]) rfl ?_
            refine ⟨?_, (by repeat first | with_reducible exact hB | refine Below.setCell ?_ (by simp) _)⟩
            rw [E.out]; rfl
          have tb2 : decide (n < -2147483648) = false := by rw [decide_eq_false_iff_not]; exact hsml
          have E : Hid (fin = .int n) := Lib.hid (by rw [Hf.out, numM, ← Hc.out, A2.out]; simp [hd0, hp2, ha14, hd60, hk0, HN.out, hbig, hsml])
          go_wp2_with fail
          refine bodyPost_ret (v := .tuple #[.agg (vInt n), .int .i64 0]) (by simp [results, Tryz.results75, go_sem, vZero, vReal, vInt, z0, z1, z2, z3, z4, z5, z6]) rfl ?_
          refine ⟨?_, (by repeat first | with_reducible exact hB | refine Below.setCell ?_ (by simp) _)⟩
          rw [E.out]; rfl
    have t43 : ((t[0].toNat : Int) == 43) = false := by rw [beq_eq_false_iff_ne]; omega
    by_cases h45 : t[0].toNat = 45
    · have t45 : ((t[0].toNat : Int) == 45) = true := by rw [beq_iff_eq]; omega
      have U2 : Hid (unsign t = t.drop 1) := Lib.hid (unsign_sign U.out (.inr h45))
      clear h45
      go_enter Tryz.func75, Tryz.ntmps75
      go_wp2_with fail
      go_loopg [5, 6, 7, 8] (t.length - 1) (fun g d p a k wr => ∃ kd kp ka kk : Nat, d = .int .i64 kd ∧ p = .int .i64 kp ∧ a = .int .i64 ka ∧ k = .int .i64 kk ∧ kk ≤ t.length ∧ g + kk = t.length ∧ kd ≤ kk ∧ kp ≤ kk ∧ ka ≤ kk ∧ Blk wr w.heap.size 34 vZero ∧ Below w.heap.size w wr ∧ cn = cntM (t.drop kk) kd kp ka)
      case atStart => exact ⟨0, 0, 0, 1, rfl, rfl, rfl, rfl, by omega, by omega, by omega, by omega, by omega, Blk.new _ _ _, (Below.refl _ _).alloc (Nat.le_refl _) _, by rw [Hc.out, U2.out]⟩
      case round =>
        obtain ⟨kd, kp, ka, kk, rfl, rfl, rfl, rfl, hkl, hg, hd1, hp1, ha1, hZ, hB, A⟩ := hrel
        have A := Lib.hid A
        rename_i A0
        clear A0
        have hg := Lib.hid hg
        rename_i hg0
        clear hg0
        by_cases hlt : kk < t.length
        · have tlt : decide ((kk : Int) < (t.length : Int)) = true := by rw [decide_eq_true_eq]; omega
          cases hd : digitB t[kk] with
          | true =>
            have HD := Lib.hid hd
            clear hd
            by_cases hp0 : kp = 0
            · have tp : ((kp : Int) == 0) = true := by rw [beq_iff_eq]; omega
              have HP := Lib.hid hp0
              clear hp0
              go_wp2_with (go_at_call 93; refine (digit_any t[kk] _).mono ?_; rintro e w6 ⟨rfl, rfl⟩; simp only [HD.out])
              go_roundg (gk - 1)
              case measure => have := hg.out; omega
              case rel =>
                refine ⟨kd + 1, kp, ka + 1, kk + 1, by go_num, rfl, by go_num, by go_num, by omega, by have := hg.out; omega, by omega, by omega, by omega, hZ, hB, ?_⟩
                rw [A.out, drop_at hlt, cntM, if_pos HD.out, if_pos HP.out]
            · have tp : ((kp : Int) == 0) = false := by rw [beq_eq_false_iff_ne]; omega
              go_wp2_with (go_at_call 93; refine (digit_any t[kk] _).mono ?_; rintro e w6 ⟨rfl, rfl⟩; simp only [HD.out])
              go_roundg (gk - 1)
              case measure => have := hg.out; omega
              case rel =>
                refine ⟨kd + 1, kp, ka, kk + 1, by go_num, rfl, rfl, by go_num, by omega, by have := hg.out; omega, by omega, by omega, by omega, hZ, hB, ?_⟩
                rw [A.out, drop_at hlt, cntM, if_pos HD.out, if_neg hp0]
          | false =>
            have HD := Lib.hid hd
            clear hd
            by_cases h46 : t[kk].toNat = 46
            · have t46 : ((t[kk].toNat : Int) == 46) = true := by rw [beq_iff_eq]; omega
              have H46 := Lib.hid h46
              clear h46
              go_wp2_with (go_at_call 93; refine (digit_any t[kk] _).mono ?_; rintro e w6 ⟨rfl, rfl⟩; simp only [HD.out])
              go_roundg (gk - 1)
              case measure => have := hg.out; omega
              case rel =>
                refine ⟨kd, kp + 1, ka, kk + 1, rfl, by go_num, rfl, by go_num, by omega, by have := hg.out; omega, by omega, by omega, by omega, hZ, hB, ?_⟩
                rw [A.out, drop_at hlt, cntM, if_neg (by simp [HD.out]), if_pos H46.out]
            · have t46 : ((t[kk].toNat : Int) == 46) = false := by rw [beq_eq_false_iff_ne]; omega
              have E : Hid (fin = .refused) := Lib.hid (by rw [Hf.out, numM, ← Hc.out, A.out, drop_at hlt, cntM, if_neg (by simp [HD.out]), if_neg h46])
              obtain ⟨z0, z1, z2, z3, z4, z5, z6⟩ := res_cells hZ rfl
              have y0 := hZ.frozen 0
              have y1 := hZ.frozen 1
              have y2 := hZ.frozen 2
              have y3 := hZ.frozen 3
              have y4 := hZ.frozen 4
              have y5 := hZ.frozen 5
              have y6 := hZ.frozen 6
              go_wp2_with (go_at_call 93; refine (digit_any t[kk] _).mono ?_; rintro e w6 ⟨rfl, rfl⟩; simp only [HD.out])
              refine bodyPost_ret (v := .tuple #[.agg (vZero), .int .i64 1]) (by simp [results, Tryz.results75, go_sem, vZero, vReal, vInt, z0, z1, z2, z3, z4, z5, z6]) rfl ?_
              refine ⟨?_, (by repeat first | with_reducible exact hB | refine Below.setCell ?_ (by simp) _)⟩
              rw [E.out]; rfl
        · have tlt : decide ((kk : Int) < (t.length : Int)) = false := by rw [decide_eq_false_iff_not]; omega
          have A2 : Hid (cn = some (kd, kp, ka)) := Lib.hid (by rw [A.out, List.drop_eq_nil_of_le (by omega), cntM])
          clear A
          obtain ⟨z0, z1, z2, z3, z4, z5, z6⟩ := res_cells hZ rfl
          have y0 := hZ.frozen 0
          have y1 := hZ.frozen 1
          have y2 := hZ.frozen 2
          have y3 := hZ.frozen 3
          have y4 := hZ.frozen 4
          have y5 := hZ.frozen 5
          have y6 := hZ.frozen 6
          by_cases hd0 : kd = 0
          · have td : ((kd : Int) == 0) = true := by rw [beq_iff_eq]; omega
            have E : Hid (fin = .refused) := Lib.hid (by rw [Hf.out, numM, ← Hc.out, A2.out]; simp [hd0])
            clear hd0
            go_wp2_with fail
            refine bodyPost_ret (v := .tuple #[.agg (vZero), .int .i64 1]) (by simp [results, Tryz.results75, go_sem, vZero, vReal, vInt, z0, z1, z2, z3, z4, z5, z6]) rfl ?_
            refine ⟨?_, (by repeat first | with_reducible exact hB | refine Below.setCell ?_ (by simp) _)⟩
            rw [E.out]; rfl
          have td : ((kd : Int) == 0) = false := by rw [beq_eq_false_iff_ne]; omega
          by_cases hp2 : 1 < kp
          · have tp : decide ((1 : Int) < (kp : Int)) = true := by rw [decide_eq_true_eq]; omega
            have E : Hid (fin = .refused) := Lib.hid (by rw [Hf.out, numM, ← Hc.out, A2.out]; simp [hp2])
            go_wp2_with fail
            refine bodyPost_ret (v := .tuple #[.agg (vZero), .int .i64 1]) (by simp [results, Tryz.results75, go_sem, vZero, vReal, vInt, z0, z1, z2, z3, z4, z5, z6]) rfl ?_
            refine ⟨?_, (by repeat first | with_reducible exact hB | refine Below.setCell ?_ (by simp) _)⟩
            rw [E.out]; rfl
          have tp : decide ((1 : Int) < (kp : Int)) = false := by rw [decide_eq_false_iff_not]; omega
          by_cases ha14 : 14 < ka
          · have ta : decide ((14 : Int) < (ka : Int)) = true := by rw [decide_eq_true_eq]; omega
            have E : Hid (fin = .open_) := Lib.hid (by rw [Hf.out, numM, ← Hc.out, A2.out]; simp [hd0, hp2, ha14])
            go_wp2_with fail
            refine bodyPost_ret (v := .tuple #[.agg (vZero), .int .i64 2]) (by simp [results, Tryz.results75, go_sem, vZero, vReal, vInt, z0, z1, z2, z3, z4, z5, z6]) rfl ?_
            refine ⟨?_, (by repeat first | with_reducible exact hB | refine Below.setCell ?_ (by simp) _)⟩
            rw [E.out]; rfl
          have ta : decide ((14 : Int) < (ka : Int)) = false := by rw [decide_eq_false_iff_not]; omega
          by_cases hd60 : 60 < kd
          · have td6 : decide ((60 : Int) < (kd : Int)) = true := by rw [decide_eq_true_eq]; omega
            have E : Hid (fin = .open_) := Lib.hid (by rw [Hf.out, numM, ← Hc.out, A2.out]; simp [hd0, hp2, hd60])
            go_wp2_with fail
            refine bodyPost_ret (v := .tuple #[.agg (vZero), .int .i64 2]) (by simp [results, Tryz.results75, go_sem, vZero, vReal, vInt, z0, z1, z2, z3, z4, z5, z6]) rfl ?_
            refine ⟨?_, (by repeat first | with_reducible exact hB | refine Below.setCell ?_ (by simp) _)⟩
            rw [E.out]; rfl
          have td6 : decide ((60 : Int) < (kd : Int)) = false := by rw [decide_eq_false_iff_not]; omega
          by_cases hp1e : kp = 1
          · have tp1 : ((kp : Int) == 1) = true := by rw [beq_iff_eq]; omega
            have E : Hid (fin = .real) := Lib.hid (by rw [Hf.out, numM, ← Hc.out, A2.out]; simp [hd0, hp1e, ha14, hd60])
            clear hp1e
            go_wp2_with fail
            refine (Hpf.out t _ (by rw [← Hf.out]; exact E.out) hs (HW.out.trans (hB.mono HW.out.size))).mono ?_
            rintro e w1 ⟨rfl, hB1⟩
            clear z0 z1 z2 z3 z4 z5 z6 y0 y1 y2 y3 y4 y5 y6
            have hZ1 : Blk w1 w.heap.size 34 vZero := Blk.below hZ hB1 (Blk.lt hZ)
            have hB2 : Below w.heap.size w w1 := hB.trans (hB1.mono hB.size)
            clear hZ hB hB1
            have hZ := hZ1
            have hB := hB2
            clear hZ1 hB2
            obtain ⟨z0, z1, z2, z3, z4, z5, z6⟩ := res_cells hZ rfl
            have y0 := hZ.frozen 0
            have y1 := hZ.frozen 1
            have y2 := hZ.frozen 2
            have y3 := hZ.frozen 3
            have y4 := hZ.frozen 4
            have y5 := hZ.frozen 5
            have y6 := hZ.frozen 6
            go_wp2_with fail
            refine bodyPost_ret (v := .tuple #[.agg (vReal (pf t)), .int .i64 0]) (by simp [results, Tryz.results75, go_sem, vZero, vReal, vInt, z0, z1, z2, z3, z4, z5, z6]) rfl ?_
            refine ⟨?_, (by repeat first | with_reducible exact hB | refine Below.setCell ?_ (by simp) _)⟩
            rw [E.out]; rfl
          have tp1 : ((kp : Int) == 1) = false := by rw [beq_eq_false_iff_ne]; omega
          obtain ⟨n, hn, hn1, hn2⟩ : ∃ n, Lib.atoiAll t = .ok n ∧ -9223372036854775808 ≤ n ∧ n ≤ 9223372036854775807 := by
            have hk0 : kp = 0 := by omega
            have := A2.out
            rw [Hc.out, hk0] at this
            exact atoi_digits this hd0 (by omega)
          have HN := Lib.hid hn
          clear hn
          have hk0 : kp ≠ 1 := hp1e
          go_wp2_with fail
          refine (atoi_any t n HN.out hs _).mono ?_
          rintro e w1 ⟨rfl, hB1⟩
          clear z0 z1 z2 z3 z4 z5 z6 y0 y1 y2 y3 y4 y5 y6
          have hZ1 : Blk w1 w.heap.size 34 vZero := Blk.below hZ hB1 (Blk.lt hZ)
          have hB2 : Below w.heap.size w w1 := hB.trans (hB1.mono hB.size)
          clear hZ hB hB1
          have hZ := hZ1
          have hB := hB2
          clear hZ1 hB2
          obtain ⟨z0, z1, z2, z3, z4, z5, z6⟩ := res_cells hZ rfl
          have y0 := hZ.frozen 0
          have y1 := hZ.frozen 1
          have y2 := hZ.frozen 2
          have y3 := hZ.frozen 3
          have y4 := hZ.frozen 4
          have y5 := hZ.frozen 5
          have y6 := hZ.frozen 6
          by_cases hbig : 2147483647 < n
          · have tb : decide (2147483647 < n) = true := by rw [decide_eq_true_eq]; exact hbig
            have E : Hid (fin = .open_) := Lib.hid (by rw [Hf.out, numM, ← Hc.out, A2.out]; simp [hd0, hp2, ha14, hd60, hk0, HN.out, hbig])
            go_wp2_with fail
            refine bodyPost_ret (v := .tuple #[.agg (vZero), .int .i64 2]) (by simp [results, Tryz.results75, go_sem, vZero, vReal, vInt, z0, z1, z2, z3, z4, z5, z6]) rfl ?_
            refine ⟨?_, (by repeat first | with_reducible exact hB | refine Below.setCell ?_ (by simp) _)⟩
            rw [E.out]; rfl
          have tb : decide (2147483647 < n) = false := by rw [decide_eq_false_iff_not]; exact hbig
          by_cases hsml : n < -2147483648
          · have tb2 : decide (n < -2147483648) = true := by rw [decide_eq_true_eq]; exact hsml
            have E : Hid (fin = .open_) := Lib.hid (by rw [Hf.out, numM, ← Hc.out, A2.out]; simp [hd0, hp2, ha14, hd60, hk0, HN.out, hsml])
            go_wp2_with fail
            refine bodyPost_ret (v := .tuple #[.agg (vZero), .int .i64 2]) (by simp [results, Tryz.results75, go_sem, vZero, vReal, vInt, z0, z1, z2, z3, z4, z5, z6]) rfl ?_
            refine ⟨?_, (by repeat first | with_reducible exact hB | refine Below.setCell ?_ (by simp) _)⟩
            rw [E.out]; rfl
          have tb2 : decide (n < -2147483648) = false := by rw [decide_eq_false_iff_not]; exact hsml
          have E : Hid (fin = .int n) := Lib.hid (by rw [Hf.out, numM, ← Hc.out, A2.out]; simp [hd0, hp2, ha14, hd60, hk0, HN.out, hbig, hsml])
          go_wp2_with fail
          refine bodyPost_ret (v := .tuple #[.agg (vInt n), .int .i64 0]) (by simp [results, Tryz.results75, go_sem, vZero, vReal, vInt, z0, z1, z2, z3, z4, z5, z6]) rfl ?_
          refine ⟨?_, (by repeat first | with_reducible exact hB | refine Below.setCell ?_ (by simp) _)⟩
          rw [E.out]; rfl
    have t45 : ((t[0].toNat : Int) == 45) = false := by rw [beq_eq_false_iff_ne]; omega
    have U2 : Hid (unsign t = t.drop 0) := Lib.hid (by rw [List.drop_zero]; exact unsign_plain U.out h43 h45)
    go_enter Tryz.func75, Tryz.ntmps75
    go_wp2_with fail
    go_loopg [5, 6, 7, 8] (t.length - 0) (fun g d p a k wr => ∃ kd kp ka kk : Nat, d = .int .i64 kd ∧ p = .int .i64 kp ∧ a = .int .i64 ka ∧ k = .int .i64 kk ∧ kk ≤ t.length ∧ g + kk = t.length ∧ kd ≤ kk ∧ kp ≤ kk ∧ ka ≤ kk ∧ Blk wr w.heap.size 34 vZero ∧ Below w.heap.size w wr ∧ cn = cntM (t.drop kk) kd kp ka)
    case atStart => exact ⟨0, 0, 0, 0, rfl, rfl, rfl, rfl, by omega, by omega, by omega, by omega, by omega, Blk.new _ _ _, (Below.refl _ _).alloc (Nat.le_refl _) _, by rw [Hc.out, U2.out]⟩
    case round =>
      obtain ⟨kd, kp, ka, kk, rfl, rfl, rfl, rfl, hkl, hg, hd1, hp1, ha1, hZ, hB, A⟩ := hrel
      have A := Lib.hid A
      rename_i A0
      clear A0
      have hg := Lib.hid hg
      rename_i hg0
      clear hg0
      by_cases hlt : kk < t.length
      · have tlt : decide ((kk : Int) < (t.length : Int)) = true := by rw [decide_eq_true_eq]; omega
        cases hd : digitB t[kk] with
        | true =>
          have HD := Lib.hid hd
          clear hd
          by_cases hp0 : kp = 0
          · have tp : ((kp : Int) == 0) = true := by rw [beq_iff_eq]; omega
            have HP := Lib.hid hp0
            clear hp0
            go_wp2_with (go_at_call 93; refine (digit_any t[kk] _).mono ?_; rintro e w6 ⟨rfl, rfl⟩; simp only [HD.out])
            go_roundg (gk - 1)
            case measure => have := hg.out; omega
            case rel =>
              refine ⟨kd + 1, kp, ka + 1, kk + 1, by go_num, rfl, by go_num, by go_num, by omega, by have := hg.out; omega, by omega, by omega, by omega, hZ, hB, ?_⟩
              rw [A.out, drop_at hlt, cntM, if_pos HD.out, if_pos HP.out]
          · have tp : ((kp : Int) == 0) = false := by rw [beq_eq_false_iff_ne]; omega
            go_wp2_with (go_at_call 93; refine (digit_any t[kk] _).mono ?_; rintro e w6 ⟨rfl, rfl⟩; simp only [HD.out])
            go_roundg (gk - 1)
            case measure => have := hg.out; omega
            case rel =>
              refine ⟨kd + 1, kp, ka, kk + 1, by go_num, rfl, rfl, by go_num, by omega, by have := hg.out; omega, by omega, by omega, by omega, hZ, hB, ?_⟩
              rw [A.out, drop_at hlt, cntM, if_pos HD.out, if_neg hp0]
        | false =>
          have HD := Lib.hid hd
          clear hd
          by_cases h46 : t[kk].toNat = 46
          · have t46 : ((t[kk].toNat : Int) == 46) = true := by rw [beq_iff_eq]; omega
            have H46 := Lib.hid h46
            clear h46
            go_wp2_with (go_at_call 93; refine (digit_any t[kk] _).mono ?_; rintro e w6 ⟨rfl, rfl⟩; simp only [HD.out])
            go_roundg (gk - 1)
            case measure => have := hg.out; omega
            case rel =>
              refine ⟨kd, kp + 1, ka, kk + 1, rfl, by go_num, rfl, by go_num, by omega, by have := hg.out; omega, by omega, by omega, by omega, hZ, hB, ?_⟩
              rw [A.out, drop_at hlt, cntM, if_neg (by simp [HD.out]), if_pos H46.out]
          · have t46 : ((t[kk].toNat : Int) == 46) = false := by rw [beq_eq_false_iff_ne]; omega
            have E : Hid (fin = .refused) := Lib.hid (by rw [Hf.out, numM, ← Hc.out, A.out, drop_at hlt, cntM, if_neg (by simp [HD.out]), if_neg h46])
            obtain ⟨z0, z1, z2, z3, z4, z5, z6⟩ := res_cells hZ rfl
            have y0 := hZ.frozen 0
            have y1 := hZ.frozen 1
            have y2 := hZ.frozen 2
            have y3 := hZ.frozen 3
            have y4 := hZ.frozen 4
            have y5 := hZ.frozen 5
            have y6 := hZ.frozen 6
            go_wp2_with (go_at_call 93; refine (digit_any t[kk] _).mono ?_; rintro e w6 ⟨rfl, rfl⟩; simp only [HD.out])
            refine bodyPost_ret (v := .tuple #[.agg (vZero), .int .i64 1]) (by simp [results, Tryz.results75, go_sem, vZero, vReal, vInt, z0, z1, z2, z3, z4, z5, z6]) rfl ?_
            refine ⟨?_, (by repeat first | with_reducible exact hB | refine Below.setCell ?_ (by simp) _)⟩
            rw [E.out]; rfl
      · have tlt : decide ((kk : Int) < (t.length : Int)) = false := by rw [decide_eq_false_iff_not]; omega
        have A2 : Hid (cn = some (kd, kp, ka)) := Lib.hid (by rw [A.out, List.drop_eq_nil_of_le (by omega), cntM])
        clear A
        obtain ⟨z0, z1, z2, z3, z4, z5, z6⟩ := res_cells hZ rfl
        have y0 := hZ.frozen 0
        have y1 := hZ.frozen 1
        have y2 := hZ.frozen 2
        have y3 := hZ.frozen 3
        have y4 := hZ.frozen 4
        have y5 := hZ.frozen 5
        have y6 := hZ.frozen 6
        by_cases hd0 : kd = 0
        · have td : ((kd : Int) == 0) = true := by rw [beq_iff_eq]; omega
          have E : Hid (fin = .refused) := Lib.hid (by rw [Hf.out, numM, ← Hc.out, A2.out]; simp [hd0])
          clear hd0
          go_wp2_with fail
          refine bodyPost_ret (v := .tuple #[.agg (vZero), .int .i64 1]) (by simp [results, Tryz.results75, go_sem, vZero, vReal, vInt, z0, z1, z2, z3, z4, z5, z6]) rfl ?_
          refine ⟨?_, (by repeat first | with_reducible exact hB | refine Below.setCell ?_ (by simp) _)⟩
          rw [E.out]; rfl
        have td : ((kd : Int) == 0) = false := by rw [beq_eq_false_iff_ne]; omega
        by_cases hp2 : 1 < kp
        · have tp : decide ((1 : Int) < (kp : Int)) = true := by rw [decide_eq_true_eq]; omega
          have E : Hid (fin = .refused) := Lib.hid (by rw [Hf.out, numM, ← Hc.out, A2.out]; simp [hp2])
          go_wp2_with fail
          refine bodyPost_ret (v := .tuple #[.agg (vZero), .int .i64 1]) (by simp [results, Tryz.results75, go_sem, vZero, vReal, vInt, z0, z1, z2, z3, z4, z5, z6]) rfl ?_
          refine ⟨?_, (by repeat first | with_reducible exact hB | refine Below.setCell ?_ (by simp) _)⟩
          rw [E.out]; rfl
        have tp : decide ((1 : Int) < (kp : Int)) = false := by rw [decide_eq_false_iff_not]; omega
        by_cases ha14 : 14 < ka
        · have ta : decide ((14 : Int) < (ka : Int)) = true := by rw [decide_eq_true_eq]; omega
          have E : Hid (fin = .open_) := Lib.hid (by rw [Hf.out, numM, ← Hc.out, A2.out]; simp [hd0, hp2, ha14])
          go_wp2_with fail
          refine bodyPost_ret (v := .tuple #[.agg (vZero), .int .i64 2]) (by simp [results, Tryz.results75, go_sem, vZero, vReal, vInt, z0, z1, z2, z3, z4, z5, z6]) rfl ?_
          refine ⟨?_, (by repeat first | with_reducible exact hB | refine Below.setCell ?_ (by simp) _)⟩
          rw [E.out]; rfl
        have ta : decide ((14 : Int) < (ka : Int)) = false := by rw [decide_eq_false_iff_not]; omega
        by_cases hd60 : 60 < kd
        · have td6 : decide ((60 : Int) < (kd : Int)) = true := by rw [decide_eq_true_eq]; omega
          have E : Hid (fin = .open_) := Lib.hid (by rw [Hf.out, numM, ← Hc.out, A2.out]; simp [hd0, hp2, hd60])
          go_wp2_with fail
          refine bodyPost_ret (v := .tuple #[.agg (vZero), .int .i64 2]) (by simp [results, Tryz.results75, go_sem, vZero, vReal, vInt, z0, z1, z2, z3, z4, z5, z6]) rfl ?_
          refine ⟨?_, (by repeat first | with_reducible exact hB | refine Below.setCell ?_ (by simp) _)⟩
          rw [E.out]; rfl
        have td6 : decide ((60 : Int) < (kd : Int)) = false := by rw [decide_eq_false_iff_not]; omega
        by_cases hp1e : kp = 1
        · have tp1 : ((kp : Int) == 1) = true := by rw [beq_iff_eq]; omega
          have E : Hid (fin = .real) := Lib.hid (by rw [Hf.out, numM, ← Hc.out, A2.out]; simp [hd0, hp1e, ha14, hd60])
          clear hp1e
          go_wp2_with fail
          refine (Hpf.out t _ (by rw [← Hf.out]; exact E.out) hs (HW.out.trans (hB.mono HW.out.size))).mono ?_
          rintro e w1 ⟨rfl, hB1⟩
          clear z0 z1 z2 z3 z4 z5 z6 y0 y1 y2 y3 y4 y5 y6
          have hZ1 : Blk w1 w.heap.size 34 vZero := Blk.below hZ hB1 (Blk.lt hZ)
          have hB2 : Below w.heap.size w w1 := hB.trans (hB1.mono hB.size)
          clear hZ hB hB1
          have hZ := hZ1
          have hB := hB2
          clear hZ1 hB2
          obtain ⟨z0, z1, z2, z3, z4, z5, z6⟩ := res_cells hZ rfl
          have y0 := hZ.frozen 0
          have y1 := hZ.frozen 1
          have y2 := hZ.frozen 2
          have y3 := hZ.frozen 3
          have y4 := hZ.frozen 4
          have y5 := hZ.frozen 5
          have y6 := hZ.frozen 6
          go_wp2_with fail
          refine bodyPost_ret (v := .tuple #[.agg (vReal (pf t)), .int .i64 0]) (by simp [results, Tryz.results75, go_sem, vZero, vReal, vInt, z0, z1, z2, z3, z4, z5, z6]) rfl ?_
          refine ⟨?_, (by repeat first | with_reducible exact hB | refine Below.setCell ?_ (by simp) _)⟩
          rw [E.out]; rfl
        have tp1 : ((kp : Int) == 1) = false := by rw [beq_eq_false_iff_ne]; omega
        obtain ⟨n, hn, hn1, hn2⟩ : ∃ n, Lib.atoiAll t = .ok n ∧ -9223372036854775808 ≤ n ∧ n ≤ 9223372036854775807 := by
          have hk0 : kp = 0 := by omega
          have := A2.out
          rw [Hc.out, hk0] at this
          exact atoi_digits this hd0 (by omega)
        have HN := Lib.hid hn
        clear hn
        have hk0 : kp ≠ 1 := hp1e
        go_wp2_with fail
        refine (atoi_any t n HN.out hs _).mono ?_
        rintro e w1 ⟨rfl, hB1⟩
        clear z0 z1 z2 z3 z4 z5 z6 y0 y1 y2 y3 y4 y5 y6
        have hZ1 : Blk w1 w.heap.size 34 vZero := Blk.below hZ hB1 (Blk.lt hZ)
        have hB2 : Below w.heap.size w w1 := hB.trans (hB1.mono hB.size)
        clear hZ hB hB1
        have hZ := hZ1
        have hB := hB2
        clear hZ1 hB2
        obtain ⟨z0, z1, z2, z3, z4, z5, z6⟩ := res_cells hZ rfl
        have y0 := hZ.frozen 0
        have y1 := hZ.frozen 1
        have y2 := hZ.frozen 2
        have y3 := hZ.frozen 3
        have y4 := hZ.frozen 4
        have y5 := hZ.frozen 5
        have y6 := hZ.frozen 6
        by_cases hbig : 2147483647 < n
        · have tb : decide (2147483647 < n) = true := by rw [decide_eq_true_eq]; exact hbig
          have E : Hid (fin = .open_) := Lib.hid (by rw [Hf.out, numM, ← Hc.out, A2.out]; simp [hd0, hp2, ha14, hd60, hk0, HN.out, hbig])
          go_wp2_with fail
          refine bodyPost_ret (v := .tuple #[.agg (vZero), .int .i64 2]) (by simp [results, Tryz.results75, go_sem, vZero, vReal, vInt, z0, z1, z2, z3, z4, z5, z6]) rfl ?_
          refine ⟨?_, (by repeat first | with_reducible exact hB | refine Below.setCell ?_ (by simp) _)⟩
          rw [E.out]; rfl
        have tb : decide (2147483647 < n) = false := by rw [decide_eq_false_iff_not]; exact hbig
        by_cases hsml : n < -2147483648
        · have tb2 : decide (n < -2147483648) = true := by rw [decide_eq_true_eq]; exact hsml
          have E : Hid (fin = .open_) := Lib.hid (by rw [Hf.out, numM, ← Hc.out, A2.out]; simp [hd0, hp2, ha14, hd60, hk0, HN.out, hsml])
          go_wp2_with fail
          refine bodyPost_ret (v := .tuple #[.agg (vZero), .int .i64 2]) (by simp [results, Tryz.results75, go_sem, vZero, vReal, vInt, z0, z1, z2, z3, z4, z5, z6]) rfl ?_
          refine ⟨?_, (by repeat first | with_reducible exact hB | refine Below.setCell ?_ (by simp) _)⟩
          rw [E.out]; rfl
        have tb2 : decide (n < -2147483648) = false := by rw [decide_eq_false_iff_not]; exact hsml
        have E : Hid (fin = .int n) := Lib.hid (by rw [Hf.out, numM, ← Hc.out, A2.out]; simp [hd0, hp2, ha14, hd60, hk0, HN.out, hbig, hsml])
        go_wp2_with fail
        refine bodyPost_ret (v := .tuple #[.agg (vInt n), .int .i64 0]) (by simp [results, Tryz.results75, go_sem, vZero, vReal, vInt, z0, z1, z2, z3, z4, z5, z6]) rfl ?_
        refine ⟨?_, (by repeat first | with_reducible exact hB | refine Below.setCell ?_ (by simp) _)⟩
        rw [E.out]; rfl
  · have ht : t = [] := List.eq_nil_of_length_eq_zero (by omega)
    have E : Hid (fin = .refused) := Lib.hid (by rw [Hf.out, ht]; rfl)
    clear hl0
    subst ht
    go_enter Tryz.func75, Tryz.ntmps75
    go_wp2_with fail
    refine wp_loop_rounds 1 ?_
    rw [rounds_succ]
    go_wp2_with fail
    refine bodyPost_ret (v := .tuple #[.agg vZero, .int .i64 1]) (by simp [results, Tryz.results75, go_sem, vZero]) rfl ?_
    refine ⟨by rw [E.out]; rfl, ?_⟩
    repeat first | exact Below.refl _ _ | refine Below.alloc ?_ (Nat.le_refl _) _ | refine Below.setCell ?_ (by simp) _
end Go.Proofs.YtcpijmbdibgdmaaGreatDoor

namespace Go.Proofs.YtcpijmbdibgdmaaGreatDoor

/-- Digits and at most one point (d: it has been). -/
def okR : Bool → List UInt8 → Bool
  | _, [] => true
  | d, c :: l => if digitB c = true then okR d l else decide (c.toNat = 46) && !d && okR true l
structure RFS where
  dot : Bool
  dig : Bool
  nd : Nat
  nm : Nat
  dp : Int
  m : Nat
  tr : Bool
def RFS.zero : RFS := ⟨false, false, 0, 0, 0, 0, false⟩
/-- readFloat's state behind one more sign. -/
def rfS (s : RFS) (c : UInt8) : RFS :=
  if c.toNat = 46 then { s with dot := true, dp := s.nd }
  else if c.toNat = 48 ∧ s.nd = 0 then { s with dig := true, dp := s.dp - 1 }
  else if s.nm < 19 then { s with dig := true, nd := s.nd + 1, nm := s.nm + 1, m := s.m * 10 + (c.toNat - 48) }
  else { s with dig := true, nd := s.nd + 1, tr := s.tr || decide (c.toNat ≠ 48) }
def rfL (s : RFS) (l : List UInt8) : RFS := l.foldl rfS s
def nS (N : Nat) (c : UInt8) : Nat := if c.toNat = 46 then N else N * 10 + (c.toNat - 48)
def nL (N : Nat) (l : List UInt8) : Nat := l.foldl nS N
/-- What holds of a state behind n digits, a of them ahead of the point. -/
structure RIn (s : RFS) (N n a : Nat) : Prop where
  h1 : s.nd ≤ n
  h2 : s.nm = min s.nd 19
  h3 : s.m < 10 ^ s.nm
  h4 : s.nd ≠ 0 → s.m ≠ 0
  h5 : nd N = s.nd
  h6 : -(n : Int) ≤ s.dp
  h7 : s.dp ≤ (a : Int)
  h8 : s.dot = false → a = n
  h9 : n ≠ 0 → s.dig = true
  h10 : s.nd = 0 → s.m = 0
theorem RIn.zero : RIn RFS.zero 0 0 0 := ⟨by decide, by decide, by decide, fun h => absurd rfl h, nd_zero, by decide, by decide, fun _ => rfl, fun h => absurd rfl h, fun _ => rfl⟩
theorem RIn.digit {s : RFS} {N n a : Nat} {c : UInt8} (h : RIn s N n a) (hc : 48 ≤ c.toNat ∧ c.toNat ≤ 57) : RIn (rfS s c) (nS N c) (n + 1) (if s.dot = true then a else a + 1) := by
  obtain ⟨h1, h2, h3, h4, h5, h6, h7, h8, h9, h10⟩ := h
  have ha : (a : Int) ≤ ((if s.dot = true then a else a + 1 : Nat) : Int) := by split <;> omega
  have ha2 : s.dot = false → (if s.dot = true then a else a + 1) = n + 1 := by intro e; rw [if_neg (by rw [e]; decide), h8 e]
  have h46 : (c.toNat = 46) = False := eq_false (by omega)
  unfold rfS nS
  simp only [h46, if_false]
  by_cases hz : c.toNat = 48 ∧ s.nd = 0
  · rw [if_pos hz]
    have hN : N = 0 := nd_none (by omega)
    refine ⟨by show s.nd ≤ _; omega, h2, h3, h4, ?_, by show _ ≤ s.dp - 1; omega, by show s.dp - 1 ≤ _; omega, ha2, fun _ => rfl, h10⟩
    show nd _ = s.nd
    rw [hN, show 0 * 10 + (c.toNat - 48) = 0 by omega, nd_zero]
    omega
  · rw [if_neg hz]
    have hN : nd (N * 10 + (c.toNat - 48)) = s.nd + 1 := by
      rw [show N * 10 + (c.toNat - 48) = 10 * N + (c.toNat - 48) by omega, nd_snoc ?_ (by omega), h5]
      by_cases h0 : N = 0
      · right
        subst h0
        rw [nd_zero] at h5
        omega
      · exact .inl h0
    by_cases hm : s.nm < 19
    · rw [if_pos hm]
      have e1 : s.nm = s.nd := by omega
      refine ⟨by show s.nd + 1 ≤ _; omega, by show s.nm + 1 = min (s.nd + 1) 19; omega, ?_, ?_, hN, by show _ ≤ s.dp; omega, by show s.dp ≤ _; omega, ha2, fun _ => rfl, fun h => ?_⟩
      · show s.m * 10 + (c.toNat - 48) < 10 ^ (s.nm + 1)
        rw [Nat.pow_succ]
        omega
      · intro _
        show s.m * 10 + (c.toNat - 48) ≠ 0
        by_cases h0 : s.nd = 0
        · have : c.toNat ≠ 48 := fun e => hz ⟨e, h0⟩
          omega
        · have := h4 h0
          omega
      · exact absurd h (by show s.nd + 1 ≠ 0; omega)
    · rw [if_neg hm]
      refine ⟨by show s.nd + 1 ≤ _; omega, by show s.nm = min (s.nd + 1) 19; omega, h3, fun _ => h4 (by omega), hN, by show _ ≤ s.dp; omega, by show s.dp ≤ _; omega, ha2, fun _ => rfl, fun h => ?_⟩
      exact absurd h (by show s.nd + 1 ≠ 0; omega)
theorem RIn.point {s : RFS} {N n a : Nat} {c : UInt8} (h : RIn s N n a) (hc : c.toNat = 46) (hd : s.dot = false) : RIn (rfS s c) (nS N c) n a := by
  obtain ⟨h1, h2, h3, h4, h5, h6, h7, h8, h9, h10⟩ := h
  have := h8 hd
  unfold rfS nS
  rw [if_pos hc, if_pos hc]
  exact ⟨h1, h2, h3, h4, h5, (by show _ ≤ (s.nd : Int); omega), (by show (s.nd : Int) ≤ _; omega), (fun e => Bool.noConfusion e), h9, h10⟩
theorem rfS_dot {s : RFS} {c : UInt8} (h : c.toNat ≠ 46) : (rfS s c).dot = s.dot := by
  unfold rfS
  rw [if_neg h]
  split
  · rfl
  · split <;> rfl
theorem rs_fin : ∀ (l : List UInt8) (s : RFS) (N n a n' a' : Nat), RIn s N n a → cntM l n (if s.dot = true then 1 else 0) a = some (n', 1, a') →
    RIn (rfL s l) (nL N l) n' a' ∧ (rfL s l).dot = true ∧ okR s.dot l = true
  | [], s, N, n, a, n', a', h, hc => by
    simp only [cntM, Option.some.injEq, Prod.mk.injEq] at hc
    obtain ⟨rfl, hc, rfl⟩ := hc
    have hd : s.dot = true := by
      cases hs : s.dot with
      | true => rfl
      | false => rw [hs] at hc; simp at hc
    exact ⟨h, hd, rfl⟩
  | c :: l, s, N, n, a, n', a', h, hc => by
    rw [cntM] at hc
    rw [rfL, nL, List.foldl_cons, List.foldl_cons, okR]
    by_cases hb : digitB c = true
    · rw [if_pos hb] at hc
      rw [if_pos hb]
      have hb' : 48 ≤ c.toNat ∧ c.toNat ≤ 57 := by simpa [digitB] using hb
      have ed := rfS_dot (s := s) (c := c) (by omega)
      have e : (if (if s.dot = true then 1 else 0) = 0 then a + 1 else a) = (if s.dot = true then a else a + 1) := by cases s.dot <;> rfl
      rw [e] at hc
      have := rs_fin l (rfS s c) (nS N c) (n + 1) _ n' a' (h.digit hb') (by rw [ed]; exact hc)
      rw [ed] at this
      exact this
    · rw [if_neg hb] at hc
      rw [if_neg hb]
      by_cases h46 : c.toNat = 46
      · rw [if_pos h46] at hc
        cases hd : s.dot with
        | true =>
          exfalso
          rw [hd] at hc
          have hm : ∀ (l : List UInt8) (d p a d' a' : Nat), 2 ≤ p → cntM l d p a ≠ some (d', 1, a') := by
            intro l
            induction l with
            | nil => intro d p a d' a' hp e; simp [cntM] at e; omega
            | cons b l ih =>
              intro d p a d' a' hp e
              rw [cntM] at e
              split at e
              · exact ih _ _ _ _ _ hp e
              · split at e
                · exact ih _ _ _ _ _ (by omega) e
                · cases e
          exact hm l _ _ _ _ _ (by simp) hc
        | false =>
          rw [hd] at hc
          have hd2 : (rfS s c).dot = true := by unfold rfS; rw [if_pos h46]
          have := rs_fin l (rfS s c) (nS N c) n a n' a' (h.point h46 hd) (by rw [hd2]; exact hc)
          rw [hd2] at this
          refine ⟨this.1, this.2.1, ?_⟩
          simp [h46, this.2.2]
      · rw [if_neg h46] at hc
        cases hc
/-- A real as spec.Number takes it. -/
theorem real_fin {t : List UInt8} (h : numM t = .real) : ∃ n a, a ≤ 14 ∧ n ≤ 60 ∧ n ≠ 0 ∧ RIn (rfL RFS.zero (unsign t)) (nL 0 (unsign t)) n a ∧ (rfL RFS.zero (unsign t)).dot = true ∧ okR false (unsign t) = true := by
  unfold numM at h
  split at h
  · cases h
  · rename_i d p a hc
    split at h
    · cases h
    · split at h
      · cases h
      · split at h
        · rename_i hp
          subst hp
          have := rs_fin (unsign t) RFS.zero 0 0 0 d a RIn.zero hc
          exact ⟨d, a, by omega, by omega, by omega, this⟩
        · split at h
          · split at h <;> cases h
          · cases h
end Go.Proofs.YtcpijmbdibgdmaaGreatDoor

namespace Go.Proofs.YtcpijmbdibgdmaaGreatDoor
open Go.RowKit
attribute [local go_sem] ba_get store_flt

/-- The runes that model.zzIsSpace takes. -/
def spR (r : Nat) : Bool := decide (r = 9 ∨ r = 10 ∨ r = 11 ∨ r = 12 ∨ r = 13 ∨ r = 32 ∨ r = 133 ∨ r = 160 ∨ r = 5760 ∨ r = 8232 ∨ r = 8233 ∨ r = 8239 ∨ r = 8287 ∨ r = 12288 ∨ (8192 ≤ r ∧ r ≤ 8202))
def wsR (r : Nat) : Bool := spR r || r == 0

set_option maxHeartbeats 4000000 in
theorem isSpace_any (r : Nat) (w : World) : Calls Tryz.prog 110 #[.int .i32 r] w fun e w' => e = .returned (.bool (spR r)) ∧ w = w' := by
  go_enter Tryz.func110, Tryz.ntmps110
  by_cases h : 8192 ≤ r
  all_goals go_wp2
  all_goals go_ret
  all_goals (refine ⟨ret_bool ?_, rfl⟩; simp only [beq_iff_eq, beq_eq_false_iff_ne, ne_eq] at *; rw [Bool.eq_iff_iff]; simp [spR]; omega)

set_option maxHeartbeats 1000000 in
theorem trimSp_any (r : Nat) (w : World) : Calls Tryz.prog 109 #[.int .i32 r] w fun e w' => e = .returned (.bool (wsR r)) ∧ w = w' := by
  go_enter Tryz.func109, Tryz.ntmps109
  cases h : spR r
  all_goals
    have H := Lib.hid h
    clear h
    go_wp2_with (first | (go_at_call 110; refine (isSpace_any r _).mono ?_; rintro e w' ⟨rfl, rfl⟩; simp only [H.out]))
  all_goals go_ret
  all_goals (refine ⟨ret_bool ?_, rfl⟩; have h := H.out; rw [Bool.eq_iff_iff]; simp [wsR, h]; try omega)

set_option maxHeartbeats 1000000 in
theorem forward_any (s : List UInt8) (k : Nat) (w : World) (hs : s.length ≤ 1048576) (hk : k ≤ 1048576) : Calls Tryz.prog 119 #[S s, .int .i64 k] w fun e w' => e = .returned (S (s.drop k)) ∧ w = w' := by
  go_enter Tryz.func119, Tryz.ntmps119
  by_cases hl : k < s.length
  · have tl : decide ((k : Int) < (s.length : Int)) = true := by rw [decide_eq_true_eq]; omega
    go_wp2_with fail
    go_ret
    exact ⟨ret_ext (by rw [List.take_of_length_le (by rw [List.length_drop]; omega)]), rfl⟩
  · have tl : decide ((k : Int) < (s.length : Int)) = false := by rw [decide_eq_false_iff_not]; omega
    go_wp2_with fail
    go_ret
    exact ⟨ret_S (List.drop_eq_nil_of_le (by omega)).symm, rfl⟩

def dlB (b : UInt8) : Bool := decide (b.toNat = 60 ∨ b.toNat = 62 ∨ b.toNat = 91 ∨ b.toNat = 93 ∨ b.toNat = 40 ∨ b.toNat = 41 ∨ b.toNat = 47)
def dlS : List UInt8 := [60, 62, 91, 93, 40, 41, 47]
theorem dlB_iff (b : UInt8) : dlB b = dlS.any (fun c => b == c) := by
  have H : ∀ b : Fin 256, dlB (UInt8.ofNat b.val) = dlS.any (fun c => UInt8.ofNat b.val == c) := by decide +kernel
  have := H ⟨b.toNat, b.toNat_lt⟩
  simpa using this
set_option maxHeartbeats 4000000 in
theorem delimiter_any (b : UInt8) (w : World) : Calls Tryz.prog 148 #[.int .u8 b.toNat] w fun e w' => e = .returned (.bool (dlB b)) ∧ w = w' := by
  go_enter Tryz.func148, Tryz.ntmps148
  go_wp2_with fail
  go_loopg [4] 7 (fun g s4 wr => ∃ j : Nat, s4 = .int .i64 j ∧ j + g = 7 ∧ wr = w ∧ (dlS.drop j).any (fun c => b == c) = dlB b)
  case atStart => exact ⟨0, rfl, rfl, rfl, (dlB_iff b).symm⟩
  case round =>
    obtain ⟨j, rfl, hj, rfl, hd⟩ := hrel
    by_cases hj7 : j < 7
    · have tj : decide ((j : Int) < 7) = true := by rw [decide_eq_true_eq]; omega
      have e : dlS.drop j = dlS[j]'hj7 :: dlS.drop (j + 1) := List.drop_eq_getElem_cons hj7
      rw [e, List.any_cons] at hd
      by_cases hb : b = dlS[j]'hj7
      · have tb : ((b.toNat : Int) == (((([60, 62, 91, 93, 40, 41, 47] : List UInt8)[j]'hj7).toNat : Nat) : Int)) = true := by rw [beq_iff_eq]; exact congrArg _ (congrArg _ hb)
        have Hb := Lib.hid hb
        clear hb
        go_wp2_with fail
        go_ret
        refine ⟨ret_bool ?_, rfl⟩
        rw [← hd]
        have hb := Hb.out
        simp [← hb]
      · have tb : ((b.toNat : Int) == (((([60, 62, 91, 93, 40, 41, 47] : List UInt8)[j]'hj7).toNat : Nat) : Int)) = false := by rw [beq_eq_false_iff_ne]; intro h; exact hb (UInt8.toNat_inj.1 (Int.ofNat.inj h))
        go_wp2_with fail
        go_roundg (6 - j)
        case measure => omega
        case rel => exact ⟨j + 1, by go_num, by omega, rfl, by rw [← hd]; simp [hb]⟩
    · have tj : decide ((j : Int) < 7) = false := by rw [decide_eq_false_iff_not]; omega
      go_wp2_with fail
      go_ret
      rw [List.drop_eq_nil_of_le (by simp [dlS]; omega)] at hd
      exact ⟨ret_bool (by rw [← hd]; rfl), rfl⟩

set_option maxHeartbeats 1000000 in
theorem noBuf_any (p : Nat) (s : List UInt8) (w : World) (h : Blk w p 9 #[S s]) : Calls Tryz.prog 79 #[.pointer (some ⟨p, 0, none⟩)] w fun e w' => e = .returned (.bool (s.length == 0)) ∧ w = w' := by
  have c0 : w.cell? ⟨p, 0, none⟩ = some (S s) := h.cell 0
  go_enter Tryz.func79, Tryz.ntmps79
  go_wp2_with fail
  go_ret
  refine ⟨ret_bool ?_, rfl⟩
  rw [Bool.eq_iff_iff]
  simp
end Go.Proofs.YtcpijmbdibgdmaaGreatDoor
