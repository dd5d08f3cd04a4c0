/-
  Decimal digits, and numbers that are shifted in binary: plain law.
  Decimals that are scaled by powers of two: plain law.
  The words that all texts of this seat share: blocks known whole, 'only one block has changed', character classes.
  The character classes of package spec: each returns what its name says; the world stays as it is.
-/
import Derived.Test.YtcpijmbdibgdmaaGreatDoorProg
import Derived.WalkKit
import Derived.WalkSpells
import Derived.WalkLawsBesides
import Derived.Outline
import Derived.Lib.Hide
import Derived.Deep.QuietTactic
import Derived.BigQuiet
import Derived.StillTailTactics
import Derived.Deep.Draws
import Derived.Deep.OwnRows
set_option linter.all false
namespace Go.Proofs.YtcpijmbdibgdmaaGreatDoor

/-- The decimal digits of a number, none for nought. -/
def dg (n : Nat) : List UInt8 := if h : n = 0 then [] else dg (n / 10) ++ [UInt8.ofNat (48 + n % 10)]
termination_by n
decreasing_by omega
def nd (n : Nat) : Nat := (dg n).length
theorem dg_zero : dg 0 = [] := by rw [dg, dif_pos rfl]
theorem dg_pos {n : Nat} (h : n ≠ 0) : dg n = dg (n / 10) ++ [UInt8.ofNat (48 + n % 10)] := by rw [dg, dif_neg h]
theorem nd_zero : nd 0 = 0 := by rw [nd, dg_zero]; rfl
theorem nd_pos {n : Nat} (h : n ≠ 0) : nd n = nd (n / 10) + 1 := by rw [nd, dg_pos h, List.length_append]; rfl
theorem nd_lt (n : Nat) : n < 10 ^ nd n := by
  induction n using Nat.strongRecOn with
  | ind n ih =>
    by_cases h : n = 0
    · subst h; rw [nd_zero]; decide
    · rw [nd_pos h, Nat.pow_succ]
      have := ih (n / 10) (by omega)
      omega
theorem nd_ge (n : Nat) (h : n ≠ 0) : 10 ^ nd n ≤ 10 * n := by
  induction n using Nat.strongRecOn with
  | ind n ih =>
    rw [nd_pos h, Nat.pow_succ]
    by_cases h1 : n / 10 = 0
    · rw [h1, nd_zero]; omega
    · have := ih (n / 10) (by omega) h1
      omega
theorem pow10_lt {a b : Nat} (h : 10 ^ a < 10 ^ b) : a < b := by
  rcases Nat.lt_or_ge a b with h1 | h1
  · exact h1
  · have := Nat.pow_le_pow_right (n := 10) (by decide) h1
    omega
theorem nd_eq {n k : Nat} (h0 : n ≠ 0) (h1 : n < 10 ^ k) (h2 : 10 ^ k ≤ 10 * n) : nd n = k := by
  have a := nd_lt n
  have b := nd_ge n h0
  have c : 10 ^ nd n < 10 ^ (k + 1) := by rw [Nat.pow_succ]; omega
  have d : 10 ^ k < 10 ^ (nd n + 1) := by rw [Nat.pow_succ]; omega
  have := pow10_lt c
  have := pow10_lt d
  omega
theorem nd_le {n k : Nat} (h1 : n < 10 ^ k) : nd n ≤ k := by
  by_cases h : n = 0
  · subst h; rw [nd_zero]; omega
  · have b := nd_ge n h
    have c : 10 ^ nd n < 10 ^ (k + 1) := by rw [Nat.pow_succ]; omega
    have := pow10_lt c
    omega
theorem nd_one {n : Nat} (h : n ≠ 0) : 1 ≤ nd n := by rw [nd_pos h]; omega
theorem nd_none {n : Nat} (h : nd n = 0) : n = 0 := by
  have := nd_lt n
  rw [h] at this
  omega
theorem dg_snoc {m c : Nat} (h : m ≠ 0 ∨ c ≠ 0) (hc : c ≤ 9) : dg (10 * m + c) = dg m ++ [UInt8.ofNat (48 + c)] := by
  rw [dg_pos (by omega), show (10 * m + c) / 10 = m by omega, show (10 * m + c) % 10 = c by omega]
theorem nd_snoc {m c : Nat} (h : m ≠ 0 ∨ c ≠ 0) (hc : c ≤ 9) : nd (10 * m + c) = nd m + 1 := by
  rw [nd, dg_snoc h hc, List.length_append]; rfl
theorem nd_pow {m : Nat} (h : m ≠ 0) : ∀ j, nd (m * 10 ^ j) = nd m + j
  | 0 => by rw [Nat.pow_zero, Nat.mul_one]; rfl
  | j + 1 => by
    have hp : 0 < m * 10 ^ j := Nat.mul_pos (by omega) (Nat.pow_pos (by decide))
    have e : m * 10 ^ (j + 1) = 10 * (m * 10 ^ j) + 0 := by rw [Nat.pow_succ, ← Nat.mul_assoc]; omega
    rw [e, nd_snoc (.inl (by omega)) (by omega), nd_pow h j]
    omega
theorem dg_take : ∀ (j n : Nat), j ≤ nd n → (dg n).take (nd n - j) = dg (n / 10 ^ j)
  | 0, n, _ => by rw [Nat.pow_zero, Nat.div_one, Nat.sub_zero]; exact List.take_length
  | j + 1, n, h => by
    have h0 : n ≠ 0 := by intro e; subst e; rw [nd_zero] at h; omega
    have e1 : n / 10 ^ (j + 1) = n / 10 / 10 ^ j := by rw [Nat.div_div_eq_div_mul, Nat.pow_succ, Nat.mul_comm]
    have hn := nd_pos h0
    rw [e1, ← dg_take j (n / 10) (by omega), hn, dg_pos h0, show nd (n / 10) + 1 - (j + 1) = nd (n / 10) - j by omega]
    rw [List.take_append_of_le_length (by show _ ≤ nd (n / 10); omega)]
theorem dg_get : ∀ (j n : Nat), j < nd n → (dg n)[nd n - 1 - j]? = some (UInt8.ofNat (48 + n / 10 ^ j % 10))
  | 0, n, h => by
    have h0 : n ≠ 0 := by intro e; subst e; rw [nd_zero] at h; omega
    have hn := nd_pos h0
    rw [dg_pos h0, hn, Nat.pow_zero, Nat.div_one, List.getElem?_append_right (by show nd (n / 10) ≤ _; omega)]
    rw [show nd (n / 10) + 1 - 1 - 0 - (dg (n / 10)).length = 0 by show _ - nd (n / 10) = 0; omega]
    rfl
  | j + 1, n, h => by
    have h0 : n ≠ 0 := by intro e; subst e; rw [nd_zero] at h; omega
    have e1 : n / 10 ^ (j + 1) = n / 10 / 10 ^ j := by rw [Nat.div_div_eq_div_mul, Nat.pow_succ, Nat.mul_comm]
    have hn := nd_pos h0
    rw [e1, ← dg_get j (n / 10) (by omega), dg_pos h0, hn, List.getElem?_append_left (by show _ < nd (n / 10); omega)]
    congr 1
    omega
theorem dg_digits (n : Nat) : ∀ b ∈ dg n, 48 ≤ b.toNat ∧ b.toNat ≤ 57 := by
  induction n using Nat.strongRecOn with
  | ind n ih =>
    by_cases h : n = 0
    · subst h; rw [dg_zero]; intro b hb; cases hb
    · rw [dg_pos h]
      intro b hb
      rcases List.mem_append.1 hb with hb | hb
      · exact ih (n / 10) (by omega) b hb
      · have e := List.mem_singleton.1 hb
        rw [e, UInt8.toNat_ofNat']
        omega

/-- The number of the first r digits, with noughts behind the last. -/
def pre (n r : Nat) : Nat := if r ≤ nd n then n / 10 ^ (nd n - r) else n * 10 ^ (r - nd n)
theorem pre_zero (n : Nat) : pre n 0 = 0 := by
  rw [pre, if_pos (Nat.zero_le _), Nat.sub_zero]
  exact Nat.div_eq_of_lt (nd_lt n)
theorem pre_all (n : Nat) : pre n (nd n) = n := by
  rw [pre, if_pos (Nat.le_refl _), Nat.sub_self, Nat.pow_zero, Nat.div_one]
theorem pre_ge {n r : Nat} (h : nd n ≤ r) : pre n r = n * 10 ^ (r - nd n) := by
  unfold pre
  split
  · have : r = nd n := by omega
    subst this
    rw [Nat.sub_self, Nat.pow_zero, Nat.div_one, Nat.mul_one]
  · rfl
theorem pre_more {n r : Nat} (h : nd n ≤ r) : pre n (r + 1) = pre n r * 10 := by
  rw [pre_ge h, pre_ge (by omega), show r + 1 - nd n = (r - nd n) + 1 by omega, Nat.pow_succ, Nat.mul_assoc]
theorem pre_next {n r : Nat} (h : r < nd n) : ∃ d, d ≤ 9 ∧ pre n (r + 1) = pre n r * 10 + d ∧ (dg n)[r]? = some (UInt8.ofNat (48 + d)) := by
  refine ⟨n / 10 ^ (nd n - 1 - r) % 10, by omega, ?_, ?_⟩
  · rw [pre, pre, if_pos (by omega), if_pos (by omega)]
    have e : n / 10 ^ (nd n - r) = n / 10 ^ (nd n - 1 - r) / 10 := by
      rw [Nat.div_div_eq_div_mul, ← Nat.pow_succ]
      congr 2
      omega
    rw [e, show nd n - (r + 1) = nd n - 1 - r by omega]
    omega
  · have := dg_get (nd n - 1 - r) n (by omega)
    rw [show nd n - 1 - (nd n - 1 - r) = r by omega] at this
    exact this
theorem pre_pos {n r : Nat} (h0 : n ≠ 0) (h : 0 < r) : pre n r ≠ 0 := by
  unfold pre
  split
  · have h1 := nd_ge n h0
    have h2 : 10 ^ (nd n - r) ≤ n := by
      have e : 10 ^ (nd n - r + 1) ≤ 10 ^ nd n := Nat.pow_le_pow_right (by decide) (by omega)
      rw [Nat.pow_succ] at e
      omega
    have := Nat.div_pos h2 (Nat.pow_pos (by decide))
    omega
  · have := Nat.mul_pos (Nat.pos_of_ne_zero h0) (Nat.pow_pos (n := r - nd n) (show 0 < 10 by decide))
    omega

/-- A number without the noughts at its end. -/
def strip (n : Nat) : Nat := if h : n ≠ 0 ∧ n % 10 = 0 then strip (n / 10) else n
termination_by n
decreasing_by omega
theorem strip_mul10 {m : Nat} (h : m ≠ 0) : strip (m * 10) = strip m := by
  rw [strip, dif_pos (by omega), show m * 10 / 10 = m by omega]
theorem strip_pow {m : Nat} (h : m ≠ 0) : ∀ j, strip (m * 10 ^ j) = strip m
  | 0 => by rw [Nat.pow_zero, Nat.mul_one]
  | j + 1 => by
    have hp : 0 < m * 10 ^ j := Nat.mul_pos (by omega) (Nat.pow_pos (by decide))
    rw [Nat.pow_succ, ← Nat.mul_assoc, strip_mul10 (by omega), strip_pow h j]
theorem strip_spec (n : Nat) (h : n ≠ 0) : ∃ z, n = strip n * 10 ^ z ∧ strip n ≠ 0 ∧ strip n % 10 ≠ 0 := by
  induction n using Nat.strongRecOn with
  | ind n ih =>
    rw [strip]
    split
    · rename_i h1
      obtain ⟨z, hz, h2, h3⟩ := ih (n / 10) (by omega) (by omega)
      refine ⟨z + 1, ?_, h2, h3⟩
      rw [Nat.pow_succ, ← Nat.mul_assoc, ← hz]
      omega
    · exact ⟨0, by rw [Nat.pow_zero, Nat.mul_one], h, by omega⟩
theorem strip_ne {n : Nat} (h : n ≠ 0) : strip n ≠ 0 := by
  obtain ⟨_, _, h, _⟩ := strip_spec n h
  exact h
theorem strip_nd {n : Nat} (h : n ≠ 0) : ∃ z, n = strip n * 10 ^ z ∧ nd n = nd (strip n) + z := by
  obtain ⟨z, h1, h2, _⟩ := strip_spec n h
  refine ⟨z, h1, ?_⟩
  have := nd_pow h2 z
  rw [← h1] at this
  exact this
theorem strip_nd_le {n : Nat} (h : n ≠ 0) : nd (strip n) ≤ nd n := by
  obtain ⟨z, _, h⟩ := strip_nd h
  omega

theorem two_five (k : Nat) : 2 ^ k * 5 ^ k = 10 ^ k := by rw [← Nat.mul_pow]
theorem five_pos (k : Nat) : 0 < 5 ^ k := Nat.pow_pos (by decide)
theorem two_pos (k : Nat) : 0 < 2 ^ k := Nat.pow_pos (by decide)
theorem ten_pos (k : Nat) : 0 < 10 ^ k := Nat.pow_pos (by decide)

/-! ### to the right -/
theorem nd_right {N k r : Nat} (h0 : N ≠ 0) (h1 : 2 ^ k ≤ pre N r) (h2 : pre N r < 10 * 2 ^ k) : nd (N * 5 ^ k) + r = k + 1 + nd N := by
  have h5 := five_pos k
  have hN : N * 5 ^ k ≠ 0 := by have := Nat.mul_pos (Nat.pos_of_ne_zero h0) h5; omega
  have e10 : 2 ^ k * 5 ^ k = 10 ^ k := two_five k
  by_cases hr : r ≤ nd N
  · rw [pre, if_pos hr] at h1 h2
    have ht := ten_pos (nd N - r)
    have a1 := (Nat.le_div_iff_mul_le ht).1 h1
    have a2 := (Nat.div_lt_iff_lt_mul ht).1 h2
    have b1 := Nat.mul_le_mul_right (5 ^ k) a1
    have b2 := Nat.mul_lt_mul_of_pos_right a2 h5
    have e1 : 2 ^ k * 10 ^ (nd N - r) * 5 ^ k = 10 ^ (k + (nd N - r)) := by rw [Nat.mul_right_comm, e10, Nat.pow_add]
    have e2 : 10 * 2 ^ k * 10 ^ (nd N - r) * 5 ^ k = 10 * 10 ^ (k + (nd N - r)) := by rw [Nat.mul_assoc 10, Nat.mul_assoc 10, e1]
    rw [e1] at b1
    rw [e2] at b2
    have := nd_eq (k := k + (nd N - r) + 1) hN (by rw [Nat.pow_succ]; omega) (by rw [Nat.pow_succ]; omega)
    omega
  · rw [pre, if_neg hr] at h1 h2
    have b1 := Nat.mul_le_mul_right (5 ^ k) h1
    have b2 := Nat.mul_lt_mul_of_pos_right h2 h5
    rw [e10, Nat.mul_right_comm] at b1
    rw [Nat.mul_right_comm, Nat.mul_assoc 10, e10] at b2
    have h3 := nd_eq (n := N * 5 ^ k * 10 ^ (r - nd N)) (k := k + 1) (by have := Nat.mul_pos (Nat.pos_of_ne_zero hN) (ten_pos (r - nd N)); omega) (by rw [Nat.pow_succ]; omega) (by rw [Nat.pow_succ]; omega)
    rw [nd_pow hN] at h3
    omega
theorem right_more {N k O n J : Nat} (h : N * 10 ^ J = O * (10 * 2 ^ k) + n) (hn : n < 10 * 2 ^ k) (h0 : n ≠ 0) : J ≤ k := by
  rcases Nat.lt_or_ge k J with hk | hk
  · exfalso
    have e : N * 10 ^ J = N * 10 ^ (J - k - 1) * 5 ^ k * (10 * 2 ^ k) := by
      rw [show J = (J - k - 1) + (k + 1) by omega, Nat.pow_add, Nat.pow_succ 10 k, ← two_five k]
      rw [show J - k - 1 + (k + 1) - k - 1 = J - k - 1 by omega]
      ac_rfl
    rw [e] at h
    have hd : n % (10 * 2 ^ k) = 0 := by
      have := congrArg (· % (10 * 2 ^ k)) h
      simp only [Nat.mul_mod_left, Nat.mul_add_mod_self_right] at this
      exact this.symm
    rw [Nat.mod_eq_of_lt hn] at hd
    exact h0 hd
  · exact hk
theorem right_end {N k O J : Nat} (h : N * 10 ^ J = O * (10 * 2 ^ k)) (h0 : N ≠ 0) : O ≠ 0 ∧ strip O = strip (N * 5 ^ k) := by
  have hN : N * 5 ^ k ≠ 0 := by have := Nat.mul_pos (Nat.pos_of_ne_zero h0) (five_pos k); omega
  have hO : O ≠ 0 := by
    intro e
    subst e
    have := Nat.mul_pos (Nat.pos_of_ne_zero h0) (ten_pos J)
    omega
  refine ⟨hO, ?_⟩
  have e : O * 10 ^ (k + 1) = N * 5 ^ k * 10 ^ J := by
    rw [Nat.mul_right_comm, h, Nat.pow_succ, ← two_five k]
    ac_rfl
  rw [← strip_pow hO (k + 1), e, strip_pow hN]
/-- One digit put down. -/
theorem right_step {k O n c P : Nat} (h : P = O * (10 * 2 ^ k) + n) : P * 10 + c = (10 * O + n / 2 ^ k) * (10 * 2 ^ k) + (n % 2 ^ k * 10 + c) := by
  have := Nat.div_add_mod n (2 ^ k)
  have e1 : (10 * O + n / 2 ^ k) * (10 * 2 ^ k) = O * (10 * 2 ^ k) * 10 + (2 ^ k * (n / 2 ^ k)) * 10 := by
    rw [Nat.add_mul]
    congr 1
    · ac_rfl
    · ac_rfl
  rw [e1, h]
  omega
theorem right_dig {k O n : Nat} (h : O ≠ 0 ∨ 2 ^ k ≤ n) (hn : n < 10 * 2 ^ k) : n / 2 ^ k ≤ 9 ∧ (O ≠ 0 ∨ n / 2 ^ k ≠ 0) := by
  have h2 := two_pos k
  constructor
  · have := (Nat.div_lt_iff_lt_mul h2).2 hn
    omega
  · rcases h with h | h
    · exact .inl h
    · have := Nat.div_pos h h2
      exact .inr (by omega)

/-! ### to the left -/
theorem nd_left_less {N k q : Nat} (h0 : N ≠ 0) (hq : q = nd (5 ^ k)) (hqk : q ≤ k) (h : N * 10 ^ q < 5 ^ k * 10 ^ nd N) : nd (N * 2 ^ k) = nd N + (k - q) := by
  have h2 := two_pos k
  have hN : N * 2 ^ k ≠ 0 := by have := Nat.mul_pos (Nat.pos_of_ne_zero h0) h2; omega
  have a := Nat.mul_lt_mul_of_pos_right h h2
  have b := Nat.mul_le_mul_right (2 ^ k) (nd_ge N h0)
  have c := nd_lt (5 ^ k)
  rw [← hq] at c
  have e1 : N * 10 ^ q * 2 ^ k = N * 2 ^ k * 10 ^ q := Nat.mul_right_comm _ _ _
  have e2 : 5 ^ k * 10 ^ nd N * 2 ^ k = 10 ^ (nd N + (k - q)) * 10 ^ q := by
    rw [Nat.mul_right_comm, Nat.mul_comm (5 ^ k), two_five, ← Nat.pow_add, ← Nat.pow_add]
    congr 1
    omega
  rw [e1, e2] at a
  refine nd_eq hN (Nat.lt_of_mul_lt_mul_right a) ?_
  -- 10^(nd N) * 2^k ≤ 10 * (N * 2^k), and 10^(k-q) ≤ 2^k
  have d : 10 ^ (k - q) ≤ 2 ^ k := by
    have e3 : 10 ^ (k - q) * 10 ^ q = 2 ^ k * 5 ^ k := by rw [two_five, ← Nat.pow_add]; congr 1; omega
    have e4 : 2 ^ k * 5 ^ k ≤ 2 ^ k * 10 ^ q := Nat.mul_le_mul_left _ (Nat.le_of_lt c)
    rw [← e3] at e4
    exact Nat.le_of_mul_le_mul_right e4 (ten_pos q)
  have f := Nat.mul_le_mul_left (10 ^ nd N) d
  rw [← Nat.pow_add] at f
  have g : 10 * N * 2 ^ k = 10 * (N * 2 ^ k) := Nat.mul_assoc _ _ _
  omega
theorem nd_left_more {N k q : Nat} (h0 : N ≠ 0) (hq : q = nd (5 ^ k)) (hqk : q ≤ k) (h : ¬ N * 10 ^ q < 5 ^ k * 10 ^ nd N) : nd (N * 2 ^ k) = nd N + (k - q) + 1 := by
  have h2 := two_pos k
  have hN : N * 2 ^ k ≠ 0 := by have := Nat.mul_pos (Nat.pos_of_ne_zero h0) h2; omega
  have a := Nat.mul_le_mul_right (2 ^ k) (Nat.le_of_not_lt h)
  have b := Nat.mul_lt_mul_of_pos_right (nd_lt N) h2
  have c := nd_ge (5 ^ k) (by have := five_pos k; omega)
  rw [← hq] at c
  have e1 : N * 10 ^ q * 2 ^ k = N * 2 ^ k * 10 ^ q := Nat.mul_right_comm _ _ _
  have e2 : 5 ^ k * 10 ^ nd N * 2 ^ k = 10 ^ (nd N + (k - q)) * 10 ^ q := by
    rw [Nat.mul_right_comm, Nat.mul_comm (5 ^ k), two_five, ← Nat.pow_add, ← Nat.pow_add]
    congr 1
    omega
  rw [e1, e2] at a
  have a := Nat.le_of_mul_le_mul_right a (ten_pos q)
  have d : 2 ^ k ≤ 10 ^ (k - q) * 10 := by
    have e3 : 10 ^ (k - q) * 10 * 10 ^ q = 2 ^ k * 5 ^ k * 10 := by rw [two_five, Nat.mul_right_comm, ← Nat.pow_add, show k - q + q = k by omega]
    have e4 : 2 ^ k * 10 ^ q ≤ 2 ^ k * (10 * 5 ^ k) := Nat.mul_le_mul_left _ c
    have e5 : 2 ^ k * (10 * 5 ^ k) = 2 ^ k * 5 ^ k * 10 := by ac_rfl
    rw [e5, ← e3] at e4
    exact Nat.le_of_mul_le_mul_right e4 (ten_pos q)
  have f := Nat.mul_le_mul_left (10 ^ nd N) d
  rw [← Nat.mul_assoc, ← Nat.pow_add] at f
  refine nd_eq hN ?_ ?_
  · rw [Nat.pow_succ]; omega
  · rw [Nat.pow_succ]; omega
/-- One digit of the product. -/
theorem left_step (N k m : Nat) : (N * 2 ^ k / 10 ^ m) % 10 = (N % 10 ^ m * 2 ^ k / 10 ^ m + N / 10 ^ m % 10 * 2 ^ k) % 10 ∧ (N % 10 ^ m * 2 ^ k / 10 ^ m + N / 10 ^ m % 10 * 2 ^ k) / 10 = N % 10 ^ (m + 1) * 2 ^ k / 10 ^ (m + 1) := by
  have ht := ten_pos m
  have e0 : N % 10 ^ m * 2 ^ k / 10 ^ m + N / 10 ^ m % 10 * 2 ^ k = N % 10 ^ (m + 1) * 2 ^ k / 10 ^ m := by
    have e1 : N % 10 ^ (m + 1) = N % 10 ^ m + 10 ^ m * (N / 10 ^ m % 10) := by
      rw [Nat.pow_succ]
      exact Nat.mod_mul
    rw [e1, Nat.add_mul, show 10 ^ m * (N / 10 ^ m % 10) * 2 ^ k = 10 ^ m * (N / 10 ^ m % 10 * 2 ^ k) by rw [Nat.mul_assoc], Nat.add_mul_div_left _ _ ht]
  rw [e0]
  constructor
  · have e2 : N * 2 ^ k = N % 10 ^ (m + 1) * 2 ^ k + 10 ^ m * (10 * (N / 10 ^ (m + 1) * 2 ^ k)) := by
      have := Nat.div_add_mod N (10 ^ (m + 1))
      have e3 : 10 ^ m * (10 * (N / 10 ^ (m + 1) * 2 ^ k)) = 10 ^ (m + 1) * (N / 10 ^ (m + 1)) * 2 ^ k := by
        rw [Nat.pow_succ]
        ac_rfl
      rw [e3, ← Nat.add_mul, Nat.add_comm, this]
    rw [e2, Nat.add_mul_div_left _ _ ht, Nat.add_mul_mod_self_left]
  · rw [Nat.div_div_eq_div_mul, ← Nat.pow_succ]
theorem left_carry (N k m : Nat) : N % 10 ^ m * 2 ^ k / 10 ^ m ≤ 2 ^ k := by
  have ht := ten_pos m
  have h := Nat.mod_lt N ht
  refine Nat.le_of_lt_succ ((Nat.div_lt_iff_lt_mul ht).2 ?_)
  have := Nat.mul_le_mul_right (2 ^ k) (Nat.le_of_lt h)
  have e : (2 ^ k + 1) * 10 ^ m = 10 ^ m * 2 ^ k + 10 ^ m := by rw [Nat.add_mul, Nat.one_mul, Nat.mul_comm]
  rw [Nat.succ_eq_add_one, e]
  omega
/-- The first of two lists of digits stands ahead of the second. -/
def lessB : List UInt8 → List UInt8 → Bool
  | _, [] => false
  | [], _ :: _ => true
  | b :: bs, c :: cs => if b = c then lessB bs cs else decide (b.toNat < c.toNat)
/-- The number of some digits. -/
def unD (acc : Nat) (l : List UInt8) : Nat := l.foldl (fun a b => a * 10 + (b.toNat - 48)) acc
theorem unD_nil (a : Nat) : unD a [] = a := rfl
theorem unD_cons (a : Nat) (b : UInt8) (l : List UInt8) : unD a (b :: l) = unD (a * 10 + (b.toNat - 48)) l := by unfold unD; rw [List.foldl_cons]
theorem unD_acc : ∀ (l : List UInt8) (a : Nat), unD a l = a * 10 ^ l.length + unD 0 l
  | [], a => by simp [unD_nil]
  | b :: l, a => by
    rw [unD_cons, unD_cons, unD_acc l, unD_acc l (0 * 10 + _), List.length_cons, Nat.pow_succ, Nat.zero_mul, Nat.zero_add, Nat.add_mul, Nat.add_assoc]
    congr 1
    ac_rfl
theorem unD_lt : ∀ (l : List UInt8), (∀ b ∈ l, 48 ≤ b.toNat ∧ b.toNat ≤ 57) → unD 0 l < 10 ^ l.length
  | [], _ => by simp [unD_nil]
  | b :: l, h => by
    rw [unD_cons, unD_acc, List.length_cons, Nat.pow_succ]
    have h1 := unD_lt l (fun b hb => h b (by simp [hb]))
    have h2 := h b (by simp)
    have h3 : (0 * 10 + (b.toNat - 48)) * 10 ^ l.length ≤ 9 * 10 ^ l.length := Nat.mul_le_mul_right _ (by omega)
    omega
theorem unD_append (l : List UInt8) (b : UInt8) : ∀ a, unD a (l ++ [b]) = unD a l * 10 + (b.toNat - 48) := by
  induction l with
  | nil => intro a; rfl
  | cons c l ih => intro a; rw [List.cons_append, unD_cons, unD_cons, ih]
theorem unD_dg (n : Nat) : unD 0 (dg n) = n := by
  induction n using Nat.strongRecOn with
  | ind n ih =>
    by_cases h : n = 0
    · subst h; rw [dg_zero]; rfl
    · rw [dg_pos h, unD_append, ih (n / 10) (by omega), UInt8.toNat_ofNat']
      omega
theorem less_iff : ∀ (b s : List UInt8), (∀ x ∈ b, 48 ≤ x.toNat ∧ x.toNat ≤ 57) → (∀ x ∈ s, 48 ≤ x.toNat ∧ x.toNat ≤ 57) → (s ≠ [] → s.getLast? ≠ some 48) →
    (lessB b s = true ↔ unD 0 b * 10 ^ s.length < unD 0 s * 10 ^ b.length)
  | b, [], _, _, _ => by
    cases b with
    | nil => simp [lessB, unD_nil]
    | cons b l => simp [lessB, unD_nil]
  | [], c :: s, _, hs, hl => by
    simp only [lessB, List.length_nil, Nat.pow_zero, Nat.mul_one, unD_nil, Nat.zero_mul, true_iff]
    have : ∀ (s : List UInt8), (∀ x ∈ s, 48 ≤ x.toNat ∧ x.toNat ≤ 57) → s ≠ [] → s.getLast? ≠ some 48 → 0 < unD 0 s := by
      intro s hs hn hl
      obtain ⟨t, x, rfl⟩ : ∃ t x, s = t ++ [x] := ⟨s.dropLast, s.getLast hn, (List.dropLast_concat_getLast hn).symm⟩
      rw [unD_append]
      have h1 := hs x (by simp)
      have h2 : x ≠ 48 := by intro e; subst e; simp at hl
      have h3 : x.toNat ≠ 48 := by intro e; exact h2 (UInt8.toNat_inj.1 (by rw [e]; rfl))
      omega
    exact this (c :: s) hs (by simp) (hl (by simp))
  | b :: bs, c :: cs, hb, hs, hl => by
    have hb1 := hb b (by simp)
    have hc1 := hs c (by simp)
    have hb2 : ∀ x ∈ bs, 48 ≤ x.toNat ∧ x.toNat ≤ 57 := fun x hx => hb x (by simp [hx])
    have hc2 : ∀ x ∈ cs, 48 ≤ x.toNat ∧ x.toNat ≤ 57 := fun x hx => hs x (by simp [hx])
    have hl2 : cs ≠ [] → cs.getLast? ≠ some 48 := by
      intro hn
      have := hl (by simp)
      cases cs with
      | nil => exact absurd rfl hn
      | cons d ds => simpa using this
    have u1 := unD_lt bs hb2
    have u2 := unD_lt cs hc2
    have p1 := ten_pos bs.length
    have p2 := ten_pos cs.length
    rw [lessB, unD_cons, unD_cons, unD_acc bs, unD_acc cs, List.length_cons, List.length_cons, Nat.pow_succ, Nat.pow_succ, Nat.zero_mul, Nat.zero_add, Nat.zero_add]
    have eL : ((b.toNat - 48) * 10 ^ bs.length + unD 0 bs) * (10 ^ cs.length * 10) = (b.toNat - 48) * (10 ^ bs.length * 10 ^ cs.length) * 10 + unD 0 bs * 10 ^ cs.length * 10 := by
      rw [Nat.add_mul]
      congr 1
      · ac_rfl
      · ac_rfl
    have eR : ((c.toNat - 48) * 10 ^ cs.length + unD 0 cs) * (10 ^ bs.length * 10) = (c.toNat - 48) * (10 ^ bs.length * 10 ^ cs.length) * 10 + unD 0 cs * 10 ^ bs.length * 10 := by
      rw [Nat.add_mul]
      congr 1
      · ac_rfl
      · ac_rfl
    rw [eL, eR]
    have v1 : unD 0 bs * 10 ^ cs.length < 10 ^ bs.length * 10 ^ cs.length := Nat.mul_lt_mul_of_pos_right u1 p2
    have v2 : unD 0 cs * 10 ^ bs.length < 10 ^ bs.length * 10 ^ cs.length := by rw [Nat.mul_comm (10 ^ bs.length)]; exact Nat.mul_lt_mul_of_pos_right u2 p1
    split
    · rename_i e
      subst e
      rw [less_iff bs cs hb2 hc2 hl2]
      omega
    · rename_i e
      have ne : b.toNat ≠ c.toNat := fun h => e (UInt8.toNat_inj.1 h)
      rw [decide_eq_true_iff]
      generalize 10 ^ bs.length * 10 ^ cs.length = P at *
      constructor
      · intro h
        have : (b.toNat - 48 + 1) * P ≤ (c.toNat - 48) * P := Nat.mul_le_mul_right _ (by omega)
        rw [Nat.add_mul] at this
        omega
      · intro h
        rcases Nat.lt_or_ge b.toNat c.toNat with h1 | h1
        · exact h1
        · exfalso
          have : (c.toNat - 48 + 1) * P ≤ (b.toNat - 48) * P := Nat.mul_le_mul_right _ (by omega)
          rw [Nat.add_mul] at this
          omega
end Go.Proofs.YtcpijmbdibgdmaaGreatDoor

namespace Go.Proofs.YtcpijmbdibgdmaaGreatDoor

def shR (N k : Nat) : Nat := strip (N * 5 ^ k)
def dpR (N : Nat) (dp : Int) (k : Nat) : Int := dp + nd (N * 5 ^ k) - nd N - k
def shL (N k : Nat) : Nat := strip (N * 2 ^ k)
def dpL (N : Nat) (dp : Int) (k : Nat) : Int := dp + nd (N * 2 ^ k) - nd N
theorem mul5_ne {N : Nat} (h : N ≠ 0) (k : Nat) : N * 5 ^ k ≠ 0 := by have := Nat.mul_pos (Nat.pos_of_ne_zero h) (five_pos k); omega
theorem mul2_ne {N : Nat} (h : N ≠ 0) (k : Nat) : N * 2 ^ k ≠ 0 := by have := Nat.mul_pos (Nat.pos_of_ne_zero h) (two_pos k); omega
theorem shR_ne {N : Nat} (h : N ≠ 0) (k : Nat) : shR N k ≠ 0 := strip_ne (mul5_ne h k)
theorem shL_ne {N : Nat} (h : N ≠ 0) (k : Nat) : shL N k ≠ 0 := strip_ne (mul2_ne h k)
theorem nd_mul_le {N k c : Nat} (hc : c ≤ 10) : nd (N * c ^ k) ≤ nd N + k := by
  refine nd_le ?_
  have h1 := nd_lt N
  have h2 : c ^ k ≤ 10 ^ k := Nat.pow_le_pow_left hc k
  rw [Nat.pow_add]
  exact Nat.lt_of_le_of_lt (Nat.mul_le_mul_left _ h2) (Nat.mul_lt_mul_of_pos_right h1 (ten_pos k))
theorem nd_mono {a b : Nat} (h : a ≤ b) : nd a ≤ nd b := nd_le (Nat.lt_of_le_of_lt h (nd_lt b))
theorem nd_mul_ge {N k c : Nat} (hc : 0 < c) : nd N ≤ nd (N * c ^ k) := nd_mono (Nat.le_mul_of_pos_right _ (Nat.pow_pos hc))
theorem shR_nd {N : Nat} (h : N ≠ 0) (k : Nat) : nd (shR N k) ≤ nd N + k := Nat.le_trans (strip_nd_le (mul5_ne h k)) (nd_mul_le (by decide))
theorem shL_nd {N : Nat} (h : N ≠ 0) (k : Nat) : nd (shL N k) ≤ nd N + k := Nat.le_trans (strip_nd_le (mul2_ne h k)) (nd_mul_le (by decide))
theorem dpR_ge (N : Nat) (dp : Int) (k : Nat) : dp - k ≤ dpR N dp k := by
  unfold dpR
  have := nd_mul_ge (N := N) (k := k) (c := 5) (by decide)
  omega
theorem dpR_le (N : Nat) (dp : Int) (k : Nat) : dpR N dp k ≤ dp := by
  unfold dpR
  have := nd_mul_le (N := N) (k := k) (c := 5) (by decide)
  omega
theorem dpL_ge (N : Nat) (dp : Int) (k : Nat) : dp ≤ dpL N dp k := by
  unfold dpL
  have := nd_mul_ge (N := N) (k := k) (c := 2) (by decide)
  omega
theorem dpL_le (N : Nat) (dp : Int) (k : Nat) : dpL N dp k ≤ dp + k := by
  unfold dpL
  have := nd_mul_le (N := N) (k := k) (c := 2) (by decide)
  omega

/-- How many powers of two for so many places. -/
def pw (d : Nat) : Nat := if 9 ≤ d then 27 else [1, 3, 6, 9, 13, 16, 19, 23, 26].getD d 0
theorem pw_pos (d : Nat) : 1 ≤ pw d ∧ pw d ≤ 27 := by
  unfold pw
  split
  · omega
  · rename_i h
    have : d = 0 ∨ d = 1 ∨ d = 2 ∨ d = 3 ∨ d = 4 ∨ d = 5 ∨ d = 6 ∨ d = 7 ∨ d = 8 := by omega
    rcases this with rfl | rfl | rfl | rfl | rfl | rfl | rfl | rfl | rfl <;> decide

/-- What is left behind s halvings of the value M · 10^q. -/
def VR (N : Nat) (dp : Int) (M : Nat) (q : Int) (s : Nat) : Prop := ∃ a b : Nat, N * 10 ^ a * 2 ^ s = M * 10 ^ b ∧ (a : Int) - b = dp - nd N - q
theorem VR_start (M : Nat) (dp : Int) : VR M dp M (dp - nd M) 0 := ⟨0, 0, by simp, by omega⟩
theorem VR_step {N M s : Nat} {dp q : Int} (h : VR N dp M q s) (h0 : N ≠ 0) (k : Nat) : VR (shR N k) (dpR N dp k) M q (s + k) := by
  obtain ⟨a, b, h1, h2⟩ := h
  obtain ⟨z, hz, hn⟩ := strip_nd (mul5_ne h0 k)
  refine ⟨a + z, b + k, ?_, ?_⟩
  · have e : shR N k * 10 ^ (a + z) * 2 ^ (s + k) = (shR N k * 10 ^ z) * (10 ^ a * 2 ^ s * 2 ^ k) := by rw [Nat.pow_add, Nat.pow_add]; ac_rfl
    rw [e]
    unfold shR
    rw [← hz]
    have e2 : N * 5 ^ k * (10 ^ a * 2 ^ s * 2 ^ k) = N * 10 ^ a * 2 ^ s * (2 ^ k * 5 ^ k) := by ac_rfl
    rw [e2, h1, two_five, Nat.pow_add]
    ac_rfl
  · unfold dpR shR
    omega
theorem pow2_lt {a b : Nat} (h : 2 ^ a < 2 ^ b) : a < b := by
  rcases Nat.lt_or_ge a b with h1 | h1
  · exact h1
  · have := Nat.pow_le_pow_right (n := 2) (by decide) h1
    omega
theorem VR_pos {N M s : Nat} {dp dp0 : Int} (h : VR N dp M (dp0 - nd M) s) (h0 : N ≠ 0) (hd : 0 < dp) (hd0 : dp0 ≤ 14) : s ≤ 46 := by
  obtain ⟨a, b, h1, h2⟩ := h
  have g := nd_ge N h0
  have l := nd_lt M
  have e1 : 10 ^ (nd N + a) * 2 ^ s ≤ 10 * (M * 10 ^ b) := by
    rw [← h1, Nat.pow_add]
    have := Nat.mul_le_mul_right (10 ^ a * 2 ^ s) g
    have e : 10 * N * (10 ^ a * 2 ^ s) = 10 * (N * 10 ^ a * 2 ^ s) := by ac_rfl
    rw [e] at this
    rw [Nat.mul_assoc]
    exact this
  have e2 : M * 10 ^ b < 10 ^ nd M * 10 ^ b := Nat.mul_lt_mul_of_pos_right l (ten_pos b)
  have e3 : 10 ^ (b + nd M + 1) ≤ 10 ^ (nd N + a + 14) := Nat.pow_le_pow_right (by decide) (by omega)
  have e4 : 10 ^ (b + nd M + 1) = 10 ^ nd M * 10 ^ b * 10 := by rw [Nat.pow_succ, Nat.pow_add]; ac_rfl
  have e5 : 10 ^ (nd N + a + 14) = 10 ^ (nd N + a) * 10 ^ 14 := by rw [Nat.pow_add]
  have e6 : 10 ^ (nd N + a) * 2 ^ s < 10 ^ (nd N + a) * 10 ^ 14 := by omega
  have e7 := Nat.lt_of_mul_lt_mul_left e6
  have e8 : 2 ^ s < 2 ^ 47 := Nat.lt_of_lt_of_le e7 (by decide)
  have := pow2_lt e8
  omega

/-- What has come of M · 10^q by s doublings. -/
def VL (N : Nat) (dp : Int) (M : Nat) (q : Int) (s : Nat) : Prop := ∃ a b : Nat, N * 10 ^ a = M * 10 ^ b * 2 ^ s ∧ (a : Int) - b = dp - nd N - q
theorem VL_start (M : Nat) (dp : Int) : VL M dp M (dp - nd M) 0 := ⟨0, 0, by simp, by omega⟩
theorem VL_step {N M s : Nat} {dp q : Int} (h : VL N dp M q s) (h0 : N ≠ 0) (k : Nat) : VL (shL N k) (dpL N dp k) M q (s + k) := by
  obtain ⟨a, b, h1, h2⟩ := h
  obtain ⟨z, hz, hn⟩ := strip_nd (mul2_ne h0 k)
  refine ⟨a + z, b, ?_, ?_⟩
  · have e : shL N k * 10 ^ (a + z) = (shL N k * 10 ^ z) * 10 ^ a := by rw [Nat.pow_add]; ac_rfl
    rw [e]
    unfold shL
    rw [← hz]
    have e2 : N * 2 ^ k * 10 ^ a = N * 10 ^ a * 2 ^ k := by ac_rfl
    rw [e2, h1, Nat.pow_add]
    ac_rfl
  · unfold dpL shL
    omega
theorem VL_small {N M s : Nat} {dp dp1 : Int} (h : VL N dp M (dp1 - nd M) s) (h0 : M ≠ 0) (hd : dp ≤ 0) (hd1 : -60 ≤ dp1) : s ≤ 202 := by
  obtain ⟨a, b, h1, h2⟩ := h
  have g := nd_ge M h0
  have l := nd_lt N
  have e1 : 10 ^ (nd M + b) * 2 ^ s ≤ 10 * (N * 10 ^ a) := by
    rw [h1, Nat.pow_add]
    have := Nat.mul_le_mul_right (10 ^ b * 2 ^ s) g
    have e : 10 * M * (10 ^ b * 2 ^ s) = 10 * (M * 10 ^ b * 2 ^ s) := by ac_rfl
    rw [e] at this
    rw [Nat.mul_assoc]
    exact this
  have e2 : N * 10 ^ a < 10 ^ nd N * 10 ^ a := Nat.mul_lt_mul_of_pos_right l (ten_pos a)
  have e3 : 10 ^ (nd N + a + 1) ≤ 10 ^ (nd M + b + 61) := Nat.pow_le_pow_right (by decide) (by omega)
  have e4 : 10 ^ (nd N + a + 1) = 10 ^ nd N * 10 ^ a * 10 := by rw [Nat.pow_succ, Nat.pow_add]
  have e5 : 10 ^ (nd M + b + 61) = 10 ^ (nd M + b) * 10 ^ 61 := by rw [Nat.pow_add]
  have e6 : 10 ^ (nd M + b) * 2 ^ s < 10 ^ (nd M + b) * 10 ^ 61 := by omega
  have e7 := Nat.lt_of_mul_lt_mul_left e6
  have e8 : 2 ^ s < 2 ^ 203 := Nat.lt_of_lt_of_le e7 (by decide)
  have := pow2_lt e8
  omega

/-- The two loops of floatBits. -/
def lp1 : Nat → Nat → Int → Int → Nat × Int × Int
  | 0, N, dp, e => (N, dp, e)
  | f + 1, N, dp, e => if 0 < dp then lp1 f (shR N (pw dp.toNat)) (dpR N dp (pw dp.toNat)) (e + pw dp.toNat) else (N, dp, e)
def dlowB (N : Nat) (dp : Int) : Bool := decide (dp < 0) || (decide (dp = 0) && decide (((dg N)[0]?.getD 0).toNat < 53))
def lp2 : Nat → Nat → Int → Int → Nat × Int × Int
  | 0, N, dp, e => (N, dp, e)
  | f + 1, N, dp, e => if dlowB N dp = true then lp2 f (shL N (pw (-dp).toNat)) (dpL N dp (pw (-dp).toNat)) (e - pw (-dp).toNat) else (N, dp, e)
/-- What holds in the first loop. -/
structure In1 (M : Nat) (dp0 : Int) (fin : Nat × Int × Int) (N : Nat) (dp : Int) (s f : Nat) : Prop where
  ne : N ≠ 0
  val : VR N dp M (dp0 - nd M) s
  nd_ : nd N ≤ nd M + s
  lo : -60 ≤ dp
  hi : dp ≤ 14
  sm : s ≤ 73
  fu : 80 ≤ f + s
  eq : lp1 f N dp s = fin
theorem In1.start {M : Nat} {dp0 : Int} (h0 : M ≠ 0) (h1 : -60 ≤ dp0) (h2 : dp0 ≤ 14) : In1 M dp0 (lp1 80 M dp0 0) M dp0 0 80 :=
  ⟨h0, VR_start M dp0, by omega, h1, h2, by omega, by omega, rfl⟩
theorem In1.step {M N s f : Nat} {dp0 dp : Int} {fin : Nat × Int × Int} (hd0 : dp0 ≤ 14) (h : In1 M dp0 fin N dp s f) (hd : 0 < dp) :
    In1 M dp0 fin (shR N (pw dp.toNat)) (dpR N dp (pw dp.toNat)) (s + pw dp.toNat) (f - 1) ∧ f ≠ 0 ∧ s ≤ 46 := by
  have hp := pw_pos dp.toNat
  have hs := VR_pos h.val h.ne hd hd0
  have hf := h.fu
  have hx := dpR_ge N dp (pw dp.toNat)
  have hy := dpR_le N dp (pw dp.toNat)
  have hn := shR_nd h.ne (pw dp.toNat)
  have hnd := h.nd_
  have hhi := h.hi
  refine ⟨⟨shR_ne h.ne _, VR_step h.val h.ne _, by omega, by omega, by omega, by omega, by omega, ?_⟩, by omega, hs⟩
  have e := h.eq
  obtain ⟨g, rfl⟩ : ∃ g, f = g + 1 := ⟨f - 1, by omega⟩
  rw [lp1, if_pos hd] at e
  rw [← e]
  rfl
theorem In1.stop {M N s f : Nat} {dp0 dp : Int} {fin : Nat × Int × Int} (h : In1 M dp0 fin N dp s f) (hd : ¬ 0 < dp) : fin = (N, dp, (s : Int)) := by
  have hf := h.fu
  have := h.sm
  rw [← h.eq]
  obtain ⟨g, rfl⟩ : ∃ g, f = g + 1 := ⟨f - 1, by omega⟩
  rw [lp1, if_neg hd]
/-- What holds in the second. -/
structure In2 (M : Nat) (dp1 e1 : Int) (fin : Nat × Int × Int) (N : Nat) (dp : Int) (s f : Nat) : Prop where
  ne : N ≠ 0
  val : VL N dp M (dp1 - nd M) s
  nd_ : nd N ≤ nd M + s
  lo : -60 ≤ dp
  hi : dp ≤ 27
  sm : s ≤ 229
  fu : 240 ≤ f + s
  eq : lp2 f N dp (e1 - s) = fin
theorem In2.start {M : Nat} {dp1 e1 : Int} (h0 : M ≠ 0) (h1 : -60 ≤ dp1) (h2 : dp1 ≤ 0) : In2 M dp1 e1 (lp2 240 M dp1 e1) M dp1 0 240 :=
  ⟨h0, VL_start M dp1, by omega, h1, by omega, by omega, by omega, by rw [show e1 - ((0 : Nat) : Int) = e1 by omega]⟩
theorem low_le {N : Nat} {dp : Int} (h : dlowB N dp = true) : dp ≤ 0 := by
  unfold dlowB at h
  rw [Bool.or_eq_true, Bool.and_eq_true, decide_eq_true_eq, decide_eq_true_eq] at h
  omega
theorem In2.step {M N s f : Nat} {dp1 dp e1 : Int} {fin : Nat × Int × Int} (h0 : M ≠ 0) (hd1 : -60 ≤ dp1) (h : In2 M dp1 e1 fin N dp s f) (hd : dlowB N dp = true) :
    In2 M dp1 e1 fin (shL N (pw (-dp).toNat)) (dpL N dp (pw (-dp).toNat)) (s + pw (-dp).toNat) (f - 1) ∧ f ≠ 0 ∧ s ≤ 202 := by
  have hd2 := low_le hd
  have hp := pw_pos (-dp).toNat
  have hs := VL_small h.val h0 hd2 hd1
  have hf := h.fu
  have hx := dpL_ge N dp (pw (-dp).toNat)
  have hy := dpL_le N dp (pw (-dp).toNat)
  have hn := shL_nd h.ne (pw (-dp).toNat)
  have hnd := h.nd_
  have hlo := h.lo
  refine ⟨⟨shL_ne h.ne _, VL_step h.val h.ne _, by omega, by omega, by omega, by omega, by omega, ?_⟩, by omega, hs⟩
  have e := h.eq
  obtain ⟨g, rfl⟩ : ∃ g, f = g + 1 := ⟨f - 1, by omega⟩
  rw [lp2, if_pos hd] at e
  rw [← e]
  rw [show e1 - ((s + pw (-dp).toNat : Nat) : Int) = e1 - (s : Int) - (pw (-dp).toNat : Nat) by omega]
  rfl
theorem In2.stop {M N s f : Nat} {dp1 dp e1 : Int} {fin : Nat × Int × Int} (h : In2 M dp1 e1 fin N dp s f) (hd : ¬ dlowB N dp = true) : fin = (N, dp, e1 - (s : Int)) := by
  have hf := h.fu
  have := h.sm
  rw [← h.eq]
  obtain ⟨g, rfl⟩ : ∃ g, f = g + 1 := ⟨f - 1, by omega⟩
  rw [lp2, if_neg hd]
end Go.Proofs.YtcpijmbdibgdmaaGreatDoor

namespace Go.Proofs.YtcpijmbdibgdmaaGreatDoor
open Go.RowKit

/-- A string value out of a list of bytes. -/
abbrev S (l : List UInt8) : Value := .string ⟨l.toArray⟩

/-- Block g is just the cells cs of element type t, none frozen. -/
def Blk (w : World) (g : Nat) (t : TypeId) (cs : Array Value) : Prop := w.heap[g]? = some (.cells cs t (0, 0))

section
variable {w w' : World} {g : Nat} {t : TypeId} {cs : Array Value}
theorem Blk.lt (h : Blk w g t cs) : g < w.heap.size := by
  rcases Nat.lt_or_ge g w.heap.size with hlt | hge
  · exact hlt
  · unfold Blk at h; rw [Array.getElem?_eq_none hge] at h; cases h
theorem Blk.cell (h : Blk w g t cs) (i : Nat) : w.cell? ⟨g, i, none⟩ = cs[i]? := cell_of_row w g i cs t (0, 0) h
theorem Blk.frozen (h : Blk w g t cs) (i : Nat) : w.frozen? ⟨g, i, none⟩ = false := by
  unfold Blk at h
  simp [World.frozen?, h]
theorem Blk.new (w : World) (t : TypeId) (cs : Array Value) : Blk (w.alloc (.cells cs t)) w.heap.size t cs := heap_alloc_new w _
theorem Blk.drew (h : Blk w g t cs) : Blk w.drew g t cs := h
theorem Blk.drewN (h : Blk w g t cs) (n : Nat) : Blk (w.drewN n) g t cs := h
theorem Blk.alloc (h : Blk w g t cs) (o : Obj) : Blk (w.alloc o) g t cs := (Below.heap_alloc w o g h.lt).trans h
theorem Blk.set_ (h : Blk w g t cs) (i : Nat) (u : Value) : Blk (w.setCell ⟨g, i, none⟩ u) g t (cs.setIfInBounds i u) := by
  unfold Blk at h ⊢
  simp [World.setCell, Array.getElem?_modify, h]
theorem Blk.far (h : Blk w g t cs) {p : Addr} (hp : g ≠ p.block) (u : Value) : Blk (w.setCell p u) g t cs := (Below.heap_setCell w p u g hp).trans h
theorem Blk.below {B : Nat} (h : Blk w g t cs) (hb : Below B w w') (hg : g < B) : Blk w' g t cs := (hb.block g hg).trans h
theorem Blk.grown {row : Option Nat} (h : Blk w g t cs) (hb : w.grownBy w' row) (hg : some g ≠ row) : Blk w' g t cs := (hb.block g h.lt hg).trans h
end

/-- Only block g, and what is new, has changed. -/
abbrev Only (a w : World) (g : Nat) : Prop := a.grownBy w (some g)
section
variable {a w : World} {g : Nat}
theorem only_refl (a : World) (g : Nat) : Only a a g := World.grownBy.refl a _
theorem only_drewN (h : Only a w g) (n : Nat) : Only a (w.drewN n) g := ⟨h.os, h.tape, h.output, h.size, h.block⟩
theorem only_drew (h : Only a w g) : Only a w.drew g := ⟨h.os, h.tape, h.output, h.size, h.block⟩
theorem only_alloc (h : Only a w g) (o : Obj) : Only a (w.alloc o) g :=
  ⟨h.os, h.tape, h.output, Nat.le_trans h.size (by simp), fun i hi hne => (Below.heap_alloc w o i (Nat.lt_of_lt_of_le hi h.size)).trans (h.block i hi hne)⟩
theorem only_setCell (h : Only a w g) {p : Addr} (hp : p.block = g ∨ a.heap.size ≤ p.block) (u : Value) : Only a (w.setCell p u) g :=
  ⟨h.os, h.tape, h.output, by simpa [World.setCell] using h.size, fun i hi hne => (Below.heap_setCell w p u i (by
    rintro rfl
    rcases hp with hp | hp
    · exact hne (by rw [hp])
    · omega)).trans (h.block i hi hne)⟩
theorem only_set (h : Only a w g) (i : Nat) (u : Value) : Only a (w.setCell ⟨g, i, none⟩ u) g := only_setCell h (.inl rfl) u
theorem only_of_below (h : Below a.heap.size a w) : Only a w g := ⟨h.os, h.tape, h.output, h.size, fun i hi _ => h.block i hi⟩
theorem only_trans {b : World} (h : Only a b g) (k : Only b w g) : Only a w g :=
  ⟨k.os.trans h.os, k.tape.trans h.tape, k.output.trans h.output, Nat.le_trans h.size k.size, fun i hi hn => (k.block i (Nat.lt_of_lt_of_le hi h.size) hn).trans (h.block i hi hn)⟩
theorem only_below {b : World} (h : Only a b g) (k : Below b.heap.size b w) : Only a w g := only_trans h (only_of_below k)
end

/-- A call that leaves the world as it is, in a quiet region, the first or one behind another. -/
theorem quiet_left {P : Program} {f : FuncId} {args : Array Value} {w : World} {n : Nat} {v : Value}
    (h : Calls P f args (w.drewN n) fun e w' => e = .returned v ∧ w.drewN n = w') : Calls P f args (w.drewN n) fun e w'' => e = .returned v ∧ ∃ m, w'' = w.drewN m :=
  h.mono fun _ _ ⟨he, hm⟩ => ⟨he, n, hm.symm⟩
theorem quiet_add_left {P : Program} {f : FuncId} {args : Array Value} {w : World} {a n : Nat} {v : Value}
    (h : Calls P f args (w.drewN (a + n)) fun e w' => e = .returned v ∧ w.drewN (a + n) = w') :
    Calls P f args (w.drewN (a + n)) fun e w'' => e = .returned v ∧ ∃ m, w'' = w.drewN (a + m) :=
  h.mono fun _ _ ⟨he, hm⟩ => ⟨he, n, hm.symm⟩

/-- The world under a new name, with what the caller says of it. -/
theorem wp_gen {P : Program} {c : Code} {Q : Exit → Act → World → Prop} {a : Act} {w : World} (C : World → Prop) (hC : C w) (h : ∀ w, C w → c.wp P Q a w) : c.wp P Q a w := h w hC

/-- A region that draws its order: what only reads first, then the tail in its order, from a world of which the caller says what it knows. -/
theorem region_tail {P : Program} {id : Nat} {Q : Exit → Act → World → Prop} {a : Act} {w : World} {l : List Oper} (n : Nat) (hm : P.follows .mixedOrders = true) (hB : Region.lexTailB .any l.toArray n = true)
    (h : ∀ w2, w2 = w.drew → wpStill P l.toArray w2 (fun a' => wpList P l.toArray Q (l.drop n) a' w2) (l.take n) a) : (Code.region id l.toArray true).wp P Q a w :=
  wp_region_still_tail n hm hB (h _ rfl)

theorem still_of_quiet {P : Program} {o : Oper} {a : Act} {w : World} {K K' : Act → Prop} (hK : ∀ a, K a → K' a) (h : o.quiet P a (fun w' => w' = w) K) : o.still P a w K' := by
  obtain ⟨v, h1, h2⟩ := h
  have h1 := h1 w rfl
  have h2 := hK _ h2
  unfold Oper.still Oper.stillUpon
  unfold Oper.quietAt Oper.quietUpon at h1
  revert h1
  generalize (execOp a.eval o).run P w = res
  intro h1
  split at h1
  · obtain ⟨rfl, rfl⟩ := h1; exact ⟨rfl, h2⟩
  · obtain ⟨rfl, rfl⟩ := h1; exact ⟨rfl, h2⟩
  · obtain ⟨rfl, h⟩ := h1; exact ⟨rfl, v, h, h2⟩
  · exact h1.elim

theorem wpStill_of_quiet {P : Program} {ops : Array Oper} {w : World} {Q : Act → Prop} : ∀ (l : List Oper) (a : Act), wpQuiet P ops (fun w' => w' = w) Q l a → wpStill P ops w Q l a
  | [], _, h => h
  | o :: rest, a, h => by
    unfold wpQuiet at h
    unfold wpStill
    split
    · rename_i hw
      rw [if_pos hw] at h
      exact still_of_quiet (fun a' => wpStill_of_quiet rest a') h
    · rename_i hw
      rw [if_neg hw] at h
      exact wpStill_of_quiet rest _ h

/-- The same, the head walked by the quiet walk's cheap steps. -/
theorem region_tailq {P : Program} {id : Nat} {Q : Exit → Act → World → Prop} {a : Act} {w : World} {l : List Oper} (n : Nat) (hm : P.follows .mixedOrders = true) (hB : Region.lexTailB .any l.toArray n = true)
    (h : ∀ w2, w2 = w.drew → wpQuiet P l.toArray (fun w' => w' = w2) (fun a' => wpList P l.toArray Q (l.drop n) a' w2) (l.take n) a) : (Code.region id l.toArray true).wp P Q a w :=
  region_tail n hm hB (fun w2 e => wpStill_of_quiet _ _ (h w2 e))

/-- The reader of package spec: a text, a place in it, and four marks. -/
def Rd (w : World) (r : Nat) (s : List UInt8) (at_ bad deep : Nat) (odd ends : Bool) : Prop :=
  Blk w r 54 #[S s, .int .i64 at_, .int .i64 bad, .int .i64 deep, .bool odd, .bool ends]

section
variable {w w' : World} {r : Nat} {s : List UInt8} {at_ bad deep : Nat} {odd ends : Bool}
theorem Rd.c0 (h : Rd w r s at_ bad deep odd ends) : w.cell? ⟨r, 0, none⟩ = some (S s) := Blk.cell h 0
theorem Rd.c1 (h : Rd w r s at_ bad deep odd ends) : w.cell? ⟨r, 1, none⟩ = some (.int .i64 at_) := Blk.cell h 1
theorem Rd.c2 (h : Rd w r s at_ bad deep odd ends) : w.cell? ⟨r, 2, none⟩ = some (.int .i64 bad) := Blk.cell h 2
theorem Rd.c3 (h : Rd w r s at_ bad deep odd ends) : w.cell? ⟨r, 3, none⟩ = some (.int .i64 deep) := Blk.cell h 3
theorem Rd.c4 (h : Rd w r s at_ bad deep odd ends) : w.cell? ⟨r, 4, none⟩ = some (.bool odd) := Blk.cell h 4
theorem Rd.c5 (h : Rd w r s at_ bad deep odd ends) : w.cell? ⟨r, 5, none⟩ = some (.bool ends) := Blk.cell h 5
theorem Rd.fz (h : Rd w r s at_ bad deep odd ends) (i : Nat) : w.frozen? ⟨r, i, none⟩ = false := Blk.frozen h i
end

section
variable {w w' : World} {r : Nat} {s : List UInt8} {k bad deep : Nat} {odd ends : Bool}
theorem Rd.cs (h : Rd w r s k bad deep odd ends) : w.cell? ⟨r, 0, none⟩ = some (S s) ∧ w.cell? ⟨r, 1, none⟩ = some (.int .i64 k) ∧ w.cell? ⟨r, 2, none⟩ = some (.int .i64 bad) ∧
    w.cell? ⟨r, 3, none⟩ = some (.int .i64 deep) ∧ w.cell? ⟨r, 4, none⟩ = some (.bool odd) ∧ w.cell? ⟨r, 5, none⟩ = some (.bool ends) := ⟨h.c0, h.c1, h.c2, h.c3, h.c4, h.c5⟩
theorem Rd.fs (h : Rd w r s k bad deep odd ends) : w.frozen? ⟨r, 1, none⟩ = false ∧ w.frozen? ⟨r, 2, none⟩ = false ∧ w.frozen? ⟨r, 3, none⟩ = false ∧ w.frozen? ⟨r, 4, none⟩ = false ∧ w.frozen? ⟨r, 5, none⟩ = false :=
  ⟨h.fz 1, h.fz 2, h.fz 3, h.fz 4, h.fz 5⟩
theorem Rd.dr (h : Rd w r s k bad deep odd ends) (n : Nat) : Rd (w.drewN n) r s k bad deep odd ends := h
theorem Rd.at_ (h : Rd w r s k bad deep odd ends) (n : Nat) {v : Value} (hv : v = .int .i64 n) : Rd (w.setCell ⟨r, 1, none⟩ v) r s n bad deep odd ends := by subst hv; exact Blk.set_ h 1 _
theorem Rd.bad_ (h : Rd w r s k bad deep odd ends) (n : Nat) {v : Value} (hv : v = .int .i64 n) : Rd (w.setCell ⟨r, 2, none⟩ v) r s k n deep odd ends := by subst hv; exact Blk.set_ h 2 _
theorem Rd.deep_ (h : Rd w r s k bad deep odd ends) (n : Nat) {v : Value} (hv : v = .int .i64 n) : Rd (w.setCell ⟨r, 3, none⟩ v) r s k bad n odd ends := by subst hv; exact Blk.set_ h 3 _
theorem Rd.odd_ (h : Rd w r s k bad deep odd ends) (b : Bool) {v : Value} (hv : v = .bool b) : Rd (w.setCell ⟨r, 4, none⟩ v) r s k bad deep b ends := by subst hv; exact Blk.set_ h 4 _
theorem Rd.ends_ (h : Rd w r s k bad deep odd ends) (b : Bool) {v : Value} (hv : v = .bool b) : Rd (w.setCell ⟨r, 5, none⟩ v) r s k bad deep odd b := by subst hv; exact Blk.set_ h 5 _
end

/-- A float is stored as any value of one cell. -/
theorem store_flt (P : Program) (w : World) (a : Addr) (m : Mode) (k : FloatKind) (b : Nat) : (store a (.float k b) m).run P w = stored P w a (.float k b) m := run_store P w a _ m rfl
theorem ba_get (l : List UInt8) (i : Nat) (h : i < (ByteArray.mk l.toArray).size) : (ByteArray.mk l.toArray)[i]'h = l[i]'(show i < l.length from h) := rfl
theorem drop_at {s : List UInt8} {j : Nat} (h : j < s.length) : s.drop j = s[j] :: s.drop (j + 1) := List.drop_eq_getElem_cons h
theorem ret_ext {s l : List UInt8} {a b : Nat} (h : (s.drop a).take (b - a) = l) : Ending.returned (.string ((ByteArray.mk s.toArray).extract a b)) = .returned (S l) := by rw [ByteArray.extract_mk, h]
theorem ret_S {a b : List UInt8} (h : a = b) : Ending.returned (S a) = .returned (S b) := by rw [h]
theorem ret_bool {a b : Bool} (h : a = b) : Ending.returned (.bool a) = .returned (.bool b) := by rw [h]
theorem ret_int {k : IntKind} {a b : Int} (h : a = b) : Ending.returned (.int k a) = .returned (.int k b) := by rw [h]

/-- White space (7.2.2), delimiters, regular characters, printed signs. -/
def whiteB (b : UInt8) : Bool := decide (b.toNat = 0 ∨ b.toNat = 9 ∨ b.toNat = 10 ∨ b.toNat = 12 ∨ b.toNat = 13 ∨ b.toNat = 32)
def delimB (b : UInt8) : Bool := decide (b.toNat = 40 ∨ b.toNat = 41 ∨ b.toNat = 60 ∨ b.toNat = 62 ∨ b.toNat = 91 ∨ b.toNat = 93 ∨ b.toNat = 123 ∨ b.toNat = 125 ∨ b.toNat = 47 ∨ b.toNat = 37)
def regB (b : UInt8) : Bool := !whiteB b && !delimB b
def plainB (b : UInt8) : Bool := decide (32 ≤ b.toNat ∧ b.toNat ≤ 126)
def digitB (b : UInt8) : Bool := decide (48 ≤ b.toNat ∧ b.toNat ≤ 57)
def hexV (b : UInt8) : Int := if 48 ≤ b.toNat ∧ b.toNat ≤ 57 then b.toNat - 48 else if 97 ≤ b.toNat ∧ b.toNat ≤ 102 then b.toNat - 87 else if 65 ≤ b.toNat ∧ b.toNat ≤ 70 then b.toNat - 55 else -1

end Go.Proofs.YtcpijmbdibgdmaaGreatDoor

namespace Go.Proofs.YtcpijmbdibgdmaaGreatDoor
open Go.RowKit


set_option maxHeartbeats 400000 in
theorem white_any (b : UInt8) (w : World) : Calls Tryz.prog 67 #[.int .u8 b.toNat] w fun e w' => e = .returned (.bool (whiteB b)) ∧ w = w' := by
  go_enter Tryz.func67, Tryz.ntmps67
  go_wp2
  all_goals go_ret
  all_goals (refine ⟨ret_bool ?_, rfl⟩; simp only [beq_iff_eq, beq_eq_false_iff_ne, ne_eq] at *; rw [Bool.eq_iff_iff]; simp [whiteB]; omega)
set_option maxHeartbeats 400000 in
theorem delim_any (b : UInt8) (w : World) : Calls Tryz.prog 48 #[.int .u8 b.toNat] w fun e w' => e = .returned (.bool (delimB b)) ∧ w = w' := by
  go_enter Tryz.func48, Tryz.ntmps48
  go_wp2
  all_goals go_ret
  all_goals (refine ⟨ret_bool ?_, rfl⟩; simp only [beq_iff_eq, beq_eq_false_iff_ne, ne_eq] at *; rw [Bool.eq_iff_iff]; simp [delimB]; omega)
theorem plain_any (b : UInt8) (w : World) : Calls Tryz.prog 68 #[.int .u8 b.toNat] w fun e w' => e = .returned (.bool (plainB b)) ∧ w = w' := by
  go_enter Tryz.func68, Tryz.ntmps68
  by_cases h : 32 ≤ b.toNat
  all_goals go_wp2
  all_goals go_ret
  all_goals (refine ⟨ret_bool ?_, rfl⟩; rw [Bool.eq_iff_iff]; simp [plainB]; omega)
theorem digit_any (b : UInt8) (w : World) : Calls Tryz.prog 93 #[.int .u8 b.toNat] w fun e w' => e = .returned (.bool (digitB b)) ∧ w = w' := by
  go_enter Tryz.func93, Tryz.ntmps93
  by_cases h : 48 ≤ b.toNat
  all_goals go_wp2
  all_goals go_ret
  all_goals (refine ⟨ret_bool ?_, rfl⟩; rw [Bool.eq_iff_iff]; simp [digitB]; omega)
theorem reg_any (b : UInt8) (w : World) : Calls Tryz.prog 71 #[.int .u8 b.toNat] w fun e w' => e = .returned (.bool (regB b)) ∧ w = w' := by
  go_enter Tryz.func71, Tryz.ntmps71
  cases h : whiteB b
  all_goals
    have H := Lib.hid h
    clear h
    go_wp2_with (first | (go_at_call 67; refine (white_any b _).mono ?_; rintro e w' ⟨rfl, rfl⟩; simp only [H.out]) | (go_at_call 48; refine (delim_any b _).mono ?_; rintro e w' ⟨rfl, rfl⟩))
  all_goals go_ret
  all_goals (refine ⟨ret_bool ?_, rfl⟩; simp [regB, H.out])
set_option maxHeartbeats 400000 in
theorem hex_any (b : UInt8) (w : World) : Calls Tryz.prog 73 #[.int .u8 b.toNat] w fun e w' => e = .returned (.int .i64 (hexV b)) ∧ w = w' := by
  go_enter Tryz.func73, Tryz.ntmps73
  go_wp2_with (first | (go_at_call 93; refine (digit_any b _).mono ?_; rintro e w' ⟨rfl, rfl⟩))
  all_goals go_ret
  all_goals (refine ⟨ret_int ?_, rfl⟩; simp only [digitB, decide_eq_true_eq, decide_eq_false_iff_not] at *; have := b.toNat_lt; unfold hexV; (repeat' split) <;> omega)
end Go.Proofs.YtcpijmbdibgdmaaGreatDoor
