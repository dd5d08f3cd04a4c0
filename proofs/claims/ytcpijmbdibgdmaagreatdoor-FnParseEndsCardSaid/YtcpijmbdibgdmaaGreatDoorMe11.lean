/-
  internal/strconv: atof64 of a decimal number with a point.
  strings.Builder's writers at this program (after the kit's own walks of the same functions).
  Builder's writers: what is no row of bytes stays.
  package model: the plain searches and turns of strings.
-/
import Derived.Test.YtcpijmbdibgdmaaGreatDoorMe08
import Derived.Test.YtcpijmbdibgdmaaGreatDoorMe09
import Derived.Test.YtcpijmbdibgdmaaGreatDoorMe10
import Derived.Test.YtcpijmbdibgdmaaGreatDoorMe02
import Derived.Test.YtcpijmbdibgdmaaGreatDoorMe01
import Derived.Laws.Externs
import Derived.Lib.OthersKept
import Derived.Test.YtcpijmbdibgdmaaGreatDoorMe04
import Derived.Laws.IdiomStrings
set_option linter.all false
namespace Go.Proofs.YtcpijmbdibgdmaaGreatDoor
open Go.RowKit
attribute [local go_sem] ba_get store_flt

/-- What stands of the package's variables that a number is converted with. -/
structure PW (fv hi lo : Nat → Nat) (lb lo' lc pb po pc fb fo fc : Nat) (w : World) : Prop where
  fi : FI lb lo' lc pb po pc w
  fp : FP fv fb fo fc w
  tab : ∀ i, i < 696 → w.cell? ⟨22, i * 2, none⟩ = some (.int .u64 (hi i)) ∧ w.cell? ⟨22, i * 2 + 1, none⟩ = some (.int .u64 (lo i))
  num : ∀ i, i < 696 → hi i < 18446744073709551616 ∧ lo i < 18446744073709551616
  opt : w.cell? ⟨9, 0, none⟩ = some (.bool true)
  h24 : 24 < w.heap.size
  hlb : lb < w.heap.size
  hpb : pb < w.heap.size
  hfb : fb < w.heap.size
def negB (t : List UInt8) : Bool := match t with | [] => false | b :: _ => decide (b.toNat = 45)
def sgnI (neg : Bool) : Int := if neg then 9223372036854775808 else 0
def fEq (a b : Nat) : Bool := FloatKind.f64.format.order a b == some .eq
/-- What a number is converted to. -/
def cvF (fv hi lo : Nat → Nat) (s : RFS) (N : Nat) (neg : Bool) : Nat :=
  if s.m = 0 then (sgnI neg).toNat
  else if s.tr = false then match exG fv s.m (expF s) (f0F s.m neg) with | some f => f | none => pf64F hi lo s.m (expF s + 348).toNat (sgnI neg)
  else if fEq (pf64F hi lo s.m (expF s + 348).toNat (sgnI neg)) (pf64F hi lo (s.m + 1) (expF s + 348).toNat (sgnI neg)) = true then pf64F hi lo s.m (expF s + 348).toNat (sgnI neg)
  else (fbF N s.dp neg).toNat
def atF (fv hi lo : Nat → Nat) (t : List UInt8) : Nat := cvF fv hi lo (rfL RFS.zero (unsign t)) (nL 0 (unsign t)) (negB t)

theorem FP.below {fv : Nat → Nat} {fb fo fc : Nat} {w w' : World} (h : FP fv fb fo fc w) {B : Nat} (hB : Below B w w') (h1 : fb < B) (h2 : 22 < B) : FP fv fb fo fc w' where
  c17 := (hB.cell (p := ⟨17, 0, none⟩) (by show 17 < B; omega)).trans h.c17
  c21 := (hB.cell (p := ⟨21, 0, none⟩) (by show 21 < B; omega)).trans h.c21
  cv := fun j a => (hB.cell (p := ⟨fb, fo + j, none⟩) h1).trans (h.cv j a)
  pn := h.pn
/-- The sign ahead of a number. -/
theorem sign_of (t : List UInt8) : ∃ i0, unsign t = t.drop i0 ∧ ((i0 = 0 ∧ negB t = false ∧ ∀ h : 0 < t.length, t[0].toNat ≠ 43 ∧ t[0].toNat ≠ 45) ∨ (i0 = 1 ∧ ∃ h : 0 < t.length, (negB t = true ∧ t[0].toNat = 45 ∨ negB t = false ∧ t[0].toNat = 43))) := by
  cases t with
  | nil => exact ⟨0, rfl, .inl ⟨rfl, rfl, fun h => by simp at h⟩⟩
  | cons b l =>
    by_cases h45 : b.toNat = 45
    · exact ⟨1, by rw [unsign, if_pos (.inr h45)]; rfl, .inr ⟨rfl, by simp, .inl ⟨by simp [negB, h45], h45⟩⟩⟩
    · by_cases h43 : b.toNat = 43
      · exact ⟨1, by rw [unsign, if_pos (.inl h43)]; rfl, .inr ⟨rfl, by simp, .inr ⟨by simp [negB, h45], h43⟩⟩⟩
      · exact ⟨0, by rw [unsign, if_neg (by omega)]; rfl, .inl ⟨rfl, by simp [negB, h45], fun _ => ⟨h43, h45⟩⟩⟩
theorem cnt_len : ∀ (l : List UInt8) (d p a d' p' a' : Nat), cntM l d p a = some (d', p', a') → l.length + d + p = d' + p'
  | [], d, p, a, d', p', a', h => by
    simp only [cntM, Option.some.injEq, Prod.mk.injEq] at h
    obtain ⟨rfl, rfl, rfl⟩ := h
    simp
  | b :: l, d, p, a, d', p', a', h => by
    rw [cntM] at h
    split at h
    · have := cnt_len l _ _ _ _ _ _ h
      simp
      omega
    · split at h
      · have := cnt_len l _ _ _ _ _ _ h
        simp
        omega
      · cases h
theorem real_len {t : List UInt8} (h : numM t = .real) : t.length ≤ 62 ∧ 0 < (unsign t).length := by
  have hu : t.length ≤ (unsign t).length + 1 := by
    cases t with
    | nil => simp
    | cons b l => rw [unsign]; split <;> simp
  unfold numM at h
  split at h
  · cases h
  · rename_i d p a hc
    have := cnt_len _ _ _ _ _ _ _ hc
    split at h
    · cases h
    · split at h
      · cases h
      · omega

def Z242 : Array Value := DBc (List.replicate 800 0) 0 0 false false
set_option maxRecDepth 100000 in
theorem alloc242 (w : World) : (Instr.alloc 242 true (.tuple #[])).run Tryz.prog w = .ok (.pointer (some ⟨w.heap.size, 0, none⟩)) (w.alloc (.cells Z242 242)) := by kernel_rfl
theorem db_new (w : World) : DB (w.alloc (.cells Z242 242)) w.heap.size (List.replicate 800 0) 0 0 false false := ⟨List.length_replicate, Blk.newAt w 242 _ _ rfl⟩

set_option maxRecDepth 100000 in
set_option maxHeartbeats 8000000 in
theorem at_core (fv hi lo : Nat → Nat) (lb lo' lc pb po pc fb fo fc : Nat) (t : List UInt8) (s : RFS) (N : Nat) (neg : Bool) (W0 w : World) (hP : PW fv hi lo lb lo' lc pb po pc fb fo fc W0) (hW : Below W0.heap.size W0 w) (hs : t.length ≤ 62)
    (hsp : ∀ w, Calls Tryz.prog 189 #[S t] w fun e w' => e = .returned (.tuple #[.float .f64 0, .int .i64 0, .bool false]) ∧ w = w')
    (hrf : ∀ w, Calls Tryz.prog 190 #[S t] w fun e w' => e = .returned (RFv s neg t.length) ∧ w = w')
    (hset : ∀ w p, DB w p (List.replicate 800 0) 0 0 false false → Calls Tryz.prog 196 #[.pointer (some ⟨p, 0, none⟩), S t] w fun e w' => e = .returned (.bool true) ∧ (∃ arr', DB w' p arr' (nd N) s.dp neg false ∧ arr'.take (nd N) = dg N) ∧ Only w w' p)
    (hm : s.m < 10000000000000000000) (he : -79 ≤ expF s ∧ expF s ≤ 14) (hd : -60 ≤ s.dp ∧ s.dp ≤ 14) (hN : nd N ≤ 60) (hN0 : s.m ≠ 0 → N ≠ 0) :
    Calls Tryz.prog 151 #[S t] w fun e w' => e = .returned (.tuple #[.float .f64 (cvF fv hi lo s N neg), .int .i64 t.length, .nilIface]) ∧ Below w.heap.size w w' := by
  obtain ⟨m, hm'⟩ : ∃ m, m = s.m := ⟨_, rfl⟩
  obtain ⟨e0, he'⟩ : ∃ e0, e0 = expF s := ⟨_, rfl⟩
  obtain ⟨tr, htr⟩ : ∃ tr, tr = s.tr := ⟨_, rfl⟩
  obtain ⟨d0, hd0⟩ : ∃ d0, d0 = s.dp := ⟨_, rfl⟩
  have hR : RFv s neg t.length = .tuple #[.int .u64 m, .int .i64 e0, .bool neg, .bool tr, .bool false, .int .i64 t.length, .bool true] := by rw [hm', he', htr]; rfl
  obtain ⟨i, hi'⟩ : ∃ i : Nat, i = (e0 + 348).toNat := ⟨_, rfl⟩
  have hC : cvF fv hi lo s N neg = if m = 0 then (sgnI neg).toNat else if tr = false then match exG fv m e0 (f0F m neg) with | some f => f | none => pf64F hi lo m i (sgnI neg)
      else if fEq (pf64F hi lo m i (sgnI neg)) (pf64F hi lo (m + 1) i (sgnI neg)) = true then pf64F hi lo m i (sgnI neg) else (fbF N d0 neg).toNat := by rw [hi', hm', he', htr, hd0]; rfl
  rw [hC]
  rw [hR] at hrf
  rw [← hm'] at hm hN0
  rw [← he'] at he
  rw [← hd0] at hd hset
  have hei : e0 = (i : Int) - 348 := by omega
  have hp1 := fun w' (hB : Below w.heap.size w w') => pf64_any hi lo m i (sgnI neg) W0 w' hP.tab hP.num (by have := hP.h24; omega) (hW.trans (hB.mono hW.size)) (by omega) (by omega)
  have hp2 := fun w' (hB : Below w.heap.size w w') => pf64_any hi lo (m + 1) i (sgnI neg) W0 w' hP.tab hP.num (by have := hP.h24; omega) (hW.trans (hB.mono hW.size)) (by omega) (by omega)
  rw [← hei] at hp1 hp2
  obtain ⟨a1, ha1⟩ : ∃ a1, a1 = pf64F hi lo m i (sgnI neg) := ⟨_, rfl⟩
  obtain ⟨a2, ha2⟩ : ∃ a2, a2 = pf64F hi lo (m + 1) i (sgnI neg) := ⟨_, rfl⟩
  rw [← ha1] at hp1 ⊢
  rw [← ha2] at hp2 ⊢
  have hfp : FP fv fb fo fc w := hP.fp.below hW hP.hfb (by have := hP.h24; omega)
  have hex := exact_any fb fo fc fv m e0 neg w hfp (by omega) (by omega)
  have c9 : w.cell? ⟨9, 0, none⟩ = some (.bool true) := (hW.cell (p := ⟨9, 0, none⟩) (by show 9 < _; have := hP.h24; omega)).trans hP.opt
  have hfi := fun w' (hB : Below w.heap.size w w') => hP.fi.below (hW.trans (hB.mono hW.size)) hP.hlb hP.hpb (by have := hP.h24; omega)
  have hfloat := fun w' p arr' (hB : Below w.heap.size w w') (hp : w.heap.size ≤ p) (hD : DB w' p arr' (nd N) d0 neg false) (hta : arr'.take (nd N) = dg N) (h0 : N ≠ 0) => fb_any p N lb lo' lc pb po pc W0.heap.size arr' d0 neg w' (hfi w' hB) hP.hlb hP.hpb (by have := hP.h24; omega) (Nat.le_trans hW.size hp) (Nat.le_trans hW.size hB.size) hD h0 hN hta hd.1 hd.2
  obtain ⟨u, hu⟩ : ∃ u, u = fbF N d0 neg := ⟨_, rfl⟩
  rw [← hu] at hfloat ⊢
  have hal := alloc242
  have hfb := frombits_run
  have Hsp := Lib.hid hsp
  have Hrf := Lib.hid hrf
  have Hset := Lib.hid hset
  have Hp1 := Lib.hid hp1
  have Hp2 := Lib.hid hp2
  have Hex := Lib.hid hex
  have Hfl := Lib.hid hfloat
  have HN0 := Lib.hid hN0
  have hsl : (ByteArray.mk t.toArray).extract 0 t.length = ⟨t.toArray⟩ := by rw [ByteArray.extract_mk]; simp
  clear hsp hrf hset hp1 hp2 hex hfloat hfi hfp hm' he' htr hd0 hR hi' hC hei ha1 ha2 hu hN0 hP
  have hB0 := Below.refl w.heap.size w
  cases neg with
  | true =>
    have hb2 : b2F true = 1 := rfl
    have hsg : (sgnI true) = 9223372036854775808 := rfl
    rw [hsg] at Hp1 Hp2 ⊢
    have ho : bits BinOp.or IntKind.u64 9223372036854775808 0 = 9223372036854775808 := by rfl
    clear hsg
    by_cases hm0 : m = 0
    · subst hm0
      clear hm he
      go_enter Tryz.func151, Tryz.ntmps151
      go_wp2_with fail
      refine (Hsp.out _).mono ?_
      rintro e w1 ⟨rfl, rfl⟩
      go_wp2_with fail
      refine (Hrf.out _).mono ?_
      rintro e w1 ⟨rfl, rfl⟩
      go_wp2_with fail
      refine (b2u_any _ _).mono ?_
      rintro e w1 ⟨rfl, rfl⟩
      go_wp2_with fail
      refine bodyPost_ret (v := .tuple #[.float .f64 9223372036854775808, .int .i64 t.length, .nilIface]) (by simp [results, Tryz.results151, go_sem]) rfl ?_
      exact ⟨rfl, hB0⟩
    · have tm : ((m : Int) == 0) = false := by rw [beq_eq_false_iff_ne]; omega
      have te1 : decide (310 < e0) = false := by rw [decide_eq_false_iff_not]; omega
      have te2 : decide (e0 < -345) = false := by rw [decide_eq_false_iff_not]; omega
      rw [if_neg hm0]
      have HN := Lib.hid (HN0.out hm0)
      clear hm0 HN0
      cases tr with
      | false =>
        rw [if_pos rfl]
        clear Hp2 hal Hset
        obtain ⟨xo, hxo⟩ : ∃ xo, xo = exG fv m e0 (f0F m true) := ⟨_, rfl⟩
        rw [← hxo]
        have Hxo := Lib.hid hxo
        clear hxo
        obtain ⟨res, hres⟩ : ∃ res, res = (match xo with | some f => f | none => a1) := ⟨_, rfl⟩
        rw [← hres]
        have Hres := Lib.hid hres
        clear hres
        go_enter Tryz.func151, Tryz.ntmps151
        go_wp2_with fail
        refine (Hsp.out _).mono ?_
        rintro e w1 ⟨rfl, rfl⟩
        go_wp2_with fail
        refine (Hrf.out _).mono ?_
        rintro e w1 ⟨rfl, rfl⟩
        go_wp2_with fail
        refine (b2u_any _ _).mono ?_
        rintro e w1 ⟨rfl, rfl⟩
        go_wp2_with fail
        refine Hex.out.mono ?_
        rintro e w1 ⟨⟨f, b, rfl, hx⟩, rfl⟩
        cases b with
        | true =>
          have er : res = f := by rw [Hres.out, Hxo.out, show exG fv m e0 (f0F m true) = some f from hx]
          subst er
          clear hx
          go_wp2_with fail
          refine bodyPost_ret (v := .tuple #[.float .f64 res, .int .i64 t.length, .nilIface]) (by simp [results, Tryz.results151, go_sem]) rfl ?_
          exact ⟨rfl, hB0⟩
        | false =>
          have er : res = a1 := by rw [Hres.out, Hxo.out, show exG fv m e0 (f0F m true) = none from hx]
          subst er
          clear hx
          go_wp2_with fail
          refine (Hp1.out _ hB0).mono ?_
          rintro e w2 ⟨rfl, hB2⟩
          go_wp2_with fail
          refine bodyPost_ret (v := .tuple #[.float .f64 res, .int .i64 t.length, .nilIface]) (by simp [results, Tryz.results151, go_sem]) rfl ?_
          exact ⟨rfl, hB2⟩
      | true =>
        rw [if_neg (by decide)]
        clear Hex
        obtain ⟨res, hres⟩ : ∃ res, res = (if fEq a1 a2 = true then a1 else u.toNat) := ⟨_, rfl⟩
        rw [← hres]
        have Hres := Lib.hid hres
        clear hres
        go_enter Tryz.func151, Tryz.ntmps151
        go_wp2_with fail
        refine (Hsp.out _).mono ?_
        rintro e w1 ⟨rfl, rfl⟩
        go_wp2_with fail
        refine (Hrf.out _).mono ?_
        rintro e w1 ⟨rfl, rfl⟩
        go_wp2_with fail
        refine (b2u_any _ _).mono ?_
        rintro e w1 ⟨rfl, rfl⟩
        go_wp2_with fail
        refine (Hp1.out _ hB0).mono ?_
        rintro e w2 ⟨rfl, hB2⟩
        go_wp2_with fail
        refine (Hp2.out _ hB2).mono ?_
        rintro e w3 ⟨rfl, hB3⟩
        have hB3' := hB2.trans (hB3.mono hB2.size)
        cases hq : fEq a1 a2 with
        | true =>
          have tq : (FloatKind.f64.format.order a1 a2 == some .eq) = true := hq
          have er : res = a1 := by rw [Hres.out, if_pos hq]
          subst er
          clear hq
          go_wp2_with fail
          refine bodyPost_ret (v := .tuple #[.float .f64 res, .int .i64 t.length, .nilIface]) (by simp [results, Tryz.results151, go_sem]) rfl ?_
          exact ⟨rfl, hB3'⟩
        | false =>
          have tq : (FloatKind.f64.format.order a1 a2 == some .eq) = false := hq
          have er : res = u.toNat := by rw [Hres.out, if_neg (by rw [hq]; decide)]
          subst er
          clear hq
          go_wp2_with fail
          refine (Hset.out _ _ (db_new w3)).mono ?_
          rintro e w5 ⟨rfl, ⟨arr5, hD5, hta5⟩, hO5⟩
          have hB4 : Below w.heap.size w (w3.alloc (.cells Z242 242)) := hB3'.alloc hB3'.size _
          have hB5 : Below w.heap.size w w5 := below_only hB4 hO5 hB3'.size (Nat.le_refl _)
          go_wp2_with fail
          refine (Hfl.out _ _ arr5 hB5 hB3'.size hD5 hta5 HN.out).mono ?_
          rintro e w6 ⟨rfl, hO6⟩
          have hB6 : Below w.heap.size w w6 := below_only hB5 hO6 hB3'.size (Nat.le_refl _)
          go_wp2_with fail
          refine bodyPost_ret (v := .tuple #[.float .f64 u.toNat, .int .i64 t.length, .nilIface]) (by simp [results, Tryz.results151, go_sem]) rfl ?_
          exact ⟨rfl, hB6⟩
  | false =>
    have hb2 : b2F false = 0 := rfl
    have hsg : (sgnI false) = 0 := rfl
    rw [hsg] at Hp1 Hp2 ⊢
    have ho : bits BinOp.or IntKind.u64 0 0 = 0 := by rfl
    clear hsg
    by_cases hm0 : m = 0
    · subst hm0
      clear hm he
      go_enter Tryz.func151, Tryz.ntmps151
      go_wp2_with fail
      refine (Hsp.out _).mono ?_
      rintro e w1 ⟨rfl, rfl⟩
      go_wp2_with fail
      refine (Hrf.out _).mono ?_
      rintro e w1 ⟨rfl, rfl⟩
      go_wp2_with fail
      refine (b2u_any _ _).mono ?_
      rintro e w1 ⟨rfl, rfl⟩
      go_wp2_with fail
      refine bodyPost_ret (v := .tuple #[.float .f64 0, .int .i64 t.length, .nilIface]) (by simp [results, Tryz.results151, go_sem]) rfl ?_
      exact ⟨rfl, hB0⟩
    · have tm : ((m : Int) == 0) = false := by rw [beq_eq_false_iff_ne]; omega
      have te1 : decide (310 < e0) = false := by rw [decide_eq_false_iff_not]; omega
      have te2 : decide (e0 < -345) = false := by rw [decide_eq_false_iff_not]; omega
      rw [if_neg hm0]
      have HN := Lib.hid (HN0.out hm0)
      clear hm0 HN0
      cases tr with
      | false =>
        rw [if_pos rfl]
        clear Hp2 hal Hset
        obtain ⟨xo, hxo⟩ : ∃ xo, xo = exG fv m e0 (f0F m false) := ⟨_, rfl⟩
        rw [← hxo]
        have Hxo := Lib.hid hxo
        clear hxo
        obtain ⟨res, hres⟩ : ∃ res, res = (match xo with | some f => f | none => a1) := ⟨_, rfl⟩
        rw [← hres]
        have Hres := Lib.hid hres
        clear hres
        go_enter Tryz.func151, Tryz.ntmps151
        go_wp2_with fail
        refine (Hsp.out _).mono ?_
        rintro e w1 ⟨rfl, rfl⟩
        go_wp2_with fail
        refine (Hrf.out _).mono ?_
        rintro e w1 ⟨rfl, rfl⟩
        go_wp2_with fail
        refine (b2u_any _ _).mono ?_
        rintro e w1 ⟨rfl, rfl⟩
        go_wp2_with fail
        refine Hex.out.mono ?_
        rintro e w1 ⟨⟨f, b, rfl, hx⟩, rfl⟩
        cases b with
        | true =>
          have er : res = f := by rw [Hres.out, Hxo.out, show exG fv m e0 (f0F m false) = some f from hx]
          subst er
          clear hx
          go_wp2_with fail
          refine bodyPost_ret (v := .tuple #[.float .f64 res, .int .i64 t.length, .nilIface]) (by simp [results, Tryz.results151, go_sem]) rfl ?_
          exact ⟨rfl, hB0⟩
        | false =>
          have er : res = a1 := by rw [Hres.out, Hxo.out, show exG fv m e0 (f0F m false) = none from hx]
          subst er
          clear hx
          go_wp2_with fail
          refine (Hp1.out _ hB0).mono ?_
          rintro e w2 ⟨rfl, hB2⟩
          go_wp2_with fail
          refine bodyPost_ret (v := .tuple #[.float .f64 res, .int .i64 t.length, .nilIface]) (by simp [results, Tryz.results151, go_sem]) rfl ?_
          exact ⟨rfl, hB2⟩
      | true =>
        rw [if_neg (by decide)]
        clear Hex
        obtain ⟨res, hres⟩ : ∃ res, res = (if fEq a1 a2 = true then a1 else u.toNat) := ⟨_, rfl⟩
        rw [← hres]
        have Hres := Lib.hid hres
        clear hres
        go_enter Tryz.func151, Tryz.ntmps151
        go_wp2_with fail
        refine (Hsp.out _).mono ?_
        rintro e w1 ⟨rfl, rfl⟩
        go_wp2_with fail
        refine (Hrf.out _).mono ?_
        rintro e w1 ⟨rfl, rfl⟩
        go_wp2_with fail
        refine (b2u_any _ _).mono ?_
        rintro e w1 ⟨rfl, rfl⟩
        go_wp2_with fail
        refine (Hp1.out _ hB0).mono ?_
        rintro e w2 ⟨rfl, hB2⟩
        go_wp2_with fail
        refine (Hp2.out _ hB2).mono ?_
        rintro e w3 ⟨rfl, hB3⟩
        have hB3' := hB2.trans (hB3.mono hB2.size)
        cases hq : fEq a1 a2 with
        | true =>
          have tq : (FloatKind.f64.format.order a1 a2 == some .eq) = true := hq
          have er : res = a1 := by rw [Hres.out, if_pos hq]
          subst er
          clear hq
          go_wp2_with fail
          refine bodyPost_ret (v := .tuple #[.float .f64 res, .int .i64 t.length, .nilIface]) (by simp [results, Tryz.results151, go_sem]) rfl ?_
          exact ⟨rfl, hB3'⟩
        | false =>
          have tq : (FloatKind.f64.format.order a1 a2 == some .eq) = false := hq
          have er : res = u.toNat := by rw [Hres.out, if_neg (by rw [hq]; decide)]
          subst er
          clear hq
          go_wp2_with fail
          refine (Hset.out _ _ (db_new w3)).mono ?_
          rintro e w5 ⟨rfl, ⟨arr5, hD5, hta5⟩, hO5⟩
          have hB4 : Below w.heap.size w (w3.alloc (.cells Z242 242)) := hB3'.alloc hB3'.size _
          have hB5 : Below w.heap.size w w5 := below_only hB4 hO5 hB3'.size (Nat.le_refl _)
          go_wp2_with fail
          refine (Hfl.out _ _ arr5 hB5 hB3'.size hD5 hta5 HN.out).mono ?_
          rintro e w6 ⟨rfl, hO6⟩
          have hB6 : Below w.heap.size w w6 := below_only hB5 hO6 hB3'.size (Nat.le_refl _)
          go_wp2_with fail
          refine bodyPost_ret (v := .tuple #[.float .f64 u.toNat, .int .i64 t.length, .nilIface]) (by simp [results, Tryz.results151, go_sem]) rfl ?_
          exact ⟨rfl, hB6⟩
end Go.Proofs.YtcpijmbdibgdmaaGreatDoor

namespace Go.Proofs.YtcpijmbdibgdmaaGreatDoor
open Go.RowKit

theorem Tryz.size195 : (Tryz.prog.info? 195).map (·.size) = some 2 := by kernel_rfl
theorem Tryz.lies195 : liesAt Tryz.prog Tryz.prog.depth 195 (2 / Tryz.prog.cellsOf 195) 0 195 1 = true := by kernel_rfl

set_option maxHeartbeats 1000000 in
set_option maxRecDepth 100000 in
theorem copyCheck_used (b : Nat) (w : World) (h0 : w.cell? ⟨b, 0, none⟩ = some (.pointer (some ⟨b, 0, none⟩))) :
    Calls Tryz.prog 166 #[.pointer (some ⟨b, 0, none⟩)] w fun e w' => e = .returned (.tuple #[]) ∧ w' = w := by
  obtain ⟨j, hj, _⟩ := Option.map_eq_some_iff.1 Tryz.size195
  go_enter Tryz.func166, Tryz.ntmps166
  go_wp2
  rw [Lib.run_neq_ptr_same w _ Tryz.underlying193 hj]
  go_wp2
  go_end0
  exact ⟨rfl, rfl⟩

set_option maxHeartbeats 1000000 in
set_option maxRecDepth 100000 in
theorem copyCheck_fresh (b : Nat) (w : World) (h0 : w.cell? ⟨b, 0, none⟩ = some (.pointer none)) (hsh : w.shape? b = some (195, 2)) (hfz : w.frozen? ⟨b, 0, none⟩ = false) :
    Calls Tryz.prog 166 #[.pointer (some ⟨b, 0, none⟩)] w fun e w' => e = .returned (.tuple #[]) ∧ w' = w.setCell ⟨b, 0, none⟩ (.pointer (some ⟨b, 0, none⟩)) := by
  obtain ⟨j, hj, hjs⟩ := Option.map_eq_some_iff.1 Tryz.size195
  go_enter Tryz.func166, Tryz.ntmps166
  go_wp2
  rw [Lib.run_to_unsafe w ⟨b, 0, none⟩ Tryz.underlying193 Tryz.underlying300 hj (by rw [hjs]; decide) hsh (Nat.zero_lt_succ 1)]
  simp only [Result.andThen]
  rw [Oper.upon_value]
  go_wp2
  rw [run_callFunc_extern Tryz.func220 (by kernel_rfl) (by kernel_rfl) (by kernel_rfl) (e := Extern.AbiNoEscape.same) (by kernel_rfl)]
  rw [Lib.run_noEscape]
  simp only [Result.andThen]
  rw [Oper.upon_value]
  go_wp2
  rw [Lib.run_from_unsafe w ⟨b, 0, none⟩ Tryz.underlying300 Tryz.underlying193 hj hsh Tryz.lies195]
  simp only [Result.andThen]
  rw [Oper.upon_value]
  go_wp2
  go_end0
  exact ⟨rfl, rfl⟩
theorem copyCheck_any (B b : Nat) (bs : List Value) (w : World) (h : Lib.IsBuilder 195 5 B b bs w) :
    Calls Tryz.prog 166 #[.pointer (some ⟨b, 0, none⟩)] w fun e w' => e = .returned (.tuple #[]) ∧ (Lib.BuilderAt 195 5 B b (.pointer (some ⟨b, 0, none⟩)) bs w' ∧ Below B w w') := by
  rcases h with h | h
  · refine (copyCheck_fresh b w h.cell0 h.shape h.frozen0).mono ?_
    rintro e w' ⟨rfl, rfl⟩
    exact ⟨rfl, h.used _, (Below.refl B w).setCell (p := ⟨b, 0, none⟩) h.1 _⟩
  · refine (copyCheck_used b w h.cell0).mono ?_
    rintro e w' ⟨rfl, rfl⟩
    exact ⟨rfl, h, Below.refl B _⟩

set_option maxHeartbeats 2000000 in
set_option maxRecDepth 100000 in
theorem writeByte_any (B b : Nat) (bs : List Value) (c : Int) (w : World) (h : Lib.IsBuilder 195 5 B b bs w) (hlen : bs.length + 1 ≤ 140737488355328) (hBw : B ≤ w.heap.size) :
    Calls Tryz.prog 124 #[.pointer (some ⟨b, 0, none⟩), .int .u8 c] w fun e w' => e = .returned .nilIface ∧ (Lib.BuilderAt 195 5 B b (.pointer (some ⟨b, 0, none⟩)) (bs ++ [.int .u8 c]) w' ∧ Below B w w') := by
  obtain ⟨i0, hi, hz0, hz1, hz2⟩ := info_parts Tryz.info5
  go_enter Tryz.func124, Tryz.ntmps124
  go_wp2_with (go_at_call 166; refine (copyCheck_any B b bs _ h).mono ?_)
  rintro e w1 ⟨rfl, h1, hb1⟩
  obtain ⟨hB, v, hbk, hown, hne⟩ := h1
  have c0 : w1.cell? ⟨b, 0, none⟩ = some (.pointer (some ⟨b, 0, none⟩)) := by rw [Lib.cell_of_heap hbk]; rfl
  have c1 : w1.cell? ⟨b, 1, none⟩ = some v := by rw [Lib.cell_of_heap hbk]; rfl
  go_wp2_with (at_builtin; refine wpList_append_own _ rfl _ _ 40 rfl B 5 i0 (.int .u8 0) 1 1 Tryz.underlying40 hi hz0 hz1 hz2 rfl (by decide) _ _ _ rfl (hown.alloc _) ⟨w1.heap.size, 0, none⟩ 1 1 [.int .u8 c] rfl rfl ?c1 ?c2 ?c3 ?c4 ?c5 ?_)
  case c1 =>
    intro j u hj
    match j, hj with
    | 0, hj => simp at hj; subst hj; simp [Addr.add]
  case c2 => intro u hu; simp at hu; subst hu; rfl
  case c3 => unfold maxLen; omega
  case c4 => omega
  case c5 => have := hb1.size; simp; omega
  intro v' w2 hown' hgrow _
  have hlt : b < w1.heap.size := by
    rcases Nat.lt_or_ge b w1.heap.size with h' | h'
    · exact h'
    · simp [Array.getElem?_eq_none h'] at hbk
  have hb2 : w2.heap[b]? = some (.cells #[.pointer (some ⟨b, 0, none⟩), v] 195 (0, 0)) := by
    rw [hgrow.block b (by simp; omega) (fun e => hne e.symm), Lib.alloc_old w1 _ b hlt]
    exact hbk
  have d0 : w2.cell? ⟨b, 0, none⟩ = some (.pointer (some ⟨b, 0, none⟩)) := by rw [Lib.cell_of_heap hb2]; rfl
  have d1 : w2.cell? ⟨b, 1, none⟩ = some v := by rw [Lib.cell_of_heap hb2]; rfl
  have f1 : w2.frozen? ⟨b, 1, none⟩ = false := Lib.frozen_of_heap hb2 1
  obtain ⟨g, cap, rfl⟩ : ∃ g cap, v' = .slice (some ⟨g, 0, none⟩) (bs.length + 1) cap := by
    rcases hown'.2 with ⟨_, h0⟩ | ⟨g, cap, cur, hv, _⟩
    · omega
    · exact ⟨g, cap, hv⟩
  go_wp2
  go_ret
  refine ⟨rfl, ?_, ?_⟩
  · exact Lib.BuilderAt.put (T := 195) (e := 5) hB hb2 (bs' := bs ++ [.int .u8 c]) (by simpa using hown') (by decide)
  · exact ((hb1.alloc (by have := hb1.size; omega) _).grown hgrow (by have := hb1.size; simp; omega) (fun k hk => (hown.lt k hk).1)).setCell (p := ⟨b, 1, none⟩) hB _

set_option maxHeartbeats 2000000 in
set_option maxRecDepth 100000 in
theorem writeString_any (B b : Nat) (bs : List Value) (s : ByteArray) (w : World) (h : Lib.IsBuilder 195 5 B b bs w) (hlen : bs.length + s.size ≤ 140737488355328) (hBw : B ≤ w.heap.size) :
    Calls Tryz.prog 126 #[.pointer (some ⟨b, 0, none⟩), .string s] w fun e w' => e = .returned (.tuple #[.int .i64 s.size, .nilIface]) ∧ (Lib.BuilderAt 195 5 B b (.pointer (some ⟨b, 0, none⟩)) (bs ++ Lib.strCells s) w' ∧ Below B w w') := by
  obtain ⟨i0, hi, hz0, hz1, hz2⟩ := info_parts Tryz.info5
  go_enter Tryz.func126, Tryz.ntmps126
  go_wp2_with (go_at_call 166; refine (copyCheck_any B b bs _ h).mono ?_)
  rintro e w1 ⟨rfl, h1, hb1⟩
  obtain ⟨hB, v, hbk, hown, hne⟩ := h1
  have c0 : w1.cell? ⟨b, 0, none⟩ = some (.pointer (some ⟨b, 0, none⟩)) := by rw [Lib.cell_of_heap hbk]; rfl
  have c1 : w1.cell? ⟨b, 1, none⟩ = some v := by rw [Lib.cell_of_heap hbk]; rfl
  go_wp2_with (at_builtin; refine Lib.wpList_append_own_string _ rfl _ _ 40 9 rfl B 5 i0 Tryz.underlying40 Tryz.underlying9 hi hz0 hz1 hz2 _ _ _ rfl hown s rfl ?c3 ?c4 ?c5 ?_)
  case c3 => unfold maxLen; omega
  case c4 => omega
  case c5 => have := hb1.size; omega
  intro v' w2 hown' hgrow _
  have hlt : b < w1.heap.size := by
    rcases Nat.lt_or_ge b w1.heap.size with h' | h'
    · exact h'
    · simp [Array.getElem?_eq_none h'] at hbk
  have hb2 : w2.heap[b]? = some (.cells #[.pointer (some ⟨b, 0, none⟩), v] 195 (0, 0)) := by
    rw [hgrow.block b hlt (fun e => hne e.symm)]
    exact hbk
  have d0 : w2.cell? ⟨b, 0, none⟩ = some (.pointer (some ⟨b, 0, none⟩)) := by rw [Lib.cell_of_heap hb2]; rfl
  have d1 : w2.cell? ⟨b, 1, none⟩ = some v := by rw [Lib.cell_of_heap hb2]; rfl
  have f1 : w2.frozen? ⟨b, 1, none⟩ = false := Lib.frozen_of_heap hb2 1
  obtain ⟨ao, n', cap, rfl⟩ : ∃ ao n' cap, v' = .slice ao n' cap := by
    rcases hown'.2 with ⟨hv, _⟩ | ⟨g, cap, cur, hv, _⟩
    · exact ⟨_, _, _, hv⟩
    · exact ⟨_, _, _, hv⟩
  go_wp2
  go_ret2
  refine ⟨rfl, ?_, ?_⟩
  · exact Lib.BuilderAt.put (T := 195) (e := 5) hB hb2 (bs' := bs ++ Lib.strCells s) (by simpa [Lib.strCells_length] using hown') (by decide)
  · exact (hb1.grown hgrow (by have := hb1.size; omega) (fun k hk => (hown.lt k hk).1)).setCell (p := ⟨b, 1, none⟩) hB _
set_option maxHeartbeats 2000000 in
set_option maxRecDepth 100000 in
/-- One byte, out of a slice of one. -/
theorem write_one (B b : Nat) (bs : List Value) (g0 cap0 : Nat) (c : Int) (w : World) (h : Lib.IsBuilder 195 5 B b bs w) (hlen : bs.length + 1 ≤ 140737488355328) (hBw : B ≤ w.heap.size) (hsrc : w.cell? ⟨g0, 0, none⟩ = some (.int .u8 c)) (hgb : g0 ≠ b) :
    Calls Tryz.prog 127 #[.pointer (some ⟨b, 0, none⟩), .slice (some ⟨g0, 0, none⟩) 1 cap0] w fun e w' => e = .returned (.tuple #[.int .i64 1, .nilIface]) ∧ (Lib.BuilderAt 195 5 B b (.pointer (some ⟨b, 0, none⟩)) (bs ++ [.int .u8 c]) w' ∧ Below B w w') := by
  obtain ⟨i0, hi, hz0, hz1, hz2⟩ := info_parts Tryz.info5
  have hcc : Calls Tryz.prog 166 #[.pointer (some ⟨b, 0, none⟩)] w fun e w' => e = .returned (.tuple #[]) ∧ (Lib.BuilderAt 195 5 B b (.pointer (some ⟨b, 0, none⟩)) bs w' ∧ Below B w w') ∧ w'.cell? ⟨g0, 0, none⟩ = some (.int .u8 c) := by
    rcases h with h | h
    · refine (copyCheck_fresh b w h.cell0 h.shape h.frozen0).mono ?_
      rintro e w' ⟨rfl, rfl⟩
      refine ⟨rfl, ⟨h.used _, (Below.refl B w).setCell (p := ⟨b, 0, none⟩) h.1 _⟩, ?_⟩
      rw [World.cell?_setCell_other _ _ _ _ (by intro e; simp only [Addr.mk.injEq] at e; omega)]
      exact hsrc
    · refine (copyCheck_used b w h.cell0).mono ?_
      rintro e w' ⟨rfl, rfl⟩
      exact ⟨rfl, ⟨h, Below.refl B _⟩, hsrc⟩
  go_enter Tryz.func127, Tryz.ntmps127
  go_wp2_with (go_at_call 166; refine hcc.mono ?_)
  rintro e w1 ⟨rfl, ⟨h1, hb1⟩, hsrc1⟩
  obtain ⟨hB, v, hbk, hown, hne⟩ := h1
  have c0 : w1.cell? ⟨b, 0, none⟩ = some (.pointer (some ⟨b, 0, none⟩)) := by rw [Lib.cell_of_heap hbk]; rfl
  have c1 : w1.cell? ⟨b, 1, none⟩ = some v := by rw [Lib.cell_of_heap hbk]; rfl
  go_wp2_with (at_builtin; refine wpList_append_own _ rfl _ _ 40 rfl B 5 i0 (.int .u8 0) 1 1 Tryz.underlying40 hi hz0 hz1 hz2 rfl (by decide) _ _ _ rfl hown ⟨g0, 0, none⟩ 1 cap0 [.int .u8 c] rfl rfl ?c1 ?c2 ?c3 ?c4 ?c5 ?_)
  case c1 =>
    intro j u hj
    match j, hj with
    | 0, hj => simp at hj; subst hj; simpa [Addr.add] using hsrc1
  case c2 => intro u hu; simp at hu; subst hu; rfl
  case c3 => unfold maxLen; omega
  case c4 => omega
  case c5 => have := hb1.size; omega
  intro v' w2 hown' hgrow _
  have hlt : b < w1.heap.size := by
    rcases Nat.lt_or_ge b w1.heap.size with h' | h'
    · exact h'
    · simp [Array.getElem?_eq_none h'] at hbk
  have hb2 : w2.heap[b]? = some (.cells #[.pointer (some ⟨b, 0, none⟩), v] 195 (0, 0)) := by
    rw [hgrow.block b hlt (fun e => hne e.symm)]
    exact hbk
  have d0 : w2.cell? ⟨b, 0, none⟩ = some (.pointer (some ⟨b, 0, none⟩)) := by rw [Lib.cell_of_heap hb2]; rfl
  have d1 : w2.cell? ⟨b, 1, none⟩ = some v := by rw [Lib.cell_of_heap hb2]; rfl
  have f1 : w2.frozen? ⟨b, 1, none⟩ = false := Lib.frozen_of_heap hb2 1
  obtain ⟨g, cap, rfl⟩ : ∃ g cap, v' = .slice (some ⟨g, 0, none⟩) (bs.length + 1) cap := by
    rcases hown'.2 with ⟨_, h0⟩ | ⟨g, cap, cur, hv, _⟩
    · omega
    · exact ⟨g, cap, hv⟩
  go_wp2
  go_ret2
  refine ⟨rfl, ?_, ?_⟩
  · exact Lib.BuilderAt.put (T := 195) (e := 5) hB hb2 (bs' := bs ++ [.int .u8 c]) (by simpa using hown') (by decide)
  · exact (hb1.grown hgrow (by have := hb1.size; omega) (fun k hk => (hown.lt k hk).1)).setCell (p := ⟨b, 1, none⟩) hB _

set_option maxHeartbeats 4000000 in
set_option maxRecDepth 100000 in
theorem appendRune_ascii (B : Nat) (v : Value) (n : Nat) (xs : List Value) (r : Int) (h0 : 0 ≤ r) (h1 : r ≤ 127) (w : World) (hown : w.ownsRow B 5 1 v n xs) (hlen : n + 4 ≤ 140737488355328) (hBw : B ≤ w.heap.size) :
    Calls Tryz.prog 246 #[v, .int .i32 r] w fun e w' => ∃ v', e = .returned v' ∧ w'.ownsRow B 5 1 v' (n + 1) (xs ++ [.int .u8 r]) ∧ ∃ o, (w.alloc o).grownBy w' v.ownBlock := by
  obtain ⟨i0, hi, hz0, hz1, hz2⟩ := info_parts Tryz.info5
  go_enter Tryz.func246, Tryz.ntmps246
  go_wp2_with (at_builtin; refine wpList_append_own _ rfl _ _ 40 rfl B 5 i0 (.int .u8 0) 1 1 Tryz.underlying40 hi hz0 hz1 hz2 rfl (by decide) _ _ _ rfl (hown.alloc _) ⟨w.heap.size, 0, none⟩ 1 1 [.int .u8 r] rfl rfl ?c1 ?c2 ?c3 ?c4 ?c5 ?_)
  all_goals first
    | (intro v' w2 hown' hgrow _; go_wp2; go_ret; exact ⟨_, rfl, hown', _, hgrow⟩)
    | (unfold maxLen; omega)
    | omega
    | (simp; omega)
    | rfl
    | (intro u hu; simp at hu; subst hu; rfl)
    | (intro j u hj
       match j, hj with
       | 0, hj => simp at hj; subst hj; simp [Addr.add]
       | (j + 1), hj => simp at hj)

set_option maxHeartbeats 4000000 in
set_option maxRecDepth 100000 in
theorem writeRune_ascii (B b : Nat) (bs : List Value) (r : Int) (h0 : 0 ≤ r) (h1 : r ≤ 127) (w : World) (h : Lib.IsBuilder 195 5 B b bs w) (hlen : bs.length + 4 ≤ 140737488355328) (hBw : B ≤ w.heap.size) :
    Calls Tryz.prog 233 #[.pointer (some ⟨b, 0, none⟩), .int .i32 r] w fun e w' => e = .returned (.tuple #[.int .i64 1, .nilIface]) ∧ (Lib.BuilderAt 195 5 B b (.pointer (some ⟨b, 0, none⟩)) (bs ++ [.int .u8 r]) w' ∧ Below B w w') := by
  go_enter Tryz.func233, Tryz.ntmps233
  go_wp2_with (go_at_call 166; refine (copyCheck_any B b bs _ h).mono ?_)
  rintro e w1 ⟨rfl, h1', hb1⟩
  obtain ⟨hB, v, hbk, hown, hne⟩ := h1'
  obtain ⟨ao, cap, rfl⟩ : ∃ ao cap, v = .slice ao bs.length cap := by
    rcases hown.2 with ⟨hv, h0⟩ | ⟨g, cap, cur, hv, _⟩
    · exact ⟨none, 0, by rw [hv, h0]⟩
    · exact ⟨_, _, hv⟩
  have c0 : w1.cell? ⟨b, 0, none⟩ = some (.pointer (some ⟨b, 0, none⟩)) := by rw [Lib.cell_of_heap hbk]; rfl
  have c1 : w1.cell? ⟨b, 1, none⟩ = some (.slice ao bs.length cap) := by rw [Lib.cell_of_heap hbk]; rfl
  go_wp2_with (go_at_call 246; refine (appendRune_ascii B _ bs.length bs r h0 h1 _ hown hlen (by have := hb1.size; omega)).mono ?_)
  rintro e w2 ⟨v', rfl, hown', o, hgrow⟩
  have hlt : b < w1.heap.size := by
    rcases Nat.lt_or_ge b w1.heap.size with h' | h'
    · exact h'
    · simp [Array.getElem?_eq_none h'] at hbk
  have hb2 : w2.heap[b]? = some (.cells #[.pointer (some ⟨b, 0, none⟩), .slice ao bs.length cap] 195 (0, 0)) := by
    rw [hgrow.block b (by simp; omega) (fun e => hne e.symm), Lib.alloc_old w1 _ b hlt]
    exact hbk
  have d0 : w2.cell? ⟨b, 0, none⟩ = some (.pointer (some ⟨b, 0, none⟩)) := by rw [Lib.cell_of_heap hb2]; rfl
  have d1 : w2.cell? ⟨b, 1, none⟩ = some (.slice ao bs.length cap) := by rw [Lib.cell_of_heap hb2]; rfl
  have f1 : w2.frozen? ⟨b, 1, none⟩ = false := Lib.frozen_of_heap hb2 1
  obtain ⟨g, cap', rfl⟩ : ∃ g cap, v' = .slice (some ⟨g, 0, none⟩) (bs.length + 1) cap := by
    rcases hown'.2 with ⟨_, h0⟩ | ⟨g, cap, cur, hv, _⟩
    · omega
    · exact ⟨g, cap, hv⟩
  have hd : ((bs.length + 1 : Nat) : Int) - (bs.length : Int) = 1 := by omega
  go_wp2
  go_ret2
  refine ⟨?_, ?_, ?_⟩
  · show Ending.returned (.tuple #[.int .i64 ((bs.length : Int) + 1 - (bs.length : Int)), .nilIface]) = _
    rw [show ((bs.length : Int) + 1 - (bs.length : Int)) = 1 by omega]
  · exact Lib.BuilderAt.put (T := 195) (e := 5) hB hb2 (bs' := bs ++ [.int .u8 r]) (by simpa using hown') (by decide)
  · exact ((hb1.alloc (by have := hb1.size; omega) _).grown hgrow (by have := hb1.size; simp; omega) (fun k hk => (hown.lt k hk).1)).setCell (p := ⟨b, 1, none⟩) hB _
end Go.Proofs.YtcpijmbdibgdmaaGreatDoor

namespace Go.Proofs.YtcpijmbdibgdmaaGreatDoor
open Go.RowKit

/-- What is not block b and no row of bytes stays as it was. -/
def Keep5 (b : Nat) (w w' : World) : Prop := ∀ i, i < w.heap.size → i ≠ b → (∀ c fz, w.heap[i]? ≠ some (.cells c 5 fz)) → w'.heap[i]? = w.heap[i]?
theorem Keep5.trans {b : Nat} {w w1 w2 : World} (h : Keep5 b w w1) (hs : w.heap.size ≤ w1.heap.size) (k : Keep5 b w1 w2) : Keep5 b w w2 := fun i hi hb hc => by
  have h1 := h i hi hb hc
  exact (k i (by omega) hb (fun c fz => by rw [h1]; exact hc c fz)).trans h1
theorem own_kind {w : World} {B n : Nat} {v : Value} {xs : List Value} (h : w.ownsRow B 5 1 v n xs) : ∀ g, v.ownBlock = some g → ∃ c, w.heap[g]? = some (.cells c 5 (0, 0)) := by
  intro g hg
  rcases h.2 with ⟨rfl, _⟩ | ⟨g', cap, cur, rfl, _, hgg, _⟩
  · simp [Value.ownBlock] at hg
  · simp [Value.ownBlock] at hg
    subst hg
    exact ⟨cur, hgg⟩
theorem copyCheck_keep (B b : Nat) (bs : List Value) (w : World) (h : Lib.IsBuilder 195 5 B b bs w) :
    Calls Tryz.prog 166 #[.pointer (some ⟨b, 0, none⟩)] w fun e w' => e = .returned (.tuple #[]) ∧ (Lib.BuilderAt 195 5 B b (.pointer (some ⟨b, 0, none⟩)) bs w' ∧ Below B w w' ∧ Keep5 b w w') := by
  rcases h with h | h
  · refine (copyCheck_fresh b w h.cell0 h.shape h.frozen0).mono ?_
    rintro e w' ⟨rfl, rfl⟩
    exact ⟨rfl, h.used _, (Below.refl B w).setCell (p := ⟨b, 0, none⟩) h.1 _, fun i _ hb _ => Below.heap_setCell _ _ _ _ (by simp only; omega)⟩
  · refine (copyCheck_used b w h.cell0).mono ?_
    rintro e w' ⟨rfl, rfl⟩
    exact ⟨rfl, h, Below.refl B _, fun i _ _ _ => rfl⟩

set_option maxHeartbeats 2000000 in
set_option maxRecDepth 100000 in
theorem writeString_keep (B b : Nat) (bs : List Value) (s : ByteArray) (w : World) (h : Lib.IsBuilder 195 5 B b bs w) (hlen : bs.length + s.size ≤ 140737488355328) (hBw : B ≤ w.heap.size) :
    Calls Tryz.prog 126 #[.pointer (some ⟨b, 0, none⟩), .string s] w fun e w' => e = .returned (.tuple #[.int .i64 s.size, .nilIface]) ∧ (Lib.BuilderAt 195 5 B b (.pointer (some ⟨b, 0, none⟩)) (bs ++ Lib.strCells s) w' ∧ Below B w w' ∧ Keep5 b w w') := by
  obtain ⟨i0, hi, hz0, hz1, hz2⟩ := info_parts Tryz.info5
  go_enter Tryz.func126, Tryz.ntmps126
  go_wp2_with (go_at_call 166; refine (copyCheck_keep B b bs _ h).mono ?_)
  rintro e w1 ⟨rfl, h1, hb1, hk1⟩
  obtain ⟨hB, v, hbk, hown, hne⟩ := h1
  have c0 : w1.cell? ⟨b, 0, none⟩ = some (.pointer (some ⟨b, 0, none⟩)) := by rw [Lib.cell_of_heap hbk]; rfl
  have c1 : w1.cell? ⟨b, 1, none⟩ = some v := by rw [Lib.cell_of_heap hbk]; rfl
  go_wp2_with (at_builtin; refine Lib.wpList_append_own_string _ rfl _ _ 40 9 rfl B 5 i0 Tryz.underlying40 Tryz.underlying9 hi hz0 hz1 hz2 _ _ _ rfl hown s rfl ?c3 ?c4 ?c5 ?_)
  case c3 => unfold maxLen; omega
  case c4 => omega
  case c5 => have := hb1.size; omega
  intro v' w2 hown' hgrow _
  have hlt : b < w1.heap.size := by
    rcases Nat.lt_or_ge b w1.heap.size with h' | h'
    · exact h'
    · simp [Array.getElem?_eq_none h'] at hbk
  have hb2 : w2.heap[b]? = some (.cells #[.pointer (some ⟨b, 0, none⟩), v] 195 (0, 0)) := by
    rw [hgrow.block b hlt (fun e => hne e.symm)]
    exact hbk
  have d0 : w2.cell? ⟨b, 0, none⟩ = some (.pointer (some ⟨b, 0, none⟩)) := by rw [Lib.cell_of_heap hb2]; rfl
  have d1 : w2.cell? ⟨b, 1, none⟩ = some v := by rw [Lib.cell_of_heap hb2]; rfl
  have f1 : w2.frozen? ⟨b, 1, none⟩ = false := Lib.frozen_of_heap hb2 1
  obtain ⟨ao, n', cap, rfl⟩ : ∃ ao n' cap, v' = .slice ao n' cap := by
    rcases hown'.2 with ⟨hv, _⟩ | ⟨g, cap, cur, hv, _⟩
    · exact ⟨_, _, _, hv⟩
    · exact ⟨_, _, _, hv⟩
  go_wp2
  go_ret2
  refine ⟨rfl, ?_, ?_, ?_⟩
  · exact Lib.BuilderAt.put (T := 195) (e := 5) hB hb2 (bs' := bs ++ Lib.strCells s) (by simpa [Lib.strCells_length] using hown') (by decide)
  · exact (hb1.grown hgrow (by have := hb1.size; omega) (fun k hk => (hown.lt k hk).1)).setCell (p := ⟨b, 1, none⟩) hB _
  · refine Keep5.trans hk1 hb1.size (fun i hi hib hic => (Below.heap_setCell _ _ _ _ (by simp only; omega)).trans (hgrow.block i hi (fun e => by obtain ⟨c, hc⟩ := own_kind hown i e.symm; exact hic _ _ hc)))

set_option maxHeartbeats 4000000 in
set_option maxRecDepth 100000 in
theorem writeRune_keep (B b : Nat) (bs : List Value) (r : Int) (h0 : 0 ≤ r) (h1 : r ≤ 127) (w : World) (h : Lib.IsBuilder 195 5 B b bs w) (hlen : bs.length + 4 ≤ 140737488355328) (hBw : B ≤ w.heap.size) :
    Calls Tryz.prog 233 #[.pointer (some ⟨b, 0, none⟩), .int .i32 r] w fun e w' => e = .returned (.tuple #[.int .i64 1, .nilIface]) ∧ (Lib.BuilderAt 195 5 B b (.pointer (some ⟨b, 0, none⟩)) (bs ++ [.int .u8 r]) w' ∧ Below B w w' ∧ Keep5 b w w') := by
  go_enter Tryz.func233, Tryz.ntmps233
  go_wp2_with (go_at_call 166; refine (copyCheck_keep B b bs _ h).mono ?_)
  rintro e w1 ⟨rfl, h1', hb1, hk1⟩
  obtain ⟨hB, v, hbk, hown, hne⟩ := h1'
  obtain ⟨ao, cap, rfl⟩ : ∃ ao cap, v = .slice ao bs.length cap := by
    rcases hown.2 with ⟨hv, h0⟩ | ⟨g, cap, cur, hv, _⟩
    · exact ⟨none, 0, by rw [hv, h0]⟩
    · exact ⟨_, _, hv⟩
  have c0 : w1.cell? ⟨b, 0, none⟩ = some (.pointer (some ⟨b, 0, none⟩)) := by rw [Lib.cell_of_heap hbk]; rfl
  have c1 : w1.cell? ⟨b, 1, none⟩ = some (.slice ao bs.length cap) := by rw [Lib.cell_of_heap hbk]; rfl
  go_wp2_with (go_at_call 246; refine (appendRune_ascii B _ bs.length bs r h0 h1 _ hown hlen (by have := hb1.size; omega)).mono ?_)
  rintro e w2 ⟨v', rfl, hown', o, hgrow⟩
  have hlt : b < w1.heap.size := by
    rcases Nat.lt_or_ge b w1.heap.size with h' | h'
    · exact h'
    · simp [Array.getElem?_eq_none h'] at hbk
  have hb2 : w2.heap[b]? = some (.cells #[.pointer (some ⟨b, 0, none⟩), .slice ao bs.length cap] 195 (0, 0)) := by
    rw [hgrow.block b (by simp; omega) (fun e => hne e.symm), Lib.alloc_old w1 _ b hlt]
    exact hbk
  have d0 : w2.cell? ⟨b, 0, none⟩ = some (.pointer (some ⟨b, 0, none⟩)) := by rw [Lib.cell_of_heap hb2]; rfl
  have d1 : w2.cell? ⟨b, 1, none⟩ = some (.slice ao bs.length cap) := by rw [Lib.cell_of_heap hb2]; rfl
  have f1 : w2.frozen? ⟨b, 1, none⟩ = false := Lib.frozen_of_heap hb2 1
  obtain ⟨g, cap', rfl⟩ : ∃ g cap, v' = .slice (some ⟨g, 0, none⟩) (bs.length + 1) cap := by
    rcases hown'.2 with ⟨_, h0⟩ | ⟨g, cap, cur, hv, _⟩
    · omega
    · exact ⟨g, cap, hv⟩
  have hd : ((bs.length + 1 : Nat) : Int) - (bs.length : Int) = 1 := by omega
  go_wp2
  go_ret2
  refine ⟨?_, ?_, ?_, ?_⟩
  · show Ending.returned (.tuple #[.int .i64 ((bs.length : Int) + 1 - (bs.length : Int)), .nilIface]) = _
    rw [show ((bs.length : Int) + 1 - (bs.length : Int)) = 1 by omega]
  · exact Lib.BuilderAt.put (T := 195) (e := 5) hB hb2 (bs' := bs ++ [.int .u8 r]) (by simpa using hown') (by decide)
  · exact ((hb1.alloc (by have := hb1.size; omega) _).grown hgrow (by have := hb1.size; simp; omega) (fun k hk => (hown.lt k hk).1)).setCell (p := ⟨b, 1, none⟩) hB _
  · refine Keep5.trans hk1 hb1.size (fun i hi hib hic => (Below.heap_setCell _ _ _ _ (by simp only; omega)).trans ((hgrow.block i (by simp; omega) (fun e => by obtain ⟨c, hc⟩ := own_kind hown i e.symm; exact hic _ _ hc)).trans (Below.heap_alloc w1 _ i hi)))

theorem isB_iterAt {B b : Nat} {bs : List Value} {w : World} (h : Lib.IsBuilder 195 5 B b bs w) {k : Nat} {s : ByteArray} {pos : Nat} (hk : w.heap[k]? = some (.stringIter s pos)) (pos' : Nat) : Lib.IsBuilder 195 5 B b bs (w.iterAt k s pos') := by
  have key : ∀ p, Lib.BuilderAt 195 5 B b p bs w → Lib.BuilderAt 195 5 B b p bs (w.iterAt k s pos') := fun p ⟨hB, v, hb, hown, hne⟩ => by
    have hkb : b ≠ k := by
      intro e1
      rw [e1, hk] at hb
      cases hb
    refine ⟨hB, v, (Lib.iterAt_other w k b s pos' hkb).trans hb, ⟨hown.1, ?_⟩, hne⟩
    rcases hown.2 with hn | ⟨g, cap, cur, hv, hbg, hg, rest⟩
    · exact .inl hn
    · have hkg : g ≠ k := by
        intro e1
        rw [e1, hk] at hg
        cases hg
      exact .inr ⟨g, cap, cur, hv, hbg, (Lib.iterAt_other w k g s pos' hkg).trans hg, rest⟩
  rcases h with h | h
  · exact .inl (key _ h)
  · exact .inr (key _ h)
theorem isB_alloc {B b : Nat} {bs : List Value} {w : World} (h : Lib.IsBuilder 195 5 B b bs w) (o : Obj) : Lib.IsBuilder 195 5 B b bs (w.alloc o) := by
  have key : ∀ p, Lib.BuilderAt 195 5 B b p bs w → Lib.BuilderAt 195 5 B b p bs (w.alloc o) := fun p ⟨hB, v, hb, hown, hne⟩ => by
    have hlt : b < w.heap.size := Lib.BuilderAt.lt ⟨hB, v, hb, hown, hne⟩
    exact ⟨hB, v, (Below.heap_alloc w o b hlt).trans hb, World.ownsRow.alloc hown o, hne⟩
  rcases h with h | h
  · exact .inl (key _ h)
  · exact .inr (key _ h)
end Go.Proofs.YtcpijmbdibgdmaaGreatDoor

namespace Go.Proofs.YtcpijmbdibgdmaaGreatDoor
open Go.RowKit
attribute [local go_sem] ba_get store_flt

/-- The first place at which t stands (t is not empty). -/
def idxM (t : List UInt8) : List UInt8 → Option Nat
  | [] => none
  | b :: l => if t.isPrefixOf (b :: l) = true then some 0 else (idxM t l).map (· + 1)
theorem idxM_hit {t l : List UInt8} {b : UInt8} (h : t.isPrefixOf (b :: l) = true) : idxM t (b :: l) = some 0 := by rw [idxM, if_pos h]
theorem idxM_miss {t l : List UInt8} {b : UInt8} (h : t.isPrefixOf (b :: l) = false) : idxM t (b :: l) = (idxM t l).map (· + 1) := by rw [idxM, if_neg (by simp [h])]
theorem idxM_short (t : List UInt8) : ∀ l : List UInt8, l.length < t.length → idxM t l = none
  | [], _ => rfl
  | b :: l, h => by rw [idxM_miss (not_prefix t _ h), idxM_short t l (by simp at h; omega)]; rfl
theorem idxM_le (t : List UInt8) : ∀ (l : List UInt8) (i : Nat), idxM t l = some i → i + t.length ≤ l.length
  | [], _, h => by cases h
  | b :: l, i, h => by
    rw [idxM] at h
    split at h
    · rename_i hp
      injection h with h
      subst h
      have := (List.isPrefixOf_iff_prefix.1 hp).length_le
      omega
    · obtain ⟨i', h1, rfl⟩ := Option.map_eq_some_iff.1 h
      have := idxM_le t l i' h1
      simp
      omega
def idxRet (fin : Option Nat) : Value := .int .i64 (match fin with | some i => (i : Int) | none => -1)

set_option maxHeartbeats 4000000 in
set_option maxRecDepth 100000 in
theorem index_any (s t : List UInt8) (w : World) (hs : s.length ≤ 1048576) (ht : t.length ≤ 1000) (ht0 : 0 < t.length) : Calls Tryz.prog 185 #[S s, S t] w fun e w' => e = .returned (idxRet (idxM t s)) ∧ ∃ n, w' = w.drewN n := by
  obtain ⟨fin, hfin⟩ : ∃ fin, fin = idxM t s := ⟨_, rfl⟩
  rw [← hfin]
  have Hf := Lib.hid hfin
  clear hfin
  go_enter Tryz.func185, Tryz.ntmps185
  go_wp2_with fail
  go_loopg [5] s.length (fun g s5 wr => ∃ i : Nat, s5 = .int .i64 i ∧ i + g = s.length ∧ (∃ n, wr = w.drewN n) ∧ Hid (fin = (idxM t (s.drop i)).map (· + i)))
  case atStart => exact ⟨0, rfl, by omega, ⟨0, rfl⟩, Lib.hid (by rw [Hf.out]; simp)⟩
  case round =>
    obtain ⟨i, rfl, hg, ⟨n, rfl⟩, H⟩ := hrel
    have hib : i ≤ 1048576 := by omega
    have Hg := Lib.hid hg
    clear hg
    by_cases hi : i + t.length ≤ s.length
    · have hi' : (i : Int) + (t.length : Int) ≤ (s.length : Int) := by omega
      have e1 : s.drop i = s[i]'(by omega) :: s.drop (i + 1) := List.drop_eq_getElem_cons (by omega)
      have H1 := H.out
      rw [e1] at H1
      cases hp : t.isPrefixOf (s.drop i) with
      | true =>
        have hb : (((ByteArray.mk s.toArray).extract i (i + t.length)).toList == t) = true := by
          rw [toList_ext, show i + t.length - i = t.length by omega, take_prefix t _ (by rw [List.length_drop]; omega), hp]
        rw [e1] at hp
        rw [idxM_hit hp] at H1
        have H2 := Lib.hid H1
        clear H1 e1 hp
        go_wp2_with fail
        go_ret
        refine ⟨?_, n, rfl⟩
        rw [H2.out]
        simp [idxRet]
      | false =>
        have hb : (((ByteArray.mk s.toArray).extract i (i + t.length)).toList == t) = false := by
          rw [toList_ext, show i + t.length - i = t.length by omega, take_prefix t _ (by rw [List.length_drop]; omega), hp]
        rw [e1] at hp
        rw [idxM_miss hp] at H1
        have H2 := Lib.hid H1
        clear H1 e1 hp
        go_wp2_with fail
        go_roundg (s.length - (i + 1))
        case measure => have := Hg.out; omega
        case rel =>
          refine ⟨i + 1, by go_num, by omega, ⟨n, rfl⟩, Lib.hid ?_⟩
          rw [H2.out, Option.map_map]
          congr 1
          funext q
          simp only [Function.comp]
          omega
    · have hi' : decide ((i : Int) + (t.length : Int) ≤ (s.length : Int)) = false := by rw [decide_eq_false_iff_not]; omega
      go_wp2_with fail
      go_ret
      refine ⟨?_, n, rfl⟩
      have H1 := H.out
      rw [idxM_short t _ (by rw [List.length_drop]; omega)] at H1
      rw [H1]; rfl

def lowB (b : UInt8) : UInt8 := if 65 ≤ b.toNat ∧ b.toNat ≤ 90 then b + 32 else b
def uppB (b : UInt8) : UInt8 := if 97 ≤ b.toNat ∧ b.toNat ≤ 122 then b - 32 else b

set_option maxHeartbeats 4000000 in
set_option maxRecDepth 100000 in
theorem lower_any (s : List UInt8) (w : World) (hs : s.length ≤ 1048576) : Calls Tryz.prog 144 #[S s] w fun e w' => e = .returned (S (s.map lowB)) ∧ Below w.heap.size w w' := by
  have hconv : ∀ w : World, (convert 9 40 (S s)).run Tryz.prog w = _ := fun w => run_bytes_of_string w 9 40 5 ⟨s.toArray⟩ Tryz.underlying9 Tryz.underlying40 Tryz.underlying5
  have hlen : (ByteArray.mk s.toArray).size = s.length := rfl
  obtain ⟨w1, cap, c, hw1, hc, hf, hB, hlt⟩ : ∃ (w1 : World) (cap : Nat) (c : Nat), (convert 9 40 (S s)).run Tryz.prog w = .ok (.slice (some ⟨c, 0, none⟩) s.length cap) w1 ∧
      (∀ j (hj : j < s.length), w1.cell? ⟨c, j, none⟩ = some (bcell s[j])) ∧ (∀ j, j < s.length → w1.frozen? ⟨c, j, none⟩ = false) ∧ Below w.heap.size w w1 ∧ w.heap.size ≤ c := by
    refine ⟨_, _, _, hconv w, ?_, ?_, ?_, Nat.le_refl _⟩
    · intro j hj
      exact (World.cell?_alloc_mark w.drew _ 5 _ j).trans (bytesRow_at ⟨s.toArray⟩ _ j hj)
    · intro j hj
      refine (World.frozen?_alloc_mark w.drew _ 5 _ _ j).trans ?_
      have : j < (bytesRow ⟨s.toArray⟩ (grownCap w (ByteArray.mk s.toArray).size 0 5)).size := by
        unfold bytesRow
        simp
        omega
      simp
      omega
    · exact (Below.refl _ w).drew.alloc (Nat.le_refl _) _
  clear hconv
  go_enter Tryz.func144, Tryz.ntmps144
  go_wp2_with fail
  go_loopg [10] s.length (fun g s10 wr => ∃ i : Nat, s10 = .int .i64 i ∧ i + g = s.length ∧ Below w.heap.size w wr ∧ (∀ j (hj : j < s.length), wr.cell? ⟨c, j, none⟩ = some (bcell (if j < i then lowB s[j] else s[j]))) ∧ (∀ j, j < s.length → wr.frozen? ⟨c, j, none⟩ = false))
  case atStart => exact ⟨0, rfl, by omega, hB, fun j hj => by rw [if_neg (by omega)]; exact hc j hj, hf⟩
  case round =>
    obtain ⟨i, rfl, hg, hBr, hcr, hfr⟩ := hrel
    have hib : i ≤ 1048576 := by omega
    have Hg := Lib.hid hg
    have Hcr := Lib.hid hcr
    have Hfr := Lib.hid hfr
    clear hg hc hf hcr hfr
    by_cases hi : i < s.length
    · have ti : decide ((i : Int) < (s.length : Int)) = true := by rw [decide_eq_true_eq]; omega
      have ci : wr.cell? ⟨c, i, none⟩ = some (bcell s[i]) := by have := Hcr.out i hi; rwa [if_neg (by omega)] at this
      have fi : wr.frozen? ⟨c, i, none⟩ = false := Hfr.out i hi
      have hb := (s[i]).toNat_lt
      by_cases h1 : 65 ≤ s[i].toNat
      · have t1 : decide ((65 : Int) ≤ ((s[i].toNat : Nat) : Int)) = true := by rw [decide_eq_true_eq]; omega
        by_cases h2 : s[i].toNat ≤ 90
        · have t2 : decide (((s[i].toNat : Nat) : Int) ≤ 90) = true := by rw [decide_eq_true_eq]; omega
          go_wp2_with fail
          go_roundg (s.length - (i + 1))
          case measure => have := Hg.out; omega
          case rel =>
            refine ⟨i + 1, by go_num, by have := Hg.out; omega, hBr.setCell (by exact hlt) _, fun j hj => ?_, fun j hj => (World.frozen?_setCell _ _ _ _).trans (Hfr.out j hj)⟩
            by_cases e : j = i
            · subst e
              rw [World.cell?_setCell_same' _ _ _ (by rw [ci]; rfl), if_pos (by omega)]
              have : ((lowB s[j]).toNat : Int) = ((s[j].toNat : Nat) : Int) - 65 + 97 := by
                unfold lowB
                rw [if_pos ⟨h1, h2⟩, UInt8.toNat_add]
                have : (32 : UInt8).toNat = 32 := rfl
                omega
              rw [bcell, this]
            · rw [World.cell?_setCell_other _ _ _ _ (by intro h; simp only [Addr.mk.injEq] at h; omega), Hcr.out j hj]
              by_cases hji : j < i
              · rw [if_pos hji, if_pos (by omega)]
              · rw [if_neg hji, if_neg (by omega)]
        · have t2 : decide (((s[i].toNat : Nat) : Int) ≤ 90) = false := by rw [decide_eq_false_iff_not]; omega
          go_wp2_with fail
          go_roundg (s.length - (i + 1))
          case measure => have := Hg.out; omega
          case rel =>
            refine ⟨i + 1, by go_num, by have := Hg.out; omega, hBr, fun j hj => ?_, Hfr.out⟩
            rw [Hcr.out j hj]
            by_cases e : j = i
            · subst e
              rw [if_neg (by omega), if_pos (by omega)]
              unfold lowB
              rw [if_neg (by omega)]
            · by_cases hji : j < i
              · rw [if_pos hji, if_pos (by omega)]
              · rw [if_neg hji, if_neg (by omega)]
      · have t1 : decide ((65 : Int) ≤ ((s[i].toNat : Nat) : Int)) = false := by rw [decide_eq_false_iff_not]; omega
        go_wp2_with fail
        go_roundg (s.length - (i + 1))
        case measure => have := Hg.out; omega
        case rel =>
          refine ⟨i + 1, by go_num, by have := Hg.out; omega, hBr, fun j hj => ?_, Hfr.out⟩
          rw [Hcr.out j hj]
          by_cases e : j = i
          · subst e
            rw [if_neg (by omega), if_pos (by omega)]
            unfold lowB
            rw [if_neg (by omega)]
          · by_cases hji : j < i
            · rw [if_pos hji, if_pos (by omega)]
            · rw [if_neg hji, if_neg (by omega)]
    · have ti : decide ((i : Int) < (s.length : Int)) = false := by rw [decide_eq_false_iff_not]; omega
      have hback : (convert 40 9 (.slice (some ⟨c, 0, none⟩) s.length cap)).run Tryz.prog wr = .ok (S (s.map lowB)) wr := by
        have := run_convert_bytes_back (P := Tryz.prog) wr 40 9 5 ⟨c, 0, none⟩ cap (s.map lowB) Tryz.underlying40 Tryz.underlying5 Tryz.underlying9 (fun j hj => by
          have hj' : j < s.length := by simpa using hj
          have := Hcr.out j hj'
          rw [if_pos (by have := Hg.out; omega)] at this
          have e : (⟨c, 0, none⟩ : Addr).add j = ⟨c, j, none⟩ := by simp [Addr.add]; intro h; rw [h]
          rw [e, this]
          simp [bcell])
        simpa using this
      go_wp2_with fail
      go_ret
      exact ⟨rfl, hBr⟩
set_option maxHeartbeats 4000000 in
set_option maxRecDepth 100000 in
theorem upper_any (s : List UInt8) (w : World) (hs : s.length ≤ 1048576) : Calls Tryz.prog 231 #[S s] w fun e w' => e = .returned (S (s.map uppB)) ∧ Below w.heap.size w w' := by
  have hconv : ∀ w : World, (convert 9 40 (S s)).run Tryz.prog w = _ := fun w => run_bytes_of_string w 9 40 5 ⟨s.toArray⟩ Tryz.underlying9 Tryz.underlying40 Tryz.underlying5
  have hlen : (ByteArray.mk s.toArray).size = s.length := rfl
  obtain ⟨w1, cap, c, hw1, hc, hf, hB, hlt⟩ : ∃ (w1 : World) (cap : Nat) (c : Nat), (convert 9 40 (S s)).run Tryz.prog w = .ok (.slice (some ⟨c, 0, none⟩) s.length cap) w1 ∧
      (∀ j (hj : j < s.length), w1.cell? ⟨c, j, none⟩ = some (bcell s[j])) ∧ (∀ j, j < s.length → w1.frozen? ⟨c, j, none⟩ = false) ∧ Below w.heap.size w w1 ∧ w.heap.size ≤ c := by
    refine ⟨_, _, _, hconv w, ?_, ?_, ?_, Nat.le_refl _⟩
    · intro j hj
      exact (World.cell?_alloc_mark w.drew _ 5 _ j).trans (bytesRow_at ⟨s.toArray⟩ _ j hj)
    · intro j hj
      refine (World.frozen?_alloc_mark w.drew _ 5 _ _ j).trans ?_
      have : j < (bytesRow ⟨s.toArray⟩ (grownCap w (ByteArray.mk s.toArray).size 0 5)).size := by
        unfold bytesRow
        simp
        omega
      simp
      omega
    · exact (Below.refl _ w).drew.alloc (Nat.le_refl _) _
  clear hconv
  go_enter Tryz.func231, Tryz.ntmps231
  go_wp2_with fail
  go_loopg [10] s.length (fun g s10 wr => ∃ i : Nat, s10 = .int .i64 i ∧ i + g = s.length ∧ Below w.heap.size w wr ∧ (∀ j (hj : j < s.length), wr.cell? ⟨c, j, none⟩ = some (bcell (if j < i then uppB s[j] else s[j]))) ∧ (∀ j, j < s.length → wr.frozen? ⟨c, j, none⟩ = false))
  case atStart => exact ⟨0, rfl, by omega, hB, fun j hj => by rw [if_neg (by omega)]; exact hc j hj, hf⟩
  case round =>
    obtain ⟨i, rfl, hg, hBr, hcr, hfr⟩ := hrel
    have hib : i ≤ 1048576 := by omega
    have Hg := Lib.hid hg
    have Hcr := Lib.hid hcr
    have Hfr := Lib.hid hfr
    clear hg hc hf hcr hfr
    by_cases hi : i < s.length
    · have ti : decide ((i : Int) < (s.length : Int)) = true := by rw [decide_eq_true_eq]; omega
      have ci : wr.cell? ⟨c, i, none⟩ = some (bcell s[i]) := by have := Hcr.out i hi; rwa [if_neg (by omega)] at this
      have fi : wr.frozen? ⟨c, i, none⟩ = false := Hfr.out i hi
      have hb := (s[i]).toNat_lt
      by_cases h1 : 97 ≤ s[i].toNat
      · have t1 : decide ((97 : Int) ≤ ((s[i].toNat : Nat) : Int)) = true := by rw [decide_eq_true_eq]; omega
        by_cases h2 : s[i].toNat ≤ 122
        · have t2 : decide (((s[i].toNat : Nat) : Int) ≤ 122) = true := by rw [decide_eq_true_eq]; omega
          go_wp2_with fail
          go_roundg (s.length - (i + 1))
          case measure => have := Hg.out; omega
          case rel =>
            refine ⟨i + 1, by go_num, by have := Hg.out; omega, hBr.setCell (by exact hlt) _, fun j hj => ?_, fun j hj => (World.frozen?_setCell _ _ _ _).trans (Hfr.out j hj)⟩
            by_cases e : j = i
            · subst e
              rw [World.cell?_setCell_same' _ _ _ (by rw [ci]; rfl), if_pos (by omega)]
              have : ((uppB s[j]).toNat : Int) = ((s[j].toNat : Nat) : Int) - 97 + 65 := by
                unfold uppB
                rw [if_pos ⟨h1, h2⟩, UInt8.toNat_sub_of_le _ _ (by rw [UInt8.le_iff_toNat_le]; have : (32 : UInt8).toNat = 32 := rfl; omega)]
                have : (32 : UInt8).toNat = 32 := rfl
                omega
              rw [bcell, this]
            · rw [World.cell?_setCell_other _ _ _ _ (by intro h; simp only [Addr.mk.injEq] at h; omega), Hcr.out j hj]
              by_cases hji : j < i
              · rw [if_pos hji, if_pos (by omega)]
              · rw [if_neg hji, if_neg (by omega)]
        · have t2 : decide (((s[i].toNat : Nat) : Int) ≤ 122) = false := by rw [decide_eq_false_iff_not]; omega
          go_wp2_with fail
          go_roundg (s.length - (i + 1))
          case measure => have := Hg.out; omega
          case rel =>
            refine ⟨i + 1, by go_num, by have := Hg.out; omega, hBr, fun j hj => ?_, Hfr.out⟩
            rw [Hcr.out j hj]
            by_cases e : j = i
            · subst e
              rw [if_neg (by omega), if_pos (by omega)]
              unfold uppB
              rw [if_neg (by omega)]
            · by_cases hji : j < i
              · rw [if_pos hji, if_pos (by omega)]
              · rw [if_neg hji, if_neg (by omega)]
      · have t1 : decide ((97 : Int) ≤ ((s[i].toNat : Nat) : Int)) = false := by rw [decide_eq_false_iff_not]; omega
        go_wp2_with fail
        go_roundg (s.length - (i + 1))
        case measure => have := Hg.out; omega
        case rel =>
          refine ⟨i + 1, by go_num, by have := Hg.out; omega, hBr, fun j hj => ?_, Hfr.out⟩
          rw [Hcr.out j hj]
          by_cases e : j = i
          · subst e
            rw [if_neg (by omega), if_pos (by omega)]
            unfold uppB
            rw [if_neg (by omega)]
          · by_cases hji : j < i
            · rw [if_pos hji, if_pos (by omega)]
            · rw [if_neg hji, if_neg (by omega)]
    · have ti : decide ((i : Int) < (s.length : Int)) = false := by rw [decide_eq_false_iff_not]; omega
      have hback : (convert 40 9 (.slice (some ⟨c, 0, none⟩) s.length cap)).run Tryz.prog wr = .ok (S (s.map uppB)) wr := by
        have := run_convert_bytes_back (P := Tryz.prog) wr 40 9 5 ⟨c, 0, none⟩ cap (s.map uppB) Tryz.underlying40 Tryz.underlying5 Tryz.underlying9 (fun j hj => by
          have hj' : j < s.length := by simpa using hj
          have := Hcr.out j hj'
          rw [if_pos (by have := Hg.out; omega)] at this
          have e : (⟨c, 0, none⟩ : Addr).add j = ⟨c, j, none⟩ := by simp [Addr.add]; intro h; rw [h]
          rw [e, this]
          simp [bcell])
        simpa using this
      go_wp2_with fail
      go_ret
      exact ⟨rfl, hBr⟩
end Go.Proofs.YtcpijmbdibgdmaaGreatDoor
