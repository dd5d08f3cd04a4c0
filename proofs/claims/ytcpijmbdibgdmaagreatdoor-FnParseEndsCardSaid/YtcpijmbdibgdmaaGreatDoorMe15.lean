/-
  spec.reader.array.
-/
import Derived.Test.YtcpijmbdibgdmaaGreatDoorMe14
import Derived.Deep.RegionLaw
import Derived.Deep.AppendLies
set_option linter.all false
namespace Go.Proofs.YtcpijmbdibgdmaaGreatDoor
open Go.RowKit
attribute [local go_sem] ba_get store_flt

theorem Tryz.info34 : (Tryz.prog.info? 34).map (fun i => (i.zero, i.size, i.bytes)) = some (some (.agg vZero), 7, 96) := by kernel_rfl
def vArr (v : Value) : Array Value := #[.int .i64 6, .int .i64 0, .int .i64 0, .float .f64 0, S [], .slice none 0 0, v]
theorem arr_cells {w : World} {g : Nat} {v : Value} (h : Blk w g 34 (vArr v)) :
    w.cell? ⟨g, 0, none⟩ = some (.int .i64 6) ∧ w.cell? ⟨g, 1, none⟩ = some (.int .i64 0) ∧ w.cell? ⟨g, 2, none⟩ = some (.int .i64 0) ∧ w.cell? ⟨g, 3, none⟩ = some (.float .f64 0) ∧
    w.cell? ⟨g, 4, none⟩ = some (S []) ∧ w.cell? ⟨g, 5, none⟩ = some (.slice none 0 0) ∧ w.cell? ⟨g, 6, none⟩ = some v := ⟨h.cell 0, h.cell 1, h.cell 2, h.cell 3, h.cell 4, h.cell 5, h.cell 6⟩

def ArrPost (V : VRel) (s : List UInt8) (d : Nat) (z : Z) (w : World) (r : Nat) (e : Ending) (w' : World) : Prop :=
  ∃ (l : List SVal) (v : Value) (xs : List Value) (z' : Z), e = .returned (.agg (vArr v)) ∧ AOut V s d ⟨z.k + 1, z.bad, z.odd, z.ends⟩ l z' ∧ z.k < z'.k ∧ z'.k ≤ s.length ∧
    w'.ownsRow 0 34 7 v l.length xs ∧ (∀ g, v.ownBlock = some g → w.heap.size ≤ g) ∧ KRep w' (fun i => w.heap.size ≤ i) l xs ∧ Rd w' r s z'.k z'.bad d z'.odd z'.ends ∧ Only w w' r

/-- What stands while the elements are read: the result's block, the array's, its elements, the reader. -/
structure AS (w wr : World) (r b2 b3 : Nat) (s : List UInt8) (d : Nat) (l : List SVal) (v : Value) (xs : List Value) (y : Z) : Prop where
  hz : Blk wr b2 34 vZero
  ha : Blk wr b3 34 (vArr v)
  own : wr.ownsRow (b3 + 1) 34 7 v l.length xs
  kids : KRep wr (fun i => b3 < i ∧ v.ownBlock ≠ some i) l xs
  rd : Rd wr r s y.k y.bad d y.odd y.ends
  oo : Only w wr r
  h0 : w.heap.size ≤ b2
  h1 : b2 < b3
  hr : r < w.heap.size

theorem ownsRow_base {w : World} {base : Nat} {e : TypeId} {size n : Nat} {v : Value} {xs : List Value} (h : w.ownsRow base e size v n xs) : w.ownsRow 0 e size v n xs := by
  refine ⟨h.1, ?_⟩
  rcases h.2 with hn | ⟨g, cap, cur, hv, hbg, rest⟩
  · exact .inl hn
  · exact .inr ⟨g, cap, cur, hv, Nat.zero_le _, rest⟩
theorem ownsRow_keepB {w w' : World} {base : Nat} {e : TypeId} {size n : Nat} {v : Value} {xs : List Value} (h : w.ownsRow base e size v n xs) (hb : ∀ g, v.ownBlock = some g → w'.heap[g]? = w.heap[g]?) : w'.ownsRow base e size v n xs := by
  refine ⟨h.1, ?_⟩
  rcases h.2 with hn | ⟨g, cap, cur, hv, hbg, hg, rest⟩
  · exact .inl hn
  · refine .inr ⟨g, cap, cur, hv, hbg, ?_, rest⟩
    rw [hb g (by rw [hv]; rfl)]
    exact hg
theorem ownsRow_one {w : World} {base : Nat} {e : TypeId} {size n : Nat} {v : Value} {xs : List Value} (h : w.ownsRow base e size v n xs) : v.oneCell' = true := by
  rcases h.2 with ⟨rfl, _⟩ | ⟨g, cap, cur, rfl, _⟩ <;> rfl
theorem ownsRow_slice {w : World} {base : Nat} {e : TypeId} {size n : Nat} {v : Value} {xs : List Value} (h : w.ownsRow base e size v n xs) : ∃ p a b, v = .slice p a b := by
  rcases h.2 with ⟨rfl, _⟩ | ⟨g, cap, cur, rfl, _⟩
  · exact ⟨_, _, _, rfl⟩
  · exact ⟨_, _, _, rfl⟩
theorem sv7_one {kd n g : Int} {x : Nat} {t : List UInt8} {ks vs : Value} (hk : ks.oneCell' = true) (hv : vs.oneCell' = true) : ∀ u ∈ sv7 kd n g x t ks vs, u.oneCell' = true := by
  intro u hu
  simp only [sv7, List.mem_cons, List.not_mem_nil, or_false] at hu
  rcases hu with rfl | rfl | rfl | rfl | rfl | rfl | rfl <;> first | rfl | assumption
theorem VRep.one {w : World} {F : Nat → Prop} : ∀ (v : SVal) (c : List Value), VRep w F v c → ∀ u ∈ c, u.oneCell' = true := by
  intro v c h
  cases v <;> unfold VRep at h <;> first | (rw [h]; exact sv7_one rfl rfl) | (obtain ⟨_, _, rfl, h2, _⟩ := h; exact sv7_one rfl (ownsRow_one h2)) | (obtain ⟨_, _, _, rfl, h5, _, h2, _⟩ := h; exact sv7_one (ownsRow_one h5) (ownsRow_one h2))
theorem seven {w : World} {F : Nat → Prop} {v : SVal} {cs : Array Value} (h : VRep w F v cs.toList) : ∃ q0 q1 q2 q3 q4 q5 q6, cs = #[q0, q1, q2, q3, q4, q5, q6] := by
  have hl := VRep.len v _ h
  obtain ⟨c⟩ := cs
  match c, hl with
  | [q0, q1, q2, q3, q4, q5, q6], _ => exact ⟨q0, q1, q2, q3, q4, q5, q6, rfl⟩
theorem news_new {w : World} {cs : Array Value} {g : Nat} (hg : g = w.heap.size) : ∀ (j : Nat) (u : Value), cs.toList[j]? = some u → (w.alloc (.cells cs 34)).cell? ((⟨g, 0, none⟩ : Addr).add j) = some u := by
  intro j u hj
  subst hg
  have := Blk.cell (Blk.new w 34 cs) j
  have e : (⟨w.heap.size, 0, none⟩ : Addr).add j = ⟨w.heap.size, j, none⟩ := by
    simp [Addr.add]
    intro h
    rw [h]
  rw [e, this]
  simpa using hj

section
variable {w wr w1 w2 w' : World} {r b2 b3 : Nat} {s : List UInt8} {d : Nat} {l : List SVal} {v : Value} {xs : List Value} {y y' : Z}
theorem AS.own_ge (h : AS w wr r b2 b3 s d l v xs y) : ∀ g, v.ownBlock = some g → b3 < g ∧ g < wr.heap.size := fun g hg => by
  have := World.ownsRow.lt h.own g hg; omega
theorem AS.call (h : AS w wr r b2 b3 s d l v xs y) (hO : Only wr w' r) (hR : Rd w' r s y'.k y'.bad d y'.odd y'.ends) : AS w w' r b2 b3 s d l v xs y' := by
  have h0 := h.h0
  have h1 := h.h1
  have hr := h.hr
  have hog := h.own_ge
  refine ⟨Blk.grown h.hz hO (fun e => by injection e with e; omega), Blk.grown h.ha hO (fun e => by injection e with e; omega), ownsRow_keepB h.own (fun g hg => hO.block g (hog g hg).2 (fun e => by have := hog g hg; injection e with e; omega)), ?_, hR, only_trans h.oo hO, h0, h1, hr⟩
  exact KRep.mono (fun i hi hlt => ⟨hO.block i hlt (fun e => by injection e with e; omega), hi⟩) l xs h.kids
theorem AS.drewN (h : AS w wr r b2 b3 s d l v xs y) (n : Nat) : AS w (wr.drewN n) r b2 b3 s d l v xs y := h.call (only_drewN (only_refl _ _) n) h.rd
theorem AS.drew (h : AS w wr r b2 b3 s d l v xs y) : AS w wr.drew r b2 b3 s d l v xs y := h.call (only_drew (only_refl _ _)) h.rd
theorem own_base (h : AS w wr r b2 b3 s d l v xs y) {o : Obj} : b3 + 1 ≤ (wr.alloc o).heap.size := by
  have := Blk.lt h.ha
  simp; omega
theorem AS.done (h : AS w wr r b2 b3 s d l v xs y) (hO : Only wr w' b2) : w'.ownsRow 0 34 7 v l.length xs ∧ (∀ g, v.ownBlock = some g → w.heap.size ≤ g) ∧ KRep w' (fun i => w.heap.size ≤ i) l xs ∧ Rd w' r s y.k y.bad d y.odd y.ends ∧ Only w w' r := by
  have h0 := h.h0
  have h1 := h.h1
  have hr := h.hr
  have hog := h.own_ge
  refine ⟨ownsRow_base (ownsRow_keepB h.own (fun g hg => hO.block g (hog g hg).2 (fun e => by have := hog g hg; injection e with e; omega))), fun g hg => by have := hog g hg; omega, ?_, Blk.grown h.rd hO (fun e => by injection e with e; omega), only_grown h.oo hO (fun q e => by injection e with e; omega)⟩
  exact KRep.mono (fun i hi hlt => ⟨hO.block i hlt (fun e => by injection e with e; omega), by omega⟩) l xs h.kids
theorem AS.elem (h : AS w wr r b2 b3 s d l v xs y) (hO : Only wr w1 r) (hR : Rd w1 r s y'.k y'.bad d y'.odd y'.ends) {u : SVal} {cs : List Value} (hv : VRep w1 (fun i => wr.heap.size ≤ i) u cs) {o : Obj} {g cap : Nat}
    (happ : w2.ownsRow (b3 + 1) 34 7 (.slice (some ⟨g, 0, none⟩) (l.length + 1) cap) (l.length + 1) (xs ++ cs)) (hgr : (w1.alloc o).grownBy w2 v.ownBlock) (hat : v.ownBlock = some g ∨ g = (w1.alloc o).heap.size) :
    AS w (w2.setCell ⟨b3, 6, none⟩ (.slice (some ⟨g, 0, none⟩) (l.length + 1) cap)) r b2 b3 s d (l ++ [u]) (.slice (some ⟨g, 0, none⟩) (l.length + 1) cap) (xs ++ cs) y' := by
  have h0 := h.h0
  have h1 := h.h1
  have hr := h.hr
  have hog := h.own_ge
  have hb3 := Blk.lt h.ha
  have hsz := hO.size
  have hsa : (w1.alloc o).heap.size = w1.heap.size + 1 := by simp
  have hgb : b3 < g := by
    have := World.ownsRow.lt happ g rfl; omega
  have far : ∀ i, i ≠ b3 → (w2.setCell ⟨b3, 6, none⟩ (.slice (some ⟨g, 0, none⟩) (l.length + 1) cap)).heap[i]? = w2.heap[i]? := fun i hi => Below.heap_setCell _ _ _ _ hi
  have keep : ∀ i, i < w1.heap.size → v.ownBlock ≠ some i → i ≠ b3 → (w2.setCell ⟨b3, 6, none⟩ (.slice (some ⟨g, 0, none⟩) (l.length + 1) cap)).heap[i]? = w1.heap[i]? := fun i hi hv hb => by
    rw [far i hb, hgr.block i (by omega) (fun e => hv e.symm)]
    exact Below.heap_alloc w1 o i hi
  refine ⟨?_, ?_, ?_, ?_, ?_, ?_, h0, h1, hr⟩
  · exact (keep b2 (by have := Blk.lt h.hz; omega) (fun e => by have := hog _ e; omega) (by omega)).trans (Blk.grown h.hz hO (fun e => by injection e with e; omega))
  · have h2 : Blk w2 b3 34 (vArr v) := ((hgr.block b3 (by omega) (fun e => by have := hog _ e.symm; omega)).trans (Below.heap_alloc w1 o b3 (by omega))).trans (Blk.grown h.ha hO (fun e => by injection e with e; omega))
    exact Blk.set_ h2 6 _
  · refine ownsRow_keepB (by simpa using happ) (fun i hi => far i (by injection hi with hi; simp only at hi; omega))
  · refine KRep.snoc ?_ l xs ?_
    · refine VRep.mono (fun i hi hlt => ⟨keep i hlt (fun e => by have := hog _ e; omega) (by omega), by omega, fun e => ?_⟩) u cs hv
      injection e with e
      simp only at e
      rcases hat with hat | hat
      · have := hog _ hat; omega
      · omega
    · refine KRep.mono (fun i hi hlt => ⟨(keep i (by omega) hi.2 (by omega)).trans (hO.block i hlt (fun e => by injection e with e; omega)), hi.1, fun e => ?_⟩) l xs h.kids
      injection e with e
      simp only at e
      rcases hat with hat | hat
      · exact hi.2 (by rw [hat, e])
      · omega
  · exact (keep r (by omega) (fun e => by have := hog _ e; omega) (by omega)).trans hR
  · exact only_setCell (only_grown (only_alloc (only_trans h.oo hO) o) hgr (fun q e => by have := hog _ e; omega)) (.inr (by simp only; omega)) _
end

set_option maxHeartbeats 16000000 in
set_option maxRecDepth 100000 in
theorem arr_any (V : VRel) (W0 : World) (s : List UInt8) (m : Nat) (hV : ValSaid V W0 s m) (r d : Nat) (z : Z) (w : World) (hzb : z.bad = 0) (hk : z.k < s.length) (hm : s.length - z.k ≤ m) (hs : s.length ≤ 1048576) (hd : d ≤ 60)
    (hr0 : W0.heap.size ≤ r) (hW : Below W0.heap.size W0 w) (hR0 : Rd w r s z.k z.bad d z.odd z.ends) : Calls Tryz.prog 47 #[.pointer (some ⟨r, 0, none⟩)] w (ArrPost V s d z w r) := by
  have hrB : r < w.heap.size := Blk.lt hR0
  have HW := Lib.hid hW
  have HV := Lib.hid hV
  clear hW hV
  obtain ⟨c0, c1, c2, c3, c4, c5⟩ := hR0.cs
  obtain ⟨f1, f2, f3, f4, f5⟩ := hR0.fs
  obtain ⟨i0, hi, hi0, hi1, hi2⟩ := info_parts Tryz.info34
  go_enter Tryz.func47, Tryz.ntmps47
  go_wp2_with fail
  refine wp_gen (fun wr => AS w wr r w.heap.size (w.heap.size + 1) s d [] (.slice none 0 0) [] ⟨z.k + 1, z.bad, z.odd, z.ends⟩) ?_ ?_
  · refine ⟨?_, ?_, ?_, ?_, ?_, ?_, Nat.le_refl _, by omega, hrB⟩
    · exact Blk.alloc (Blk.newAt _ 34 vZero _ (by simp)) _
    · exact Blk.newAt _ 34 (vArr (.slice none 0 0)) _ (by simp)
    · exact World.ownsRow_nil _ _ _ _
    · unfold KRep; rfl
    · exact Blk.alloc (Blk.alloc (Rd.at_ hR0 (z.k + 1) (by go_num)) _) _
    · exact only_alloc (only_alloc (only_set (only_refl _ _) _ _) _) _
  obtain ⟨b3, hb3⟩ : ∃ b3, b3 = w.heap.size + 1 := ⟨_, rfl⟩
  obtain ⟨b2, hb2⟩ : ∃ b2, b2 = w.heap.size := ⟨_, rfl⟩
  rw [← hb3, ← hb2]
  clear hb3 hb2 c0 c1 c2 c3 c4 c5 f1 f2 f3 f4 f5 hR0
  intro w0 hS0
  go_loopg [] (s.length + 2 - (z.k + 1)) (fun g wr => ∃ l v xs y, g = (if y.bad = 0 then s.length + 2 - y.k else 0) ∧ z.k + 1 ≤ y.k ∧ y.k ≤ s.length ∧ l.length ≤ y.k + (if y.bad = 0 then 0 else 1) ∧ AS w wr r b2 b3 s d l v xs y ∧
    Hid (∀ l' y', AOut V s d y l' y' → AOut V s d ⟨z.k + 1, z.bad, z.odd, z.ends⟩ (l ++ l') y'))
  case atStart => exact ⟨[], _, [], ⟨z.k + 1, z.bad, z.odd, z.ends⟩, by simp only [hzb, if_true], Nat.le_refl _, by simp only; omega, by simp, hS0, Lib.hid (fun l' y' hh => hh)⟩
  case round =>
    obtain ⟨l, v, xs, y, hg, hy1, hy2, hll, hS, hcont⟩ := hrel
    obtain ⟨vp, va, vb, rfl⟩ := ownsRow_slice hS.own
    have hg := Lib.hid hg
    rename_i hg0
    clear hg0 hS0
    obtain ⟨c0, c1, c2, c3, c4, c5⟩ := hS.rd.cs
    obtain ⟨f1, f2, f3, f4, f5⟩ := hS.rd.fs
    obtain ⟨z0, z1, z2, z3, z4, z5, z6⟩ := res_cells hS.hz rfl
    obtain ⟨a0, a1, a2, a3, a4, a5, a6⟩ := arr_cells hS.ha
    have y0 := hS.hz.frozen 0
    have y1 := hS.hz.frozen 1
    have y2 := hS.hz.frozen 2
    have y3 := hS.hz.frozen 3
    have y4 := hS.hz.frozen 4
    have y5 := hS.hz.frozen 5
    have y6 := hS.hz.frozen 6
    have x6 := hS.ha.frozen 6
    have l1 := Blk.lt hS.hz
    by_cases hyb : y.bad = 0
    · have tb : ((y.bad : Int) == 0) = true := by rw [beq_iff_eq]; omega
      go_wp2_with fail
      refine (pass_any r s y.k y.bad d y.odd y.ends wr hy2 hs hS.rd).mono ?_
      rintro e w1 ⟨rfl, hA, hO⟩
      obtain ⟨⟨k1, o1⟩, ha1⟩ : ∃ a, a = skipAt s y.k y.odd := ⟨_, rfl⟩
      have hk1 : k1 ≤ s.length := by have := skipAt_le (o := y.odd) hy2; rw [← ha1] at this; exact this
      have hyk : y.k ≤ k1 := by have := congrArg Prod.fst ha1; unfold skipAt at this; simp only at this; omega
      have Ha1 := Lib.hid ha1
      have hS1 : AS w w1 r b2 b3 s d l (.slice vp va vb) xs ⟨k1, y.bad, o1, y.ends⟩ := hS.call hO (by unfold skipAt at ha1; injection ha1 with e1 e2; simp only; rw [e1, e2]; exact hA)
      clear hA hO ha1
      clear c0 c1 c2 c3 c4 c5 f1 f2 f3 f4 f5 z0 z1 z2 z3 z4 z5 z6 a0 a1 a2 a3 a4 a5 a6 y0 y1 y2 y3 y4 y5 y6 x6 l1
      clear hS
      go_wp2_with fail
      refine (is_any r s [93] k1 y.bad d o1 y.ends w1 hk1 hs (by simp) hS1.rd).mono ?_
      rintro e w2 ⟨rfl, nn, rfl⟩
      have hS2 := hS1.drewN nn
      clear hS1
      generalize w1.drewN nn = w2 at hS2 ⊢
      obtain ⟨c0, c1, c2, c3, c4, c5⟩ := hS2.rd.cs
      obtain ⟨f1, f2, f3, f4, f5⟩ := hS2.rd.fs
      obtain ⟨z0, z1, z2, z3, z4, z5, z6⟩ := res_cells hS2.hz rfl
      obtain ⟨a0, a1, a2, a3, a4, a5, a6⟩ := arr_cells hS2.ha
      have y0 := hS2.hz.frozen 0
      have y1 := hS2.hz.frozen 1
      have y2 := hS2.hz.frozen 2
      have y3 := hS2.hz.frozen 3
      have y4 := hS2.hz.frozen 4
      have y5 := hS2.hz.frozen 5
      have y6 := hS2.hz.frozen 6
      have x6 := hS2.ha.frozen 6
      have l1 := Blk.lt hS2.hz
      simp only at c1 c2 c4 c5
      cases hc : ([93] : List UInt8).isPrefixOf (s.drop k1) with
      | true =>
        have hlt : k1 < s.length := by
          rcases Nat.lt_or_ge k1 s.length with h | h
          · exact h
          · rw [List.drop_eq_nil_of_le h] at hc; cases hc
        have HA : AOut V s d y [] ⟨k1 + 1, 0, o1, y.ends⟩ := .close hyb Ha1.out hc
        have hS3 : AS w (w2.setCell ⟨r, 1, none⟩ (.int .i64 ((k1 : Int) + 1))) r b2 b3 s d l (.slice vp va vb) xs ⟨k1 + 1, 0, o1, y.ends⟩ := hS2.call (only_set (only_refl _ _) 1 _) (by have := Rd.at_ hS2.rd (k1 + 1) (v := .int .i64 ((k1 : Int) + 1)) (by go_num); rw [show y.bad = 0 from hyb] at this; exact this)
        have nb2 : ¬ b3 = r := by have := hS2.h0; have := hS2.h1; have := hS2.hr; omega
        have nb3 : ¬ b2 = r := by have := hS2.h0; have := hS2.h1; have := hS2.hr; omega
        have nb4 : ¬ r = b3 := by have := hS2.h0; have := hS2.h1; have := hS2.hr; omega
        have nb5 : ¬ r = b2 := by have := hS2.h0; have := hS2.h1; have := hS2.hr; omega
        go_wp2_with fail
        refine bodyPost_ret (v := .agg (vArr (.slice vp va vb))) (by simp [results, Tryz.results47, go_sem, vArr, S, l1, z0, z1, z2, z3, z4, z5, z6, y0, y1, y2, y3, y4, y5, y6, nb2, nb3, nb4, nb5]) rfl ?_
        have hres := hcont.out _ _ HA
        rw [List.append_nil] at hres
        exact ⟨l, _, xs, _, rfl, hres, by simp only; omega, by simp only; omega, hS3.done (by repeat first | with_reducible exact only_refl _ _ | with_reducible refine only_set ?_ _ _)⟩
      | false =>
        have Hc := Lib.hid hc
        clear hc
        cases hye : y.ends with
        | true =>
          rw [hye] at c5
          go_wp2_with fail
          refine region_tailq 17 (by kernel_rfl) (by kernel_rfl) ?_
          intro w3 e3
          have hS3 : AS w w3 r b2 b3 s d l (.slice vp va vb) xs ⟨k1, y.bad, o1, y.ends⟩ := by rw [e3]; first | exact hS2.drew | exact (hS2.drewN _).drew
          clear e3 hS2
          clear c0 c1 c2 c3 c4 c5 f1 f2 f3 f4 f5 z0 z1 z2 z3 z4 z5 z6 a0 a1 a2 a3 a4 a5 a6 y0 y1 y2 y3 y4 y5 y6 x6 l1
          obtain ⟨c0, c1, c2, c3, c4, c5⟩ := hS3.rd.cs
          obtain ⟨f1, f2, f3, f4, f5⟩ := hS3.rd.fs
          obtain ⟨z0, z1, z2, z3, z4, z5, z6⟩ := res_cells hS3.hz rfl
          obtain ⟨a0, a1, a2, a3, a4, a5, a6⟩ := arr_cells hS3.ha
          have y0 := hS3.hz.frozen 0
          have y1 := hS3.hz.frozen 1
          have y2 := hS3.hz.frozen 2
          have y3 := hS3.hz.frozen 3
          have y4 := hS3.hz.frozen 4
          have y5 := hS3.hz.frozen 5
          have y6 := hS3.hz.frozen 6
          have x6 := hS3.ha.frozen 6
          have l1 := Blk.lt hS3.hz
          simp only at c1 c2 c4 c5
          rw [hye] at c5
          simp only [List.take_succ_cons, List.take_zero, List.drop_succ_cons, List.drop_zero]
          repeat (go_big_quiet_step (fail))
          refine wpQuiet_nil ?_
          go_wp2_with fail
          have hE : (y.ends || decide (s.length ≤ k1)) = true := by simp [hye]
          refine wp_gen (fun wx => AS w wx r b2 b3 s d l (.slice vp va vb) xs ⟨k1, 0, o1, y.ends || decide (s.length ≤ k1)⟩) (hS3.call (only_set (only_refl _ _) 5 _) (by have := Rd.ends_ hS3.rd true rfl; rw [show y.bad = 0 from hyb] at this; rw [hE]; exact this)) ?_
          clear c0 c1 c2 c3 c4 c5 f1 f2 f3 f4 f5 z0 z1 z2 z3 z4 z5 z6 a0 a1 a2 a3 a4 a5 a6 y0 y1 y2 y3 y4 y5 y6 x6 l1
          clear hS3
          intro w4 hS4
          obtain ⟨a0, a1, a2, a3, a4, a5, a6⟩ := arr_cells hS4.ha
          have hcall := HV.out r d ⟨k1, 0, o1, y.ends || decide (s.length ≤ k1)⟩ w4.drew hk1 (by simp only; omega) hd hr0 (since_only HW.out hS4.drew.oo hr0) hS4.drew.rd
          have hcall2 : Calls Tryz.prog 20 #[.pointer (some ⟨r, 0, none⟩)] w4.drew fun e w5 => ∃ (u : SVal) (q0 q1 q2 q3 q4 q5 q6 : Value) (y' : Z), e = .returned (.agg #[q0, q1, q2, q3, q4, q5, q6]) ∧ V d ⟨k1, 0, o1, y.ends || decide (s.length ≤ k1)⟩ u y' ∧ VRep w5 (fun i => w4.heap.size ≤ i) u [q0, q1, q2, q3, q4, q5, q6] ∧ k1 ≤ y'.k ∧ y'.k ≤ s.length ∧ (y'.bad = 0 → k1 < y'.k) ∧
              Rd w5 r s y'.k y'.bad d y'.odd y'.ends ∧ Only w4 w5 r ∧ (∀ u ∈ [q0, q1, q2, q3, q4, q5, q6], u.oneCell' = true) ∧ AS w w5 r b2 b3 s d l (.slice vp va vb) xs y' ∧ w5.cell? ⟨b3, 6, none⟩ = some (.slice vp va vb) ∧ (∀ o : Obj, b3 + 1 ≤ (w5.alloc o).heap.size) ∧ (∀ o : Obj, (w5.alloc o).cell? ⟨b3, 6, none⟩ = some (.slice vp va vb)) := by
            refine hcall.mono ?_
            rintro e w5 ⟨u, cs, y', rfl, hVu, hRep, hk', hk'', hprog, hR5, hO5⟩
            obtain ⟨q0, q1, q2, q3, q4, q5, q6, rfl⟩ := seven hRep
            have hS6 := hS4.drew.call hO5 hR5
            exact ⟨u, q0, q1, q2, q3, q4, q5, q6, y', rfl, hVu, hRep, hk', hk'', hprog, hR5, only_trans (only_drew (only_refl _ _)) hO5, VRep.one _ _ hRep, hS6, (arr_cells hS6.ha).2.2.2.2.2.2, fun o => own_base hS6, fun o => (arr_cells (Blk.alloc hS6.ha o)).2.2.2.2.2.2⟩
          clear hcall
          have hmax : l.length + 1 ≤ maxLen := by rw [if_pos hyb] at hll; unfold maxLen; omega
          have hbyt : (l.length + 1) * 96 ≤ 140737488355328 := by rw [if_pos hyb] at hll; omega
          go_region_law (first | (go_simp; go_at_call 20; refine hcall2.mono ?_; rintro e w5 ⟨u, q0, q1, q2, q3, q4, q5, q6, y', rfl, hVu, hRep, hk', hk'', hprog, hR5, hO5, hone, hS6, a6', hbase6, a6b⟩; dsimp only) | (refine step_append_lies _ rfl (.tmp 49) (.tmp 52) 32 rfl (b3 + 1) 34 i0 (.agg vZero) 7 96 Tryz.underlying32 hi hi0 hi1 hi2 rfl (by decide) (.slice vp va vb) l.length xs (by simp [Act.eval, Act.put]) (World.ownsRow.alloc hS6.own _) ⟨_, 0, none⟩ 1 1 [q0, q1, q2, q3, q4, q5, q6] (by simp [Act.eval, Act.put]) rfl (news_new rfl) hone (by decide) hmax hbyt (hbase6 _) _ rfl ?_; intro g cap w6 hown6 hgrow hat hlt6; have hb6 := Blk.grown (Blk.alloc hS6.ha _) hgrow (fun e => by have := hS6.own_ge _ e.symm; omega); have k6 := (arr_cells hb6).2.2.2.2.2.2; have kf6 := hb6.frozen 6))
          all_goals
            go_wp2_with fail
            go_roundg (if y'.bad = 0 then s.length + 2 - y'.k else 0)
            case measure =>
              have h1 := hg.out
              rw [if_pos hyb] at h1
              by_cases h2 : y'.bad = 0
              · have := hprog h2
                rw [if_pos h2]
                omega
              · rw [if_neg h2]; omega
            case rel =>
              refine ⟨l ++ [u], _, xs ++ [q0, q1, q2, q3, q4, q5, q6], y', rfl, by omega, hk'', ?_, AS.elem hS4 hO5 hR5 hRep hown6 hgrow hat, Lib.hid (fun l' y'' hh => by rw [List.append_assoc]; exact hcont.out _ _ (AOut.elem hyb Ha1.out Hc.out hVu hh))⟩
              rw [if_pos hyb] at hll
              by_cases h2 : y'.bad = 0
              · have := hprog h2
                rw [if_pos h2]
                simp; omega
              · rw [if_neg h2]; simp; omega
        | false =>
          by_cases hge : s.length ≤ k1
          · have tge : decide ((s.length : Int) ≤ (k1 : Int)) = true := by rw [decide_eq_true_eq]; omega
            rw [hye] at c5
            go_wp2_with fail
            refine region_tailq 17 (by kernel_rfl) (by kernel_rfl) ?_
            intro w3 e3
            have hS3 : AS w w3 r b2 b3 s d l (.slice vp va vb) xs ⟨k1, y.bad, o1, y.ends⟩ := by rw [e3]; first | exact hS2.drew | exact (hS2.drewN _).drew
            clear e3 hS2
            clear c0 c1 c2 c3 c4 c5 f1 f2 f3 f4 f5 z0 z1 z2 z3 z4 z5 z6 a0 a1 a2 a3 a4 a5 a6 y0 y1 y2 y3 y4 y5 y6 x6 l1
            obtain ⟨c0, c1, c2, c3, c4, c5⟩ := hS3.rd.cs
            obtain ⟨f1, f2, f3, f4, f5⟩ := hS3.rd.fs
            obtain ⟨z0, z1, z2, z3, z4, z5, z6⟩ := res_cells hS3.hz rfl
            obtain ⟨a0, a1, a2, a3, a4, a5, a6⟩ := arr_cells hS3.ha
            have y0 := hS3.hz.frozen 0
            have y1 := hS3.hz.frozen 1
            have y2 := hS3.hz.frozen 2
            have y3 := hS3.hz.frozen 3
            have y4 := hS3.hz.frozen 4
            have y5 := hS3.hz.frozen 5
            have y6 := hS3.hz.frozen 6
            have x6 := hS3.ha.frozen 6
            have l1 := Blk.lt hS3.hz
            simp only at c1 c2 c4 c5
            rw [hye] at c5
            simp only [List.take_succ_cons, List.take_zero, List.drop_succ_cons, List.drop_zero]
            repeat (go_big_quiet_step (fail))
            refine wpQuiet_nil ?_
            go_wp2_with fail
            have hE : (y.ends || decide (s.length ≤ k1)) = true := by simp [hye, hge]
            refine wp_gen (fun wx => AS w wx r b2 b3 s d l (.slice vp va vb) xs ⟨k1, 0, o1, y.ends || decide (s.length ≤ k1)⟩) (hS3.call (only_set (only_refl _ _) 5 _) (by have := Rd.ends_ hS3.rd true rfl; rw [show y.bad = 0 from hyb] at this; rw [hE]; exact this)) ?_
            clear c0 c1 c2 c3 c4 c5 f1 f2 f3 f4 f5 z0 z1 z2 z3 z4 z5 z6 a0 a1 a2 a3 a4 a5 a6 y0 y1 y2 y3 y4 y5 y6 x6 l1
            clear hS3
            intro w4 hS4
            obtain ⟨a0, a1, a2, a3, a4, a5, a6⟩ := arr_cells hS4.ha
            have hcall := HV.out r d ⟨k1, 0, o1, y.ends || decide (s.length ≤ k1)⟩ w4.drew hk1 (by simp only; omega) hd hr0 (since_only HW.out hS4.drew.oo hr0) hS4.drew.rd
            have hcall2 : Calls Tryz.prog 20 #[.pointer (some ⟨r, 0, none⟩)] w4.drew fun e w5 => ∃ (u : SVal) (q0 q1 q2 q3 q4 q5 q6 : Value) (y' : Z), e = .returned (.agg #[q0, q1, q2, q3, q4, q5, q6]) ∧ V d ⟨k1, 0, o1, y.ends || decide (s.length ≤ k1)⟩ u y' ∧ VRep w5 (fun i => w4.heap.size ≤ i) u [q0, q1, q2, q3, q4, q5, q6] ∧ k1 ≤ y'.k ∧ y'.k ≤ s.length ∧ (y'.bad = 0 → k1 < y'.k) ∧
                Rd w5 r s y'.k y'.bad d y'.odd y'.ends ∧ Only w4 w5 r ∧ (∀ u ∈ [q0, q1, q2, q3, q4, q5, q6], u.oneCell' = true) ∧ AS w w5 r b2 b3 s d l (.slice vp va vb) xs y' ∧ w5.cell? ⟨b3, 6, none⟩ = some (.slice vp va vb) ∧ (∀ o : Obj, b3 + 1 ≤ (w5.alloc o).heap.size) ∧ (∀ o : Obj, (w5.alloc o).cell? ⟨b3, 6, none⟩ = some (.slice vp va vb)) := by
              refine hcall.mono ?_
              rintro e w5 ⟨u, cs, y', rfl, hVu, hRep, hk', hk'', hprog, hR5, hO5⟩
              obtain ⟨q0, q1, q2, q3, q4, q5, q6, rfl⟩ := seven hRep
              have hS6 := hS4.drew.call hO5 hR5
              exact ⟨u, q0, q1, q2, q3, q4, q5, q6, y', rfl, hVu, hRep, hk', hk'', hprog, hR5, only_trans (only_drew (only_refl _ _)) hO5, VRep.one _ _ hRep, hS6, (arr_cells hS6.ha).2.2.2.2.2.2, fun o => own_base hS6, fun o => (arr_cells (Blk.alloc hS6.ha o)).2.2.2.2.2.2⟩
            clear hcall
            have hmax : l.length + 1 ≤ maxLen := by rw [if_pos hyb] at hll; unfold maxLen; omega
            have hbyt : (l.length + 1) * 96 ≤ 140737488355328 := by rw [if_pos hyb] at hll; omega
            go_region_law (first | (go_simp; go_at_call 20; refine hcall2.mono ?_; rintro e w5 ⟨u, q0, q1, q2, q3, q4, q5, q6, y', rfl, hVu, hRep, hk', hk'', hprog, hR5, hO5, hone, hS6, a6', hbase6, a6b⟩; dsimp only) | (refine step_append_lies _ rfl (.tmp 49) (.tmp 52) 32 rfl (b3 + 1) 34 i0 (.agg vZero) 7 96 Tryz.underlying32 hi hi0 hi1 hi2 rfl (by decide) (.slice vp va vb) l.length xs (by simp [Act.eval, Act.put]) (World.ownsRow.alloc hS6.own _) ⟨_, 0, none⟩ 1 1 [q0, q1, q2, q3, q4, q5, q6] (by simp [Act.eval, Act.put]) rfl (news_new rfl) hone (by decide) hmax hbyt (hbase6 _) _ rfl ?_; intro g cap w6 hown6 hgrow hat hlt6; have hb6 := Blk.grown (Blk.alloc hS6.ha _) hgrow (fun e => by have := hS6.own_ge _ e.symm; omega); have k6 := (arr_cells hb6).2.2.2.2.2.2; have kf6 := hb6.frozen 6))
            all_goals
              go_wp2_with fail
              go_roundg (if y'.bad = 0 then s.length + 2 - y'.k else 0)
              case measure =>
                have h1 := hg.out
                rw [if_pos hyb] at h1
                by_cases h2 : y'.bad = 0
                · have := hprog h2
                  rw [if_pos h2]
                  omega
                · rw [if_neg h2]; omega
              case rel =>
                refine ⟨l ++ [u], _, xs ++ [q0, q1, q2, q3, q4, q5, q6], y', rfl, by omega, hk'', ?_, AS.elem hS4 hO5 hR5 hRep hown6 hgrow hat, Lib.hid (fun l' y'' hh => by rw [List.append_assoc]; exact hcont.out _ _ (AOut.elem hyb Ha1.out Hc.out hVu hh))⟩
                rw [if_pos hyb] at hll
                by_cases h2 : y'.bad = 0
                · have := hprog h2
                  rw [if_pos h2]
                  simp; omega
                · rw [if_neg h2]; simp; omega
          · have tge : decide ((s.length : Int) ≤ (k1 : Int)) = false := by rw [decide_eq_false_iff_not]; omega
            rw [hye] at c5
            go_wp2_with fail
            refine region_tailq 17 (by kernel_rfl) (by kernel_rfl) ?_
            intro w3 e3
            have hS3 : AS w w3 r b2 b3 s d l (.slice vp va vb) xs ⟨k1, y.bad, o1, y.ends⟩ := by rw [e3]; first | exact hS2.drew | exact (hS2.drewN _).drew
            clear e3 hS2
            clear c0 c1 c2 c3 c4 c5 f1 f2 f3 f4 f5 z0 z1 z2 z3 z4 z5 z6 a0 a1 a2 a3 a4 a5 a6 y0 y1 y2 y3 y4 y5 y6 x6 l1
            obtain ⟨c0, c1, c2, c3, c4, c5⟩ := hS3.rd.cs
            obtain ⟨f1, f2, f3, f4, f5⟩ := hS3.rd.fs
            obtain ⟨z0, z1, z2, z3, z4, z5, z6⟩ := res_cells hS3.hz rfl
            obtain ⟨a0, a1, a2, a3, a4, a5, a6⟩ := arr_cells hS3.ha
            have y0 := hS3.hz.frozen 0
            have y1 := hS3.hz.frozen 1
            have y2 := hS3.hz.frozen 2
            have y3 := hS3.hz.frozen 3
            have y4 := hS3.hz.frozen 4
            have y5 := hS3.hz.frozen 5
            have y6 := hS3.hz.frozen 6
            have x6 := hS3.ha.frozen 6
            have l1 := Blk.lt hS3.hz
            simp only at c1 c2 c4 c5
            rw [hye] at c5
            simp only [List.take_succ_cons, List.take_zero, List.drop_succ_cons, List.drop_zero]
            repeat (go_big_quiet_step (fail))
            refine wpQuiet_nil ?_
            go_wp2_with fail
            have hE : (y.ends || decide (s.length ≤ k1)) = false := by simp [hye, hge]
            refine wp_gen (fun wx => AS w wx r b2 b3 s d l (.slice vp va vb) xs ⟨k1, 0, o1, y.ends || decide (s.length ≤ k1)⟩) (hS3.call (only_set (only_refl _ _) 5 _) (by have := Rd.ends_ hS3.rd false rfl; rw [show y.bad = 0 from hyb] at this; rw [hE]; exact this)) ?_
            clear c0 c1 c2 c3 c4 c5 f1 f2 f3 f4 f5 z0 z1 z2 z3 z4 z5 z6 a0 a1 a2 a3 a4 a5 a6 y0 y1 y2 y3 y4 y5 y6 x6 l1
            clear hS3
            intro w4 hS4
            obtain ⟨a0, a1, a2, a3, a4, a5, a6⟩ := arr_cells hS4.ha
            have hcall := HV.out r d ⟨k1, 0, o1, y.ends || decide (s.length ≤ k1)⟩ w4.drew hk1 (by simp only; omega) hd hr0 (since_only HW.out hS4.drew.oo hr0) hS4.drew.rd
            have hcall2 : Calls Tryz.prog 20 #[.pointer (some ⟨r, 0, none⟩)] w4.drew fun e w5 => ∃ (u : SVal) (q0 q1 q2 q3 q4 q5 q6 : Value) (y' : Z), e = .returned (.agg #[q0, q1, q2, q3, q4, q5, q6]) ∧ V d ⟨k1, 0, o1, y.ends || decide (s.length ≤ k1)⟩ u y' ∧ VRep w5 (fun i => w4.heap.size ≤ i) u [q0, q1, q2, q3, q4, q5, q6] ∧ k1 ≤ y'.k ∧ y'.k ≤ s.length ∧ (y'.bad = 0 → k1 < y'.k) ∧
                Rd w5 r s y'.k y'.bad d y'.odd y'.ends ∧ Only w4 w5 r ∧ (∀ u ∈ [q0, q1, q2, q3, q4, q5, q6], u.oneCell' = true) ∧ AS w w5 r b2 b3 s d l (.slice vp va vb) xs y' ∧ w5.cell? ⟨b3, 6, none⟩ = some (.slice vp va vb) ∧ (∀ o : Obj, b3 + 1 ≤ (w5.alloc o).heap.size) ∧ (∀ o : Obj, (w5.alloc o).cell? ⟨b3, 6, none⟩ = some (.slice vp va vb)) := by
              refine hcall.mono ?_
              rintro e w5 ⟨u, cs, y', rfl, hVu, hRep, hk', hk'', hprog, hR5, hO5⟩
              obtain ⟨q0, q1, q2, q3, q4, q5, q6, rfl⟩ := seven hRep
              have hS6 := hS4.drew.call hO5 hR5
              exact ⟨u, q0, q1, q2, q3, q4, q5, q6, y', rfl, hVu, hRep, hk', hk'', hprog, hR5, only_trans (only_drew (only_refl _ _)) hO5, VRep.one _ _ hRep, hS6, (arr_cells hS6.ha).2.2.2.2.2.2, fun o => own_base hS6, fun o => (arr_cells (Blk.alloc hS6.ha o)).2.2.2.2.2.2⟩
            clear hcall
            have hmax : l.length + 1 ≤ maxLen := by rw [if_pos hyb] at hll; unfold maxLen; omega
            have hbyt : (l.length + 1) * 96 ≤ 140737488355328 := by rw [if_pos hyb] at hll; omega
            go_region_law (first | (go_simp; go_at_call 20; refine hcall2.mono ?_; rintro e w5 ⟨u, q0, q1, q2, q3, q4, q5, q6, y', rfl, hVu, hRep, hk', hk'', hprog, hR5, hO5, hone, hS6, a6', hbase6, a6b⟩; dsimp only) | (refine step_append_lies _ rfl (.tmp 49) (.tmp 52) 32 rfl (b3 + 1) 34 i0 (.agg vZero) 7 96 Tryz.underlying32 hi hi0 hi1 hi2 rfl (by decide) (.slice vp va vb) l.length xs (by simp [Act.eval, Act.put]) (World.ownsRow.alloc hS6.own _) ⟨_, 0, none⟩ 1 1 [q0, q1, q2, q3, q4, q5, q6] (by simp [Act.eval, Act.put]) rfl (news_new rfl) hone (by decide) hmax hbyt (hbase6 _) _ rfl ?_; intro g cap w6 hown6 hgrow hat hlt6; have hb6 := Blk.grown (Blk.alloc hS6.ha _) hgrow (fun e => by have := hS6.own_ge _ e.symm; omega); have k6 := (arr_cells hb6).2.2.2.2.2.2; have kf6 := hb6.frozen 6))
            all_goals
              go_wp2_with fail
              go_roundg (if y'.bad = 0 then s.length + 2 - y'.k else 0)
              case measure =>
                have h1 := hg.out
                rw [if_pos hyb] at h1
                by_cases h2 : y'.bad = 0
                · have := hprog h2
                  rw [if_pos h2]
                  omega
                · rw [if_neg h2]; omega
              case rel =>
                refine ⟨l ++ [u], _, xs ++ [q0, q1, q2, q3, q4, q5, q6], y', rfl, by omega, hk'', ?_, AS.elem hS4 hO5 hR5 hRep hown6 hgrow hat, Lib.hid (fun l' y'' hh => by rw [List.append_assoc]; exact hcont.out _ _ (AOut.elem hyb Ha1.out Hc.out hVu hh))⟩
                rw [if_pos hyb] at hll
                by_cases h2 : y'.bad = 0
                · have := hprog h2
                  rw [if_pos h2]
                  simp; omega
                · rw [if_neg h2]; simp; omega
    · have tb : ((y.bad : Int) == 0) = false := by rw [beq_eq_false_iff_ne]; omega
      have HA : AOut V s d y [] y := .stop hyb
      go_wp2_with fail
      refine bodyPost_ret (v := .agg (vArr (.slice vp va vb))) (by simp [results, Tryz.results47, go_sem, vArr, S, l1, z0, z1, z2, z3, z4, z5, z6, y0, y1, y2, y3, y4, y5, y6]) rfl ?_
      have hres := hcont.out _ _ HA
      rw [List.append_nil] at hres
      exact ⟨l, _, xs, _, rfl, hres, by omega, by omega, hS.done (by repeat first | with_reducible exact only_refl _ _ | with_reducible refine only_set ?_ _ _)⟩
end Go.Proofs.YtcpijmbdibgdmaaGreatDoor
