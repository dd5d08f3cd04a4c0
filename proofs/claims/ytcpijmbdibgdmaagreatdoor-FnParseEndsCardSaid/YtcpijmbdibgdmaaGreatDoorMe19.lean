/-
  package model: parseArray, over parseObjectContext.
  package model: an object's text over the reader's outcome: the join.
  package model: an object's text over the reader's outcome: values, and the induction.
  errors.Is of two of the package's errors; DefaultResourceLimits, the depth's limit, Err.
-/
import Derived.Test.YtcpijmbdibgdmaaGreatDoorMe18
import Derived.Test.YtcpijmbdibgdmaaGreatDoorMe13
import Derived.LaidEql
import Derived.Stop.Asserts
import Derived.RowKitTokens
set_option linter.all false
namespace Go.Proofs.YtcpijmbdibgdmaaGreatDoor
open Go.RowKit
attribute [local go_sem] ba_get store_flt

theorem Tryz.info63 : (Tryz.prog.info? 63).map (fun i => (i.zero, i.size, i.bytes)) = some (some .nilIface, 1, 16) := by kernel_rfl

/-- What stands while the elements are parsed. -/
structure BS (w wr : World) (p q ab : Nat) (t tt : List UInt8) (v : Value) (xs : List Value) : Prop where
  lp : Blk wr p 9 #[S t]
  lq : Blk wr q 9 #[S tt]
  la : Blk wr ab 80 #[v]
  own : wr.ownsRow w.heap.size 63 1 v xs.length xs
  below : Below w.heap.size w wr
  hq : w.heap.size ≤ q
  ha : w.heap.size ≤ ab
  hne : q ≠ ab
  hp : p < w.heap.size
section
variable {w wr w' : World} {p q ab : Nat} {t tt tt' : List UInt8} {v v' : Value} {xs xs' : List Value}
theorem BS.far (h : BS w wr p q ab t tt v xs) (hO : Only wr w' q) (hL : Blk w' q 9 #[S tt']) : BS w w' p q ab t tt' v xs := by
  have hq := h.hq
  have ha := h.ha
  have hne := h.hne
  have hp := h.hp
  have hb := h.below
  have hn := Lib.ownBlock_ne h.own h.lq (by decide)
  refine ⟨Blk.grown h.lp hO (fun e => by injection e with e; omega), hL, Blk.grown h.la hO (fun e => by injection e with e; omega), ownsRow_keepB h.own (fun g hg => hO.block g (World.ownsRow.lt h.own g hg).2 (fun e => by rw [e] at hg; exact hn hg)), hb.grown hO hb.size (fun k e => by injection e with e; omega), hq, ha, hne, hp⟩
theorem BS.set (h : BS w wr p q ab t tt v xs) (l : List UInt8) : BS w (wr.setCell ⟨q, 0, none⟩ (S l)) p q ab t l v xs :=
  h.far (only_set (only_refl _ _) _ _) (by have := Blk.set_ h.lq 0 (S l); simpa using this)
theorem BS.small (h : BS w wr p q ab t tt v xs) (hB : Below wr.heap.size wr w') : BS w w' p q ab t tt v xs :=
  h.far (only_of_below hB) (h.lq.below hB h.lq.lt)
theorem BS.app (h : BS w wr p q ab t tt v xs) {o : Obj} {w2 : World} (hown : w2.ownsRow w.heap.size 63 1 v' xs'.length xs') (hg : (wr.alloc o).grownBy w2 v.ownBlock) : BS w (w2.setCell ⟨ab, 0, none⟩ v') p q ab t tt v' xs' := by
  have hq := h.hq
  have ha := h.ha
  have hne := h.hne
  have hp := h.hp
  have hb := h.below
  have n1 := Lib.ownBlock_ne h.own h.lq (by decide)
  have n2 := Lib.ownBlock_ne h.own h.la (by decide)
  have n3 : v.ownBlock ≠ some p := fun e => by have := (World.ownsRow.lt h.own p e).1; omega
  have k1 : Blk w2 q 9 #[S tt] := Blk.grown (Blk.alloc h.lq o) hg (fun e => n1 e.symm)
  have k2 : Blk w2 ab 80 #[v] := Blk.grown (Blk.alloc h.la o) hg (fun e => n2 e.symm)
  have k3 : Blk w2 p 9 #[S t] := Blk.grown (Blk.alloc h.lp o) hg (fun e => n3 e.symm)
  have n4 := Lib.ownBlock_ne hown k2 (by decide)
  refine ⟨k3.far (by simp only; omega) _, k1.far (by simp only; omega) _, by have := Blk.set_ k2 0 v'; simpa using this, ownsRow_keepB hown (fun g hgo => Below.heap_setCell _ _ _ _ (fun e => n4 (hgo.trans (congrArg some e)))), ?_, hq, ha, hne, hp⟩
  exact ((hb.alloc hb.size o).grown hg (by have := hb.size; simp; omega) (fun k hk => (World.ownsRow.lt h.own k hk).1)).setCell (by simp only; omega) _
end

set_option maxHeartbeats 8000000 in
set_option maxRecDepth 100000 in
theorem arr_walk (l0 : List UInt8) (n0 g0 p lv : Nat) (rx : Bool) (W0 w : World) (H : Nat → List UInt8 → Prop) (R : List UInt8 → Prop) (hG : Glob W0) (hW : Below W0.heap.size W0 w) (hp : W0.heap.size ≤ p) (hs : l0.length ≤ 1048575) (hlv : lv ≤ 900) (hg0 : g0 ≤ 1048576) (hL : Blk w p 9 #[S (91 :: l0)])
    (hcl : Clear l0 n0) (hst : ∀ r, (r = l0.drop n0 ∨ (n0 = l0.length ∧ r = [37])) → r ≠ [] → H g0 r)
    (hclose : ∀ g tt l, H g tt → tt = 93 :: l → R l)
    (helem : ∀ g tt, H g tt → (∀ l, tt ≠ 93 :: l) → lv ≤ 100 → tt.length ≤ 1048576 → ∀ w q, Below W0.heap.size W0 w → W0.heap.size ≤ q → Blk w q 9 #[S tt] → Calls Tryz.prog 81 (pargs q (lv + 1) rx) w fun e w' =>
      ErrP W0 w q e w' ∨ ∃ v rest, (IVal v ∧ rest.length ≤ 1048576 ∧ (rest ≠ [] → ∃ n g', Clear rest n ∧ g' < g ∧ ∀ r, (r = rest.drop n ∨ (n = rest.length ∧ r = [37])) → r ≠ [] → H g' r)) ∧ OkP w q rest v e w') :
    Calls Tryz.prog 114 (pargs p lv rx) w fun e w' => ErrP W0 w p e w' ∨ ∃ (rest : List UInt8) (a : Nat) (sp : Option Addr) (sa sb : Nat), R rest ∧ e = .returned (.tuple #[.pointer (some ⟨a, 0, none⟩), .nilIface]) ∧ w'.cell? ⟨a, 0, none⟩ = some (.slice sp sa sb) ∧ Blk w' p 9 #[S rest] ∧ Only w w' p := by
  have hpre : Lib.hasPrefix (91 :: l0) [91] = true := by rw [hasPre_one]; rfl
  have hfw : ∀ w : World, Calls Tryz.prog 119 #[S (91 :: l0), .int .i64 1] w fun e w' => e = .returned (S l0) ∧ w = w' := fun w => forward1 (91 :: l0) w (by simp; omega)
  obtain ⟨t, ht⟩ : ∃ t : List UInt8, t = 91 :: l0 := ⟨_, rfl⟩
  have htl : t.length = l0.length + 1 := by rw [ht]; simp
  rw [← ht] at hL hpre hfw
  have c0 : w.cell? ⟨p, 0, none⟩ = some (S t) := hL.cell 0
  have f0 := hL.frozen 0
  have hpl := hL.lt
  have tl0 : ((t.length : Int) == 0) = false := by rw [beq_eq_false_iff_ne]; omega
  have Hcl := Lib.hid hcl
  have Hst := Lib.hid hst
  have Hclose := Lib.hid hclose
  have Helem := Lib.hid helem
  clear hcl hst hclose helem ht
  have hW1 : Below W0.heap.size W0 (w.alloc (.cells #[] 96)) := hW.alloc hW.size _
  obtain ⟨h00, a6, cc6, e6⟩ := hG.later hW 6 (by simp)
  obtain ⟨i0, hi, hi0, hi1, hi2⟩ := info_parts Tryz.info63
  go_enter Tryz.func114, Tryz.ntmps114
  go_wp2_with fail
  refine (depth2_any [112, 97, 114, 115, 101, 32, 111, 98, 106, 101, 99, 116] lv W0 _ hG hW1 (by omega)).mono ?_
  rintro e w2 ⟨⟨v, rfl, ⟨rfl, hv⟩ | ⟨q, rfl, hq, h100⟩⟩, rfl⟩
  · have Hv := Lib.hid hv
    clear hv
    go_wp2_with fail
    refine calls_gen (fun wx => Blk wx (w.heap.size + 1) 9 #[S t] ∧ Below w.heap.size w wx) ⟨?_, ?_⟩ ?_
    · first | exact Blk.newAt _ 9 #[S t] _ (by simp) | (have := Blk.set_ (Blk.newAt (w.alloc (.cells #[] 96)) 9 #[S []] (w.heap.size + 1) (by simp)) 0 (S t); simpa using this)
    · first | exact ((Below.refl _ w).alloc (Nat.le_refl _) _).alloc (by simp) _ | exact (((Below.refl _ w).alloc (Nat.le_refl _) _).alloc (by simp) _).setCell (by simp only; omega) _
    obtain ⟨q, hq⟩ : ∃ q, q = w.heap.size + 1 := ⟨_, rfl⟩
    rw [← hq]
    have hqw : w.heap.size ≤ q := by omega
    clear hq
    rintro w3 ⟨hLq, hB3⟩
    have cq : w3.cell? ⟨q, 0, none⟩ = some (S t) := hLq.cell 0
    have fq := hLq.frozen 0
    refine (hasPre_any t [91] w3).mono ?_
    rintro e w4 ⟨rfl, rfl⟩
    rw [hpre]
    by_cases hl1 : l0.length = 0
    · have t1 : ((t.length : Int) == 1) = true := by rw [beq_iff_eq]; omega
      obtain ⟨_, a6, cc6, e6⟩ := hG.later (hW.trans (hB3.mono hW.size)) 6 (by simp)
      go_wp2_with fail
      go_quiet (fail)
      go_wp2_with fail
      refine bodyPost_ret (v := .tuple #[.pointer none, .iface 207 (.pointer (some a6))]) (by simp [results, Tryz.results114, go_sem]) rfl ?_
      exact .inl ⟨⟨_, _, rfl, e6⟩, ⟨t, Blk.drewN (hL.below hB3 hpl) _⟩, only_drewN (only_of_below hB3) _⟩
    · have t1 : ((t.length : Int) == 1) = false := by rw [beq_eq_false_iff_ne]; omega
      go_wp2_with fail
      refine (hfw _).mono ?_
      rintro e w5 ⟨rfl, rfl⟩
      go_wp2_with fail
      refine calls_gen (fun wx => Blk wx q 9 #[S l0] ∧ Below w.heap.size w wx) ⟨by have := Blk.set_ hLq 0 (S l0); simpa using this, hB3.setCell (by simp only; omega) _⟩ ?_
      clear cq fq hLq hB3
      rintro w6 ⟨hLq, hB3⟩
      refine (trim_any l0 n0 w6 (by omega) Hcl.out).mono ?_
      rintro e w7 ⟨⟨r, rfl, hr⟩, hB7⟩
      have hB4 : Below w.heap.size w w7 := hB3.trans (hB7.mono hB3.size)
      have hLq4 : Blk w7 q 9 #[S l0] := hLq.below hB7 hLq.lt
      have cq : w7.cell? ⟨q, 0, none⟩ = some (S l0) := hLq4.cell 0
      have fq := hLq4.frozen 0
      have hrl : r.length ≤ 1048576 := by
        rcases hr with h | ⟨_, h⟩
        · rw [h, List.length_drop]; omega
        · rw [h]; decide
      have Hr := Lib.hid hr
      clear hr hLq hB3 hB7
      by_cases h0 : r.length = 0
      · have t0 : ((r.length : Int) == 0) = true := by rw [beq_iff_eq]; omega
        obtain ⟨h66, a6, cc6, e6⟩ := hG.later (hW.trans (hB4.mono hW.size)) 6 (by simp)
        have hq6 : ¬ q = 6 := by have := hG 6 (by simp); have := hW.size; omega
        clear h0
        go_wp2_with fail
        go_quiet (fail)
        go_wp2_with fail
        refine bodyPost_ret (v := .tuple #[.pointer none, .iface 207 (.pointer (some a6))]) (by simp [results, Tryz.results114, go_sem]) rfl ?_
        exact .inl ⟨⟨_, _, rfl, e6⟩, ⟨t, Blk.drewN ((hL.below hB4 hpl).far (by simp only; omega) _) _⟩, only_drewN (only_setCell (only_of_below hB4) (.inr (by simp only; omega)) _) _⟩
      · have t0 : ((r.length : Int) == 0) = false := by rw [beq_eq_false_iff_ne]; omega
        have hr0 : r ≠ [] := by intro e; rw [e] at h0; exact h0 rfl
        have HH := Lib.hid (Hst.out r Hr.out hr0)
        have Hr0 := Lib.hid hr0
        clear h0 hr0
        go_wp2_with fail
        refine wp_gen (fun wr => BS w wr p q (w7.heap.size + 1) t r (.slice (some ⟨w7.heap.size, 0, none⟩) 0 0) []) ?_ ?_
        · have hlq7 := hLq4.lt
          have hsz7 := hB4.size
          have k1 : Blk (w7.setCell ⟨q, 0, none⟩ (S r)) q 9 #[S r] := by have := Blk.set_ hLq4 0 (S r); simpa using this
          have k2 : Blk (w7.setCell ⟨q, 0, none⟩ (S r)) p 9 #[S t] := (hL.below hB4 hpl).far (by simp only; omega) _
          refine ⟨Blk.alloc (Blk.alloc k2 _) _, Blk.alloc (Blk.alloc k1 _) _, ?_, ?_, ?_, hqw, by omega, by omega, hpl⟩
          · exact Blk.newAt _ 80 _ _ (by simp [World.setCell])
          · refine World.ownsRow.alloc ⟨by simp, .inr ⟨w7.heap.size, 0, #[], rfl, hsz7, ?_, by simp, by simp [maxLen], by simp, by simp⟩⟩ _
            exact Blk.newAt (w7.setCell ⟨q, 0, none⟩ (S r)) 63 #[] _ (by simp [World.setCell])
          · exact ((hB4.setCell (by simp only; omega) _).alloc (by simp [World.setCell]; omega) _).alloc (by simp [World.setCell]; omega) _
        obtain ⟨ab, hab⟩ : ∃ ab, ab = w7.heap.size + 1 := ⟨_, rfl⟩
        rw [← hab]
        obtain ⟨v0, hv0⟩ : ∃ v0 : Value, v0 = .slice (some ⟨w7.heap.size, 0, none⟩) 0 0 := ⟨_, rfl⟩
        rw [← hv0]
        have hvs : ∃ a b c, v0 = .slice a b c := ⟨_, _, _, hv0⟩
        clear hv0 hab cq fq hLq4 hB4
        intro w8 hS8
        go_loopg [] g0 (fun g wr => ∃ (tt : List UInt8) (v : Value) (xs : List Value), BS w wr p q ab t tt v xs ∧ Hid (H g tt ∧ tt ≠ []) ∧ tt.length ≤ 1048576 ∧ xs.length + g ≤ g0)
        case atStart => exact ⟨r, v0, [], hS8, Lib.hid ⟨HH.out, Hr0.out⟩, hrl, by simp⟩
        case round =>
          obtain ⟨tt, v, xs, hS, HT, htt, hxs⟩ := hrel
          obtain ⟨va, vb, vc, rfl⟩ := ownsRow_slice hS.own
          have Hxs := Lib.hid hxs
          clear hxs hS8 hvs
          have cq : wr.cell? ⟨q, 0, none⟩ = some (S tt) := hS.lq.cell 0
          have fq := hS.lq.frozen 0
          have cp : wr.cell? ⟨p, 0, none⟩ = some (S t) := hS.lp.cell 0
          have fp := hS.lp.frozen 0
          have hqp : ¬ q = p := by have := hS.hq; have := hS.hp; omega
          have hpq : ¬ p = q := by have := hS.hq; have := hS.hp; omega
          obtain ⟨c, l, hcl'⟩ : ∃ c l, tt = c :: l := by
            rcases htt' : tt with _ | ⟨c, l⟩
            · exact absurd htt' HT.out.2
            · exact ⟨c, l, rfl⟩
          have Hcl2 := Lib.hid hcl'
          clear hcl'
          go_wp2_with fail
          refine (hasPre_any tt [93] wr).mono ?_
          rintro e w9 ⟨rfl, rfl⟩
          have hp93 : Lib.hasPrefix tt [93] = (c == 93) := by rw [Hcl2.out, hasPre_one]
          rw [hp93]
          by_cases h93 : c = 93
          · have hR := Hclose.out _ tt l HT.out.1 (by rw [Hcl2.out, h93])
            have hd1 : tt.drop 1 = l := by rw [Hcl2.out]; rfl
            have HR := Lib.hid hR
            rw [show (c == 93) = true by rw [beq_iff_eq]; exact h93]
            clear h93 hR hp93
            go_wp2_with fail
            refine (forward1 tt _ htt).mono ?_
            rintro e w10 ⟨rfl, rfl⟩
            rw [hd1]
            go_wp2_with fail
            refine bodyPost_ret (v := .tuple #[.pointer (some ⟨ab, 0, none⟩), .nilIface]) (by simp [results, Tryz.results114, go_sem]) rfl ?_
            have hSl := hS.set l
            have hq0 := hS.hq
            have hp0 := hS.hp
            have ha0 := hS.ha
            refine .inr ⟨l, ab, va, vb, vc, HR.out, rfl, ?_, ?_, ?_⟩
            · exact (hSl.la.far (by simp only; omega) _).cell 0
            · have := Blk.set_ hSl.lp 0 (S l)
              simpa using this
            · exact only_set (only_of_below hSl.below) _ _
          · rw [show (c == 93) = false by rw [beq_eq_false_iff_ne]; exact h93]
            have hne93 : ∀ l', tt ≠ 93 :: l' := fun l' e => by rw [Hcl2.out] at e; injection e with e _; exact h93 e
            have hcall := Helem.out _ tt HT.out.1 hne93 Hv.out htt w9 q (hW.trans (hS.below.mono hW.size)) (by have := hS.hq; have := hW.size; omega) hS.lq
            have e1 : (((lv + 1 : Nat) : Int)) = (lv : Int) + 1 := by omega
            rw [show pargs q (lv + 1) rx = #[.agg #[], .pointer (some ⟨q, 0, none⟩), .int .i64 ((lv : Int) + 1), .int .i64 100, .bool rx] from by unfold pargs; rw [e1]] at hcall
            clear h93 hp93 hne93 e1
            go_wp2_with fail
            refine hcall.mono ?_
            rintro e w10 (⟨⟨v1, a1, rfl, he1⟩, _, hO⟩ | ⟨v1, rest, ⟨hv1, hrest, hnext⟩, rfl, hb1, hO⟩)
            · have hq0 := hS.hq
              have hp0 := hS.hp
              have hSz := hS.below.size
              go_wp2_with fail
              refine bodyPost_ret (v := .tuple #[.pointer none, .iface 207 (.pointer (some a1))]) (by simp [results, Tryz.results114, go_sem]) rfl ?_
              refine .inl ⟨⟨_, _, rfl, he1⟩, ⟨t, Blk.grown hS.lp hO (fun e => by injection e with e; omega)⟩, ?_⟩
              exact only_of_below (hS.below.grown hO hSz (fun k e => by injection e with e; omega))
            · have hS1 : BS w w10 p q ab t rest (.slice va vb vc) xs := hS.far hO hb1
              have Hnext := Lib.hid hnext
              clear hnext hcall hO hb1 cq fq cp fp hS
              have ca : w10.cell? ⟨ab, 0, none⟩ = some (.slice va vb vc) := hS1.la.cell 0
              have fa := hS1.la.frozen 0
              have hsz := hS1.below.size
              have hlen := hS1.own
              rcases hv1 with rfl | ⟨T1, u1, rfl⟩
              · go_wp2_with (at_builtin; refine wpList_append_own _ rfl _ _ 80 rfl w.heap.size 63 i0 .nilIface 1 16 Tryz.underlying80 hi hi0 hi1 hi2 rfl (by decide) _ _ _ rfl (hS1.own.alloc _) ⟨w10.heap.size, 0, none⟩ 1 1 [.nilIface] rfl rfl (by intro j u hj; match j, hj with | 0, hj => simp at hj; subst hj; simp [Addr.add]) (by intro u hu; simp at hu; subst hu; rfl) (by have := Hxs.out; unfold maxLen; omega) (by have := Hxs.out; omega) (by simp; omega) ?_)
                intro v' w12 hown' hgrow _
                obtain ⟨va', vb', vc', rfl⟩ := ownsRow_slice hown'
                have hS2 := hS1.app (xs' := xs ++ [.nilIface]) (by simpa using hown') hgrow
                have ba2 := Blk.grown (Blk.alloc hS1.la (.cells #[.nilIface] 63)) hgrow (fun e => (Lib.ownBlock_ne hS1.own hS1.la (by decide)) e.symm)
                have ca2 : w12.cell? ⟨ab, 0, none⟩ = some (.slice va vb vc) := ba2.cell 0
                have fa2 : w12.frozen? ⟨ab, 0, none⟩ = false := ba2.frozen 0
                clear ba2
                clear hS1 hown' hgrow hlen ca fa hsz
                have cq : (w12.setCell ⟨ab, 0, none⟩ (.slice va' vb' vc')).cell? ⟨q, 0, none⟩ = some (S rest) := hS2.lq.cell 0
                have fq : (w12.setCell ⟨ab, 0, none⟩ (.slice va' vb' vc')).frozen? ⟨q, 0, none⟩ = false := hS2.lq.frozen 0
                by_cases hr0 : rest.length = 0
                · have t0 : ((rest.length : Int) == 0) = true := by rw [beq_iff_eq]; omega
                  clear hr0
                  obtain ⟨h66, a6, cc6, e6⟩ := hG.later (hW.trans (hS2.below.mono hW.size)) 6 (by simp)
                  go_wp2_with fail
                  go_quiet (fail)
                  go_wp2_with fail
                  refine bodyPost_ret (v := .tuple #[.pointer none, .iface 207 (.pointer (some a6))]) (by simp [results, Tryz.results114, go_sem]) rfl ?_
                  exact .inl ⟨⟨_, _, rfl, e6⟩, ⟨t, Blk.drewN hS2.lp _⟩, only_drewN (only_of_below hS2.below) _⟩
                · have t0 : ((rest.length : Int) == 0) = false := by rw [beq_eq_false_iff_ne]; omega
                  obtain ⟨n, g', hcl3, hgg, hnx⟩ := Hnext.out (fun e => hr0 (by rw [e]; rfl))
                  have Hnx := Lib.hid hnx
                  have Hgg := Lib.hid hgg
                  clear hr0 hnx hgg
                  go_wp2_with fail
                  refine (trim_any rest n _ hrest hcl3).mono ?_
                  rintro e w13 ⟨⟨r, rfl, hr⟩, hB13⟩
                  have hS3 := hS2.small hB13
                  have hrl3 : r.length ≤ 1048576 := by
                    rcases hr with h | ⟨_, h⟩
                    · rw [h, List.length_drop]; omega
                    · rw [h]; decide
                  have Hr3 := Lib.hid hr
                  clear hr hB13 hS2 fa2 ca2
                  have cq : w13.cell? ⟨q, 0, none⟩ = some (S rest) := hS3.lq.cell 0
                  have fq : w13.frozen? ⟨q, 0, none⟩ = false := hS3.lq.frozen 0
                  have hS4 := hS3.set r
                  by_cases h0 : r.length = 0
                  · have t0 : ((r.length : Int) == 0) = true := by rw [beq_iff_eq]; omega
                    clear h0
                    obtain ⟨h66, a6, cc6, e6⟩ := hG.later (hW.trans (hS4.below.mono hW.size)) 6 (by simp)
                    have hq6 : ¬ q = 6 := by have := hG 6 (by simp); have := hW.size; have := hS3.hq; omega
                    go_wp2_with fail
                    go_quiet (fail)
                    go_wp2_with fail
                    refine bodyPost_ret (v := .tuple #[.pointer none, .iface 207 (.pointer (some a6))]) (by simp [results, Tryz.results114, go_sem]) rfl ?_
                    exact .inl ⟨⟨_, _, rfl, e6⟩, ⟨t, Blk.drewN hS4.lp _⟩, only_drewN (only_of_below hS4.below) _⟩
                  · have t0 : ((r.length : Int) == 0) = false := by rw [beq_eq_false_iff_ne]; omega
                    have hr0 : r ≠ [] := by intro e; rw [e] at h0; exact h0 rfl
                    have hHn := Lib.hid (And.intro (Hnx.out r Hr3.out hr0) hr0)
                    clear h0 hr0
                    go_wp2_with fail
                    have hxx : (xs ++ [Value.nilIface]).length + g' ≤ g0 := by
                      have := Hxs.out
                      have := Hgg.out
                      simp; omega
                    go_roundg g'
                    case rel => exact ⟨r, .slice va' vb' vc', xs ++ [.nilIface], hS4, hHn, hrl3, hxx⟩
                    exact Hgg.out
              · go_wp2_with (at_builtin; refine wpList_append_own _ rfl _ _ 80 rfl w.heap.size 63 i0 .nilIface 1 16 Tryz.underlying80 hi hi0 hi1 hi2 rfl (by decide) _ _ _ rfl (hS1.own.alloc _) ⟨w10.heap.size, 0, none⟩ 1 1 [.iface T1 u1] rfl rfl (by intro j u hj; match j, hj with | 0, hj => simp at hj; subst hj; simp [Addr.add]) (by intro u hu; simp at hu; subst hu; rfl) (by have := Hxs.out; unfold maxLen; omega) (by have := Hxs.out; omega) (by simp; omega) ?_)
                intro v' w12 hown' hgrow _
                obtain ⟨va', vb', vc', rfl⟩ := ownsRow_slice hown'
                have hS2 := hS1.app (xs' := xs ++ [.iface T1 u1]) (by simpa using hown') hgrow
                have ba2 := Blk.grown (Blk.alloc hS1.la (.cells #[.iface T1 u1] 63)) hgrow (fun e => (Lib.ownBlock_ne hS1.own hS1.la (by decide)) e.symm)
                have ca2 : w12.cell? ⟨ab, 0, none⟩ = some (.slice va vb vc) := ba2.cell 0
                have fa2 : w12.frozen? ⟨ab, 0, none⟩ = false := ba2.frozen 0
                clear ba2
                clear hS1 hown' hgrow hlen ca fa hsz
                have cq : (w12.setCell ⟨ab, 0, none⟩ (.slice va' vb' vc')).cell? ⟨q, 0, none⟩ = some (S rest) := hS2.lq.cell 0
                have fq : (w12.setCell ⟨ab, 0, none⟩ (.slice va' vb' vc')).frozen? ⟨q, 0, none⟩ = false := hS2.lq.frozen 0
                by_cases hr0 : rest.length = 0
                · have t0 : ((rest.length : Int) == 0) = true := by rw [beq_iff_eq]; omega
                  clear hr0
                  obtain ⟨h66, a6, cc6, e6⟩ := hG.later (hW.trans (hS2.below.mono hW.size)) 6 (by simp)
                  go_wp2_with fail
                  go_quiet (fail)
                  go_wp2_with fail
                  refine bodyPost_ret (v := .tuple #[.pointer none, .iface 207 (.pointer (some a6))]) (by simp [results, Tryz.results114, go_sem]) rfl ?_
                  exact .inl ⟨⟨_, _, rfl, e6⟩, ⟨t, Blk.drewN hS2.lp _⟩, only_drewN (only_of_below hS2.below) _⟩
                · have t0 : ((rest.length : Int) == 0) = false := by rw [beq_eq_false_iff_ne]; omega
                  obtain ⟨n, g', hcl3, hgg, hnx⟩ := Hnext.out (fun e => hr0 (by rw [e]; rfl))
                  have Hnx := Lib.hid hnx
                  have Hgg := Lib.hid hgg
                  clear hr0 hnx hgg
                  go_wp2_with fail
                  refine (trim_any rest n _ hrest hcl3).mono ?_
                  rintro e w13 ⟨⟨r, rfl, hr⟩, hB13⟩
                  have hS3 := hS2.small hB13
                  have hrl3 : r.length ≤ 1048576 := by
                    rcases hr with h | ⟨_, h⟩
                    · rw [h, List.length_drop]; omega
                    · rw [h]; decide
                  have Hr3 := Lib.hid hr
                  clear hr hB13 hS2 fa2 ca2
                  have cq : w13.cell? ⟨q, 0, none⟩ = some (S rest) := hS3.lq.cell 0
                  have fq : w13.frozen? ⟨q, 0, none⟩ = false := hS3.lq.frozen 0
                  have hS4 := hS3.set r
                  by_cases h0 : r.length = 0
                  · have t0 : ((r.length : Int) == 0) = true := by rw [beq_iff_eq]; omega
                    clear h0
                    obtain ⟨h66, a6, cc6, e6⟩ := hG.later (hW.trans (hS4.below.mono hW.size)) 6 (by simp)
                    have hq6 : ¬ q = 6 := by have := hG 6 (by simp); have := hW.size; have := hS3.hq; omega
                    go_wp2_with fail
                    go_quiet (fail)
                    go_wp2_with fail
                    refine bodyPost_ret (v := .tuple #[.pointer none, .iface 207 (.pointer (some a6))]) (by simp [results, Tryz.results114, go_sem]) rfl ?_
                    exact .inl ⟨⟨_, _, rfl, e6⟩, ⟨t, Blk.drewN hS4.lp _⟩, only_drewN (only_of_below hS4.below) _⟩
                  · have t0 : ((r.length : Int) == 0) = false := by rw [beq_eq_false_iff_ne]; omega
                    have hr0 : r ≠ [] := by intro e; rw [e] at h0; exact h0 rfl
                    have hHn := Lib.hid (And.intro (Hnx.out r Hr3.out hr0) hr0)
                    clear h0 hr0
                    go_wp2_with fail
                    have hxx : (xs ++ [Value.iface T1 u1]).length + g' ≤ g0 := by
                      have := Hxs.out
                      have := Hgg.out
                      simp; omega
                    go_roundg g'
                    case rel => exact ⟨r, .slice va' vb' vc', xs ++ [.iface T1 u1], hS4, hHn, hrl3, hxx⟩
                    exact Hgg.out
  · go_wp2_with fail
    refine bodyPost_ret (v := .tuple #[.pointer none, .iface 207 (.pointer (some q))]) (by simp [results, Tryz.results114, go_sem]) rfl ?_
    exact .inl ⟨⟨_, _, rfl, hq⟩, ⟨t, Blk.alloc hL _⟩, only_alloc (only_refl _ _) _⟩
end Go.Proofs.YtcpijmbdibgdmaaGreatDoor

namespace Go.Proofs.YtcpijmbdibgdmaaGreatDoor
open Go.RowKit

theorem passM_stop37 : ∀ (l : List UInt8) (c o : Bool) (h : (passM c l o).1 < l.length), (l[(passM c l o).1]'h).toNat ≠ 37
  | [], _, _, h => by simp at h
  | b :: l, true, o, h => by
    by_cases hb : b.toNat = 10 ∨ b.toNat = 13
    · have e : passM true (b :: l) o = ((passM false l o).1 + 1, (passM false l o).2) := by rw [passM, if_pos hb]
      simp only [e, List.getElem_cons_succ]
      exact passM_stop37 l false o (by rw [e] at h; simp at h; omega)
    · have e := passM_in (b := b) (l := l) (o := o) (by omega) (by omega)
      simp only [e, List.getElem_cons_succ]
      exact passM_stop37 l true _ (by rw [e] at h; simp at h; omega)
  | b :: l, false, o, h => by
    by_cases hw : whiteB b = true
    · have e := passM_white (b := b) (l := l) (o := o) hw
      simp only [e, List.getElem_cons_succ]
      exact passM_stop37 l false o (by rw [e] at h; simp at h; omega)
    · by_cases h37 : b.toNat = 37
      · have e : passM false (b :: l) o = ((passM true l o).1 + 1, (passM true l o).2) := by rw [passM, if_neg hw, if_pos h37]
        simp only [e, List.getElem_cons_succ]
        exact passM_stop37 l true o (by rw [e] at h; simp at h; omega)
      · have e := passM_stop (b := b) (l := l) (o := o) (by simpa using hw) h37
        simp only [e, List.getElem_cons_zero]
        exact h37
theorem skip_end {s : List UInt8} {k : Nat} {o : Bool} (h : s.length ≤ k) : skipAt s k o = (k, o) := skip_here (fun hl => by omega)
theorem skip_idem {s : List UInt8} {k k1 : Nat} {o o1 : Bool} (h : (k1, o1) = skipAt s k o) : skipAt s k1 o1 = (k1, o1) := by
  refine skip_here (fun hl => ?_)
  by_cases hk : k ≤ s.length
  · refine ⟨skip_stop h hk hl, ?_⟩
    unfold skipAt at h
    injection h with h1 h2
    have := passM_stop37 (s.drop k) false o (by rw [List.length_drop]; omega)
    rw [List.getElem_drop] at this
    simp only [h1]
    exact this
  · rw [skip_end (by omega)] at h
    injection h with h1 h2
    omega

section
variable {pf : List UInt8 → Nat} {s : List UInt8} {A : Nat → Z → List SVal → Z → Prop} {D : VRel} {d : Nat} {z z' : Z} {k1 : Nat} {o1 : Bool} {v : SVal}
theorem VStep.far (hA : ∀ d z l z', A d z l z' → z'.bad = 0 → z.k ≤ z'.k ∧ z'.ends = z.ends) (hnd : noDD s) (h : VStep pf s A D d z k1 o1 v z') (hb0 : z'.bad = 0) : k1 < s.length ∧ k1 < z'.k ∧ z'.ends = z.ends := by
  cases h with
  | bad hb => exact absurd hb0 hb
  | deep hb hd => cases hb0
  | over hb hd hk => cases hb0
  | lit hb hd hk hc hl => exact ⟨hk, litAt_lt hl, rfl⟩
  | litOpen hb hd hk hc hl => cases hb0
  | dict hb hd hk hc hD => rw [hnd k1] at hc; cases hc
  | hex hb hd hk hc hn hx => exact ⟨hk, by simp only; rw [hx]; exact hexAt_le s k1 o1, rfl⟩
  | name hb hd hk hc hx => exact ⟨hk, by simp only; rw [hx]; exact nameAt_lt s k1 o1, rfl⟩
  | arr hb hd hk hc hA' => exact ⟨hk, by have := (hA _ _ _ _ hA' hb0).1; simp only at this; omega, (hA _ _ _ _ hA' hb0).2⟩
  | delim hb hd hk hc hdl => cases hb0
  | num hb hd hk hdl hx =>
    refine ⟨hk, ?_, rfl⟩
    simp only at hb0 ⊢
    rw [hx] at hb0 ⊢
    exact (numF_gt pf hk hdl).2 hb0
end
theorem AOut.far {V : VRel} {s : List UInt8} {d : Nat} (hV : ∀ d z v z', V d z v z' → z'.bad = 0 → z.k < s.length ∧ z.k < z'.k ∧ z'.ends = z.ends) {z z' : Z} {l : List SVal} (h : AOut V s d z l z') (hb0 : z'.bad = 0) : z.k ≤ z'.k ∧ z'.ends = z.ends := by
  induction h with
  | stop hb => exact absurd hb0 hb
  | close hb hs hc =>
    rename_i za ka oa
    have := skipAt_ge s za.k za.odd
    rw [← hs] at this
    exact ⟨by simp only at this ⊢; omega, rfl⟩
  | elem hb hs hc hv ha ih =>
    rename_i za zb zc ka oa va la
    have := skipAt_ge s za.k za.odd
    rw [← hs] at this
    simp only at this
    by_cases h1 : zb.bad = 0
    · obtain ⟨q1, q2, q3⟩ := hV _ _ _ _ hv h1
      obtain ⟨q4, q5⟩ := ih hb0
      simp only at q1 q2 q3
      refine ⟨by omega, ?_⟩
      rw [q5, q3, decide_eq_false (by omega), Bool.or_false]
    · cases ha with
      | stop => exact absurd hb0 h1
      | close hb' => exact absurd hb' h1
      | elem hb' => exact absurd hb' h1
theorem VO_far {pf : List UInt8 → Nat} {s : List UInt8} (hnd : noDD s) : ∀ (m d : Nat) (z : Z) (v : SVal) (z' : Z), VO pf s noDict m d z v z' → z'.bad = 0 → z.k < s.length ∧ z.k < z'.k ∧ z'.ends = z.ends
  | 0, _, _, _, _, h, _ => h.elim
  | m + 1, d, z, v, z', h, ho => by
    obtain ⟨h1, h2, h3⟩ := VStep.far (fun d z l z' ha ho => AOut.far (VO_far hnd m) ha ho) hnd h ho
    have := skipAt_ge s z.k z.odd
    exact ⟨by omega, by omega, h3⟩
theorem AO_stop {V : VRel} {s : List UInt8} {d : Nat} {z z' : Z} {l : List SVal} (h : AOut V s d z l z') (hb : z.bad ≠ 0) : z' = z := by
  cases h with
  | stop => rfl
  | close hb' => exact absurd hb' hb
  | elem hb' => exact absurd hb' hb
/-- Ahead of an element, or of the end of the array, what is passed over is clear. -/
theorem AO_clear {pf : List UInt8 → Nat} {s : List UInt8} {m d : Nat} {z z' : Z} {l : List SVal} (hnd : noDD s) (h : AOut (VO pf s noDict m) s d z l z') (hb : z.bad = 0) (ho : z'.odd = false) (h2 : z'.bad ≠ 2) : Clear (s.drop z.k) ((skipAt s z.k false).1 - z.k) := by
  have hz := AO_odd hnd m _ _ _ _ h ho
  by_cases hk : z.k ≤ s.length
  · have hp : ∀ hl : (skipAt s z.k false).1 < s.length, plainB (s[(skipAt s z.k false).1]'hl) = true := by
      intro hl
      cases h with
      | stop hb' => exact absurd hb hb'
      | close hb hs hc =>
        rw [hz] at hs
        have e : (skipAt s z.k false).1 = _ := congrArg Prod.fst hs.symm
        simp only at e
        rename_i ka oa
        have hl' : ka < s.length := by rw [← e]; exact hl
        rw [List.drop_eq_getElem_cons hl'] at hc
        simp [List.isPrefixOf] at hc
        simp only [e]
        rw [← hc]
        decide
      | elem hb hs hc hv ha =>
        rename_i zb ka oa va la
        rw [hz] at hs
        have e : (skipAt s z.k false).1 = ka := congrArg Prod.fst hs.symm
        have h2' : zb.bad ≠ 2 := fun e2 => by have := AO_stop ha (by omega); rw [this] at h2; exact h2 e2
        have ho1 : zb.odd = false := AO_odd hnd m _ _ _ _ ha ho
        cases m with
        | zero => exact hv.elim
        | succ m =>
          have hi := skip_idem hs
          unfold VO VOne at hv
          simp only [hi] at hv
          have := VStep.plain (AO_odd hnd m) hnd hv ho1 rfl h2' (fun hl => skip_stop hs hk hl)
          simp only [e]
          exact this (by rw [← e]; exact hl)
    refine clear_of (k1 := (skipAt s z.k false).1) (Prod.ext rfl ?_) hk hp
    cases h with
    | stop hb' => exact absurd hb hb'
    | close hb hs hc =>
      rw [hz] at hs
      simp only at ho
      rw [← hs, ho]
    | elem hb hs hc hv ha =>
      rw [hz] at hs
      have := VO_odd hnd m _ _ _ _ hv (AO_odd hnd m _ _ _ _ ha ho)
      simp only at this
      rw [← hs, this]
  · have e : skipAt s z.k false = (z.k, false) := skip_end (by omega)
    rw [e, List.drop_eq_nil_of_le (by omega)]
    simp only [Nat.sub_self]
    exact ⟨rfl, fun h => by cases h⟩

def PEndN (W0 w : World) (p : Nat) (s : List UInt8) (d : Nat) (z' : Z) (e : Ending) (w' : World) : Prop :=
  ErrN W0 w p e w' ∨ ∃ val, IVal val ∧ ((z'.bad = 0 ∧ OkP w p (s.drop z'.k) val e w') ∨ (z'.bad ≠ 0 ∧ 0 < d ∧ OkP w p [] val e w'))
theorem pEnd_of {W0 w : World} {p d : Nat} {s : List UInt8} {z' : Z} {e : Ending} {w' : World} (h : (True ∧ ErrN W0 w p e w') ∨ ∃ v rest, (IVal v ∧ ((z'.bad = 0 ∧ rest = s.drop z'.k) ∨ (z'.bad ≠ 0 ∧ 0 < d ∧ rest = []))) ∧ OkP w p rest v e w') : PEndN W0 w p s d z' e w' := by
  rcases h with ⟨_, h⟩ | ⟨v, rest, ⟨hv, ⟨h1, rfl⟩ | ⟨h1, h2, rfl⟩⟩, hok⟩
  · exact .inl h
  · exact .inr ⟨v, hv, .inl ⟨h1, hok⟩⟩
  · exact .inr ⟨v, hv, .inr ⟨h1, h2, hok⟩⟩
theorem pEnd_to {W0 w : World} {p d : Nat} {s : List UInt8} {z' : Z} {e : Ending} {w' : World} (h : PEnd W0 w p s d z' e w') : (True ∧ ErrP W0 w p e w') ∨ ∃ v rest, (IVal v ∧ ((z'.bad = 0 ∧ rest = s.drop z'.k) ∨ (z'.bad ≠ 0 ∧ 0 < d ∧ rest = []))) ∧ OkP w p rest v e w' := by
  rcases h with h | ⟨v, hv, ⟨h1, hok⟩ | ⟨h1, h2, hok⟩⟩
  · exact .inl ⟨trivial, h⟩
  · exact .inr ⟨v, _, ⟨hv, .inl ⟨h1, rfl⟩⟩, hok⟩
  · exact .inr ⟨v, _, ⟨hv, .inr ⟨h1, h2, rfl⟩⟩, hok⟩

/-- What parseObjectContext does at each place at which the reader reads a value. -/
def CtxSaid (pf : List UInt8 → Nat) (s : List UInt8) (W0 : World) (m : Nat) : Prop :=
  ∀ (d : Nat) (z : Z) (v : SVal) (z' : Z), VO pf s noDict m d z v z' → z.bad = 0 → Rel z' → (z.ends = true → s.length ≤ z.k ∧ 0 < d) → ∀ t : List UInt8, (t = s.drop z.k ∨ (s.length ≤ z.k ∧ t = [37])) → ∀ (lv p : Nat) (rx : Bool) (w : World), lv ≤ 101 → Below W0.heap.size W0 w → W0.heap.size ≤ p → Blk w p 9 #[S t] →
    Calls Tryz.prog 81 (pargs p lv rx) w (PEndN W0 w p s d z')

theorem arr_said {pf : List UInt8 → Nat} {s : List UInt8} {W0 : World} (hG : PG pf W0) (hnd : noDD s) (hs : s.length ≤ 100000) {m : Nat} (ih : CtxSaid pf s W0 m) {d k1 : Nat} {l : List SVal} {z' : Z} (hk : k1 < s.length) (hc : s[k1].toNat = 91) (hA : AOut (VO pf s noDict m) s (d + 1) ⟨k1 + 1, 0, false, false⟩ l z') (hR : Rel z') (lv p : Nat) (rx : Bool) (w : World) (hlv : lv ≤ 101) (hW : Below W0.heap.size W0 w) (hp : W0.heap.size ≤ p) (hL : Blk w p 9 #[S (s.drop k1)]) :
    Calls Tryz.prog 114 (pargs p lv rx) w (PArr W0 w p s z') := by
  have e : s.drop k1 = 91 :: s.drop (k1 + 1) := by rw [List.drop_eq_getElem_cons hk]; congr 1; exact UInt8.toNat_inj.1 hc
  rw [e] at hL
  have h2 : z'.bad ≠ 2 := by rcases hR.2 with h | h <;> omega
  have hl0 : (s.drop (k1 + 1)).length = s.length - (k1 + 1) := List.length_drop ..
  obtain ⟨H, hH⟩ : ∃ H : Nat → List UInt8 → Prop, H = fun g tt => ∃ (zz : Z) (ll : List SVal), AOut (VO pf s noDict m) s (d + 1) zz ll z' ∧ zz.bad = 0 ∧ zz.ends = false ∧ g = s.length - zz.k ∧ (tt = s.drop (skipAt s zz.k false).1 ∨ (s.length ≤ (skipAt s zz.k false).1 ∧ tt = [37])) := ⟨_, rfl⟩
  have enter : ∀ (zz : Z) (ll : List SVal), AOut (VO pf s noDict m) s (d + 1) zz ll z' → zz.bad = 0 → zz.ends = false → ∀ r : List UInt8, (r = (s.drop zz.k).drop ((skipAt s zz.k false).1 - zz.k) ∨ ((skipAt s zz.k false).1 - zz.k = (s.drop zz.k).length ∧ r = [37])) → H (s.length - zz.k) r := by
    intro zz ll h1 h3 h4 r hr
    rw [hH]
    refine ⟨zz, ll, h1, h3, h4, rfl, ?_⟩
    have := skipAt_ge s zz.k false
    rcases hr with hr | ⟨hr, hr'⟩
    · left
      rw [hr, List.drop_drop]
      congr 1
      omega
    · right
      rw [List.length_drop] at hr
      exact ⟨by omega, hr'⟩
  refine (arr_walk (s.drop (k1 + 1)) ((skipAt s (k1 + 1) false).1 - (k1 + 1)) (s.length - (k1 + 1)) p lv rx W0 w H (fun rest => z'.bad = 0 ∧ rest = s.drop z'.k) hG.glob hW hp (by omega) (by omega) (by omega) hL ?_ ?_ ?_ ?_).mono ?_
  · exact AO_clear hnd hA rfl hR.1 h2
  · intro r hr _
    exact enter _ _ hA rfl rfl r hr
  · intro g tt l' hh htt
    rw [hH] at hh
    obtain ⟨zz, ll, h1, h3, h4, rfl, h5⟩ := hh
    have hzo := AO_odd hnd m _ _ _ _ h1 hR.1
    have h5' : tt = s.drop (skipAt s zz.k false).1 := by
      rcases h5 with h | ⟨_, h⟩
      · exact h
      · rw [h] at htt; injection htt with htt _; exact absurd htt (by decide)
    have hlt : (skipAt s zz.k false).1 < s.length := by
      rcases Nat.lt_or_ge (skipAt s zz.k false).1 s.length with h | h
      · exact h
      · rw [List.drop_eq_nil_of_le h] at h5'; rw [h5'] at htt; cases htt
    cases h1 with
    | stop hb => exact absurd h3 hb
    | close hb hss hcc =>
      rw [hzo] at hss
      rename_i ka oa
      have ea : (skipAt s zz.k false).1 = ka := congrArg Prod.fst hss.symm
      refine ⟨rfl, ?_⟩
      simp only
      rw [ea] at h5' hlt
      rw [h5', List.drop_eq_getElem_cons hlt] at htt
      injection htt with _ htt
      exact htt.symm
    | elem hb hss hcc hv ha =>
      rw [hzo] at hss
      rename_i zb ka oa va la
      have ea : (skipAt s zz.k false).1 = ka := congrArg Prod.fst hss.symm
      rw [ea] at h5'
      rw [← h5', htt] at hcc
      simp [List.isPrefixOf] at hcc
  · intro g tt hh hno hlv1 htl w q hW hq hLq
    rw [hH] at hh
    obtain ⟨zz, ll, h1, h3, h4, rfl, h5⟩ := hh
    have hzo := AO_odd hnd m _ _ _ _ h1 hR.1
    cases h1 with
    | stop hb => exact absurd h3 hb
    | close hb hss hcc =>
      rw [hzo] at hss
      rename_i ka oa
      have ea : (skipAt s zz.k false).1 = ka := congrArg Prod.fst hss.symm
      rw [ea] at h5
      have hlt : ka < s.length := by
        rcases Nat.lt_or_ge ka s.length with h | h
        · exact h
        · rw [List.drop_eq_nil_of_le h] at hcc; simp [List.isPrefixOf] at hcc
      rw [List.drop_eq_getElem_cons hlt] at hcc h5
      simp [List.isPrefixOf] at hcc
      rcases h5 with h | ⟨h, _⟩
      · exact absurd (by rw [h, ← hcc]) (hno (s.drop (ka + 1)))
      · omega
    | elem hb hss hcc hv ha =>
      rw [hzo] at hss
      rename_i zb ka oa va la
      have ea : (skipAt s zz.k false).1 = ka := congrArg Prod.fst hss.symm
      rw [ea] at h5
      have hzk := skipAt_ge s zz.k false
      rw [ea] at hzk
      have hob : zb.odd = false := AO_odd hnd m _ _ _ _ ha hR.1
      have hRb : Rel zb := by
        by_cases hb0 : zb.bad = 0
        · exact ⟨hob, .inl hb0⟩
        · rw [← AO_stop ha hb0]; exact hR
      have hoa : oa = false := VO_odd hnd m _ _ _ _ hv hob
      subst hoa
      refine (ih (d + 1) _ va zb hv rfl hRb (fun he => ⟨?_, by omega⟩) tt h5 (lv + 1) q rx w (by omega) hW hq hLq).mono ?_
      · simp only [h4, Bool.false_or, decide_eq_true_eq] at he ⊢
        exact he
      · intro e w' hpe
        rcases hpe with hpe | ⟨val, hval, ⟨hb0, hok⟩ | ⟨hb0, hd0, hok⟩⟩
        · exact .inl hpe.err
        · refine .inr ⟨val, s.drop zb.k, ⟨hval, by rw [List.length_drop]; omega, fun hne => ⟨(skipAt s zb.k false).1 - zb.k, s.length - zb.k, AO_clear hnd ha hb0 hR.1 h2, ?_, ?_⟩⟩, hok⟩
          · obtain ⟨q1, q2, q3⟩ := VO_far hnd m _ _ _ _ hv hb0
            simp only at q1 q2
            omega
          · intro r hr _
            obtain ⟨q1, q2, q3⟩ := VO_far hnd m _ _ _ _ hv hb0
            refine enter zb la ha hb0 ?_ r hr
            rw [q3]
            simp only at q1 ⊢
            rw [h4, decide_eq_false (by omega)]
            rfl
        · exact .inr ⟨val, [], ⟨hval, by simp, fun hne => absurd rfl hne⟩, hok⟩
  · intro e w' h
    rcases h with h | ⟨rest, a, sp, sa, sb, ⟨h1, rfl⟩, h3, h4, h5, h6⟩
    · exact .inl h
    · exact .inr ⟨h1, a, sp, sa, sb, h3, h4, h5, h6⟩
end Go.Proofs.YtcpijmbdibgdmaaGreatDoor

namespace Go.Proofs.YtcpijmbdibgdmaaGreatDoor
open Go.RowKit

theorem val_said {pf : List UInt8 → Nat} {s : List UInt8} {W0 : World} (hG : PG pf W0) (hnd : noDD s) (hs : s.length ≤ 100000) {m : Nat} (ih : CtxSaid pf s W0 m) {d k1 : Nat} {z z' : Z} {v : SVal} (hzb : z.bad = 0) (hze : z.ends = true → s.length ≤ k1) (hk : k1 < s.length) (hw : whiteB (s[k1]'hk) = false)
    (h : VStep pf s (AOut (VO pf s noDict m) s) (noDict m) d z k1 false v z') (hR : Rel z') (lv p : Nat) (rx : Bool) (w : World) (hlv : lv ≤ 101) (hW : Below W0.heap.size W0 w) (hp : W0.heap.size ≤ p) (hL : Blk w p 9 #[S (s.drop k1)]) :
    Calls Tryz.prog 98 (pargs p lv rx) w (PEnd W0 w p s d z') := by
  have hcons : s.drop k1 = s[k1] :: s.drop (k1 + 1) := List.drop_eq_getElem_cons hk
  have hl0 : (s.drop k1).length = s.length - k1 := List.length_drop ..
  have h0 : 0 < (s.drop k1).length := by omega
  have hg0 : (s.drop k1)[0]'h0 = s[k1] := by rw [List.getElem_drop]; rfl
  have hze' : z.ends = false := by
    cases he : z.ends with
    | false => rfl
    | true => have := hze he; omega
  obtain ⟨hRo, hRb⟩ := hR
  cases h with
  | bad hb => exact absurd hzb hb
  | deep hb hd => rcases hRb with h | h <;> simp at h
  | over hb hd hk' => omega
  | lit hb hd hk' hc hl =>
    rename_i out q
    have hpar := par_litAt s k1 hk hc
    rw [hl] at hpar
    have hlt := litAt_lt hl
    refine val_lit (s.drop k1) s p lv d rx _ W0 w hG.glob hW hp (by omega) h0 (by rw [hg0]; exact hc) hL (fun i hi => ⟨rfl, ?_⟩)
    rw [hpar] at hi
    simp only [Option.map_some, Option.some.injEq] at hi
    simp only
    rw [List.drop_drop]
    congr 1
    omega
  | litOpen hb hd hk' hc hl =>
    have hpar := par_litAt s k1 hk hc
    rw [hl] at hpar
    refine val_lit (s.drop k1) s p lv d rx _ W0 w hG.glob hW hp (by omega) h0 (by rw [hg0]; exact hc) hL (fun i hi => ?_)
    rw [hpar] at hi
    cases hi
  | dict hb hd hk' hc hD => rw [hnd k1] at hc; cases hc
  | hex hb hd hk' hc hn hx =>
    rename_i x
    subst hx
    have hcode : (hexAt s k1 false).1 = 0 := by
      rcases hRb with h | ⟨_, h⟩
      · exact h
      · simp only at h; rw [hze'] at h; cases h
    obtain ⟨i, hi1, hi2, hi3, hi4⟩ := hexM_idx (s.drop (k1 + 1)) 0 false hcode hRo
    have h60 : s[k1] = 60 := UInt8.toNat_inj.1 hc
    refine val_hex (s.drop k1) s ((s.drop (k1 + 1)).drop (i + 1)) p lv d rx _ W0 w hW hp h0 (by rw [hg0]; exact hc) hL ?_ hcode ?_
    · intro w hW hL
      rw [hcons, h60] at hL
      rcases hr : s.drop (k1 + 1) with _ | ⟨c, r⟩
      · rw [hr] at hi3; simp at hi3
      · rw [hr] at hL hi2 hi3 hi4
        have hlr : r.length ≤ s.length := by have := congrArg List.length hr; rw [List.length_drop] at this; simp at this; omega
        refine hexOr_any c r i p lv rx W0 w hG.tabs hW hp (by omega) ?_ hi2 hi3 hi4 hL
        intro e
        rw [hcons, h60, hr] at hn
        have : c = 60 := UInt8.toNat_inj.1 e
        rw [this] at hn
        simp [List.isPrefixOf] at hn
    · have : (hexAt s k1 false).2.2.1 = i + 1 + (k1 + 1) := by unfold hexAt; simp only; rw [hi1]
      simp only
      rw [this, List.drop_drop]
      congr 1
      omega
  | name hb hd hk' hc hx =>
    rename_i x
    subst hx
    have hcode : (nameAt s k1 false).1.isSome = true := by
      rcases hRb with h | ⟨h, _⟩ <;> simp only at h
      · split at h
        · assumption
        · cases h
      · split at h <;> cases h
    have h47 : s[k1] = 47 := UInt8.toNat_inj.1 hc
    unfold nameAt at hRo hcode
    simp only [Bool.or_eq_false_iff] at hRo hcode
    obtain ⟨hcl, hnx, hall⟩ := word_next ends_name (s.drop (k1 + 1)) hRo.1 (by rw [List.drop_drop]; exact hRo.2)
    rw [hcons, h47] at hL
    refine val_name (s.drop (k1 + 1)) s _ p lv d rx _ pf W0 w hG hW hp (by rw [List.length_drop]; omega) hL hcl hnx hall hcode ?_ ?_
    · simp only [nameAt, hcode, if_true]
    · simp only [nameAt]
      rw [List.drop_drop]
  | arr hb hd hk' hc hA' =>
    rw [hze'] at hA'
    refine val_arr (s.drop k1) s p lv d rx z' W0 w hW hp h0 (by rw [hg0]; exact hc) hL (fun w hW hL => ?_)
    exact arr_said hG hnd hs ih hk hc hA' ⟨hRo, hRb⟩ lv p rx w hlv hW hp hL
  | delim hb hd hk' hc hdl =>
    rcases hRb with h | ⟨_, h⟩
    · cases h
    · simp only at h; rw [hze'] at h; cases h
  | num hb hd hk' hdl hx =>
    rename_i x
    have hcode : x.2.2.2 = 0 := by
      rcases hRb with h | ⟨_, h⟩
      · exact h
      · simp only at h; rw [hze'] at h; cases h
    have hn := num_ok hk hw hdl hx hRo hcode
    refine (val_num (s.drop k1) (s.drop x.2.1) x.1 p lv rx pf W0 w hG hW hp (by omega) hL (fun h => ?_) hn).mono ?_
    · rw [hg0]
      unfold delimB at hdl
      simp at hdl
      omega
    · rintro e w' ⟨val, hv, _, hok⟩
      exact .inr ⟨val, hv, .inl ⟨hcode, hok⟩⟩

theorem ctx_all {pf : List UInt8 → Nat} {s : List UInt8} {W0 : World} (hG : PG pf W0) (hnd : noDD s) (hs : s.length ≤ 100000) : ∀ m, CtxSaid pf s W0 m
  | 0 => fun d z v z' h => h.elim
  | m + 1 => by
    have ih := ctx_all hG hnd hs m
    intro d z v z' h hzb hR hze t ht lv p rx w hlv hW hp hL
    unfold VO VOne at h
    have h2 : z'.bad ≠ 2 := by rcases hR.2 with h | h <;> omega
    obtain ⟨⟨k1, o1⟩, ha⟩ : ∃ a, a = skipAt s z.k z.odd := ⟨_, rfl⟩
    rw [← ha] at h
    simp only at h
    have ho1 : o1 = false := VStep.odd (AO_odd hnd m) hnd h hR.1
    subst ho1
    have hzo : z.odd = false := skip_odd (by rw [← ha])
    rw [hzo] at ha
    by_cases hk : s.length ≤ z.k
    · rw [skip_end hk] at ha
      injection ha with ha _
      subst ha
      have hov : z'.bad ≠ 0 ∧ 0 < d := by
        cases h with
        | bad hb => exact absurd hzb hb
        | deep hb hd => exact absurd rfl h2
        | over hb hd hk' =>
          refine ⟨by simp, ?_⟩
          rcases hR.2 with h | ⟨_, h⟩
          · cases h
          · simp only [Bool.or_eq_true, decide_eq_true_eq] at h
            rcases h with h | h
            · exact (hze h).2
            · exact h
        | lit hb hd hk' => omega
        | litOpen hb hd hk' => omega
        | dict hb hd hk' => omega
        | hex hb hd hk' => omega
        | name hb hd hk' => omega
        | arr hb hd hk' => omega
        | delim hb hd hk' => omega
        | num hb hd hk' => omega
      rcases ht with ht | ⟨_, ht⟩
      · rw [List.drop_eq_nil_of_le hk] at ht
        subst ht
        exact (ctx_walk [] 0 p lv rx W0 w _ True hG.glob hW hp (by simp) (by omega) hL (fun _ => trivial) (fun _ => trivial) (fun _ => trivial) (fun h => by simp at h) (fun h => by simp at h)).mono fun e w' h => pEnd_of h
      · subst ht
        refine (ctx_walk [37] 1 p lv rx W0 w _ True hG.glob hW hp (by simp) (by omega) hL (fun _ => trivial) (fun _ => trivial) (fun _ => trivial) (fun _ _ => ⟨by decide, fun h => by simp at h⟩) (fun _ _ r hr h0 w q hW hq hLq => ?_)).mono fun e w' h => pEnd_of h
        have hr' : r = [37] := by
          rcases hr with h | ⟨_, h⟩
          · rw [h] at h0; simp at h0
          · exact h
        subst hr'
        refine (val_pct q lv rx pf W0 w hG hW hq hLq).mono ?_
        rintro e w' ⟨val, hv, hok⟩
        exact .inr ⟨val, [], ⟨hv, .inr ⟨hov.1, hov.2, rfl⟩⟩, hok⟩
    · have ht' : t = s.drop z.k := by
        rcases ht with h | ⟨h, _⟩
        · exact h
        · omega
      subst ht'
      have hk' : z.k ≤ s.length := by omega
      have hge : z.k ≤ k1 := by have := skipAt_ge s z.k false; rw [← ha] at this; exact this
      have hkl : k1 ≤ s.length := by have := skipAt_le (s := s) (o := false) hk'; rw [← ha] at this; exact this
      have hcl : Clear (s.drop z.k) (k1 - z.k) := clear_of ha hk' (VStep.plain (AO_odd hnd m) hnd h hR.1 hzb h2 (fun hl => skip_stop ha hk' hl))
      have hdd : (s.drop z.k).drop (k1 - z.k) = s.drop k1 := drop_sub hge
      have hzl : (s.drop z.k).length = s.length - z.k := List.length_drop ..
      have hzef : z.ends = false := by
        cases he : z.ends with
        | false => rfl
        | true => have := (hze he).1; omega
      refine (ctx_walk (s.drop z.k) (k1 - z.k) p lv rx W0 w _ True hG.glob hW hp (by omega) (by omega) hL (fun _ => trivial) (fun _ => trivial) (fun _ => trivial) (fun _ _ => hcl) (fun _ _ r hr h0 w q hW hq hLq => ?_)).mono fun e w' h => pEnd_of h
      rw [hdd] at hr
      by_cases hkk : k1 < s.length
      · have hr' : r = s.drop k1 := by
          rcases hr with h | ⟨h, _⟩
          · exact h
          · omega
        subst hr'
        exact (val_said hG hnd hs ih hzb (fun he => by rw [hzef] at he; cases he) hkk (skip_stop ha hk' hkk) h hR lv q rx w hlv hW hq hLq).mono fun e w' h => pEnd_to h
      · have hr' : r = [37] := by
          rcases hr with h | ⟨_, h⟩
          · rw [h, List.drop_eq_nil_of_le (by omega)] at h0; simp at h0
          · exact h
        subst hr'
        have hov : z'.bad ≠ 0 ∧ 0 < d := by
          cases h with
          | bad hb => exact absurd hzb hb
          | deep hb hd => exact absurd rfl h2
          | over hb hd hk' =>
            refine ⟨by simp, ?_⟩
            rcases hR.2 with h | ⟨_, h⟩
            · cases h
            · simp only [Bool.or_eq_true, decide_eq_true_eq] at h
              rcases h with h | h
              · exact (hze h).2
              · exact h
          | lit hb hd hk' => omega
          | litOpen hb hd hk' => omega
          | dict hb hd hk' => omega
          | hex hb hd hk' => omega
          | name hb hd hk' => omega
          | arr hb hd hk' => omega
          | delim hb hd hk' => omega
          | num hb hd hk' => omega
        refine (val_pct q lv rx pf W0 w hG hW hq hLq).mono ?_
        rintro e w' ⟨val, hv, hok⟩
        exact .inr ⟨val, [], ⟨hv, .inr ⟨hov.1, hov.2, rfl⟩⟩, hok⟩
/-- A text that ends within a literal string or an array: an error. -/
theorem ctx_unended {pf : List UInt8 → Nat} {s : List UInt8} {W0 : World} (hG : PG pf W0) (hs : s.length ≤ 100000) (hU : UnOut pf s) (lv p : Nat) (rx : Bool) (w : World) (hlv : lv ≤ 101) (hW : Below W0.heap.size W0 w) (hp : W0.heap.size ≤ p) (hL : Blk w p 9 #[S s]) :
    Calls Tryz.prog 81 (pargs p lv rx) w (ErrN W0 w p) := by
  obtain ⟨hnd, v, z', hv, hb, he, ho⟩ := hU
  refine (ctx_all hG hnd hs (s.length + 1) 0 ⟨0, 0, false, false⟩ v z' hv rfl ⟨ho, .inr ⟨hb, he⟩⟩ (fun h => by cases h) s (.inl rfl) lv p rx w hlv hW hp hL).mono ?_
  rintro e w' (h | ⟨val, hval, ⟨h0, _⟩ | ⟨_, h0, _⟩⟩)
  · exact h
  · omega
  · omega
end Go.Proofs.YtcpijmbdibgdmaaGreatDoor

namespace Go.Proofs.YtcpijmbdibgdmaaGreatDoor
open Go.RowKit Go.Extern.Stop Go.Stop Go.Extern
attribute [local go_sem] ba_get store_flt

theorem Tryz.isTypeOf (v : Value) (w : World) : (Extern.ReflectliteType.typeOf #[.iface 207 v]).run Tryz.prog w = .ok (.iface 179 (.agg #[.pointer (some ⟨29, 207, none⟩)])) w := by kernel_rfl
theorem Tryz.isComparable (w : World) : ((Extern.ReflectliteType.method fun t => do Extern.Rtype.noPackHeld "Comparable" t; (fun a => Value.bool a.comparable) <$> typeInfo t) #[.agg #[.pointer (some ⟨29, 207, none⟩)]]).run Tryz.prog w = .ok (.bool true) w := by kernel_rfl
theorem Tryz.isMethodComparable (v : Value) (w : World) : (Go.method 478 179 v "Comparable").run Tryz.prog w = .ok (312, v) w := by kernel_rfl
theorem Tryz.noIsE (v : Value) (xT : TypeId) (w : World) : (Instr.typeAssert (.iface 207 v) xT 181 true).run Tryz.prog w = .ok (.tuple #[.nilIface, .bool false]) w := run_typeAssert_lacksB Tryz.underlying181 (by kernel_rfl) (by kernel_rfl) v xT w
theorem Tryz.noUnwrapE (v : Value) (xT : TypeId) (w : World) : (Instr.typeAssert (.iface 207 v) xT 184 true).run Tryz.prog w = .ok (.tuple #[.nilIface, .bool false]) w := run_typeAssert_lacksB Tryz.underlying184 (by kernel_rfl) (by kernel_rfl) v xT w
theorem Tryz.noUnwrapsE (v : Value) (xT : TypeId) (w : World) : (Instr.typeAssert (.iface 207 v) xT 185 true).run Tryz.prog w = .ok (.tuple #[.nilIface, .bool false]) w := run_typeAssert_lacksB Tryz.underlying185 (by kernel_rfl) (by kernel_rfl) v xT w

set_option maxHeartbeats 2000000 in
set_option maxRecDepth 100000 in
theorem errIs_any (a b : Addr) (W0 w : World) (hW : Below W0.heap.size W0 w) (ha : IsErr W0 a) (hb : IsErr W0 b) :
    Calls Tryz.prog 82 #[.iface 207 (.pointer (some a)), .iface 207 (.pointer (some b))] w fun e w' => (∃ t, e = .returned (.bool t)) ∧ w = w' := by
  have h8 := @run_callFunc_extern Tryz.prog 99 _ Extern.ReflectliteType.typeOf Tryz.func99 (by kernel_rfl) (by kernel_rfl) (by kernel_rfl) (by kernel_rfl)
  have h32 := @run_callFunc_extern Tryz.prog 312 _ (Extern.ReflectliteType.method fun t => do Extern.Rtype.noPackHeld "Comparable" t; pure (.bool (← typeInfo t).comparable)) Tryz.func312 (by kernel_rfl) (by kernel_rfl) (by kernel_rfl) (by kernel_rfl)
  have tT := Tryz.isTypeOf
  have cT := Tryz.isComparable
  have mR := Tryz.isMethodComparable
  have nE := Tryz.noIsE
  have uE := Tryz.noUnwrapE
  have vE := Tryz.noUnwrapsE
  obtain ⟨t, ht⟩ := err_eql ha hb
  have heq := ht w hW
  clear ht
  cases t with
  | true =>
    go_enter Tryz.func82, Tryz.ntmps82
    go_wp2
    refine wp_loop_rounds 1 ?_
    rw [rounds_succ]
    go_wp2
    go_ret
    exact ⟨⟨_, rfl⟩, rfl⟩
  | false =>
    go_enter Tryz.func82, Tryz.ntmps82
    go_wp2
    refine wp_loop_rounds 1 ?_
    rw [rounds_succ]
    go_wp2
    go_ret
    exact ⟨⟨_, rfl⟩, rfl⟩
end Go.Proofs.YtcpijmbdibgdmaaGreatDoor
