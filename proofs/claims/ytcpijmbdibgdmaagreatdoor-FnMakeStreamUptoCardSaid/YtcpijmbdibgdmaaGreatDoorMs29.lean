/-
  spec.only.
  spec.fromObject.
  spec.fromObject, kind by kind.
  spec.fromObject, kind by kind.
  spec.fromObject, kind by kind.
  spec.fromObject, kind by kind.
-/
import Derived.Test.YtcpijmbdibgdmaaGreatDoorMs28
set_option linter.all false
set_option maxHeartbeats 16000000
set_option maxRecDepth 100000
namespace Go.Proofs.YtcpijmbdibgdmaaGreatDoor
open Go.RowKit
attribute [local go_sem] ba_get store_flt
theorem only_9 (n g : Int) (x : Nat) (t : List UInt8) (A A2 : Option Addr) (nk kc nl lc : Nat) (w : World) (hk : nk ≤ 1048576) (hl : nl ≤ 1048576) :
 Calls Tryz.prog 53 #[.agg #[.int .i64 9,.int .i64 n,.int .i64 g,.float .f64 x,S t,.slice A nk kc,.slice A2 nl lc]] w fun e w' => e = .returned (.bool (onlyB 9 n g x t nk nl)) ∧ Below w.heap.size w w' := by
 by_cases hn : n = 0
 · subst hn;by_cases hg : g = 0
   · subst hg;by_cases hx : FloatKind.f64.format.order x 0 = some Ordering.eq
     ·
      by_cases ht : t = []
      · subst ht;by_cases hk0 : nk = 0
        · subst hk0;by_cases hl0 : nl = 0
          · subst hl0;go_enter Tryz.func53,Tryz.ntmps53;go_wp2_with fail;go_ret;exact ⟨ret_bool (by simp [onlyB,relNZ,hx]),(Below.refl _ _).alloc (Nat.le_refl _) _⟩
          have hl1 : ((nl : Int) == 0) = false := by rw [beq_eq_false_iff_ne];omega
          go_enter Tryz.func53,Tryz.ntmps53;go_wp2_with fail;go_ret;exact ⟨ret_bool (by simp [onlyB,relNZ,hx,hl0]),(Below.refl _ _).alloc (Nat.le_refl _) _⟩
        have hk1 : ((nk : Int) == 0) = false := by rw [beq_eq_false_iff_ne];omega
        go_enter Tryz.func53,Tryz.ntmps53;go_wp2_with fail;go_ret;exact ⟨ret_bool (by simp [onlyB,relNZ,hx,hk0]),(Below.refl _ _).alloc (Nat.le_refl _) _⟩
      · have ht1 : t.isEmpty = false := by simpa using ht
        go_enter Tryz.func53,Tryz.ntmps53;go_wp2_with fail;go_ret;exact ⟨ret_bool (by simp [onlyB,relNZ,hx,ht]),(Below.refl _ _).alloc (Nat.le_refl _) _⟩
     ·
      have hx1 : (FloatKind.f64.format.order x 0 != some Ordering.eq) = true := by simpa using hx
      go_enter Tryz.func53,Tryz.ntmps53;go_wp2_with fail;go_ret;exact ⟨ret_bool (by simp [onlyB,relNZ,hx]),(Below.refl _ _).alloc (Nat.le_refl _) _⟩
   have hg1 : (g != 0) = true := by simpa using hg
   have hg2 : (g == 0) = false := by simpa using hg
   by_cases hx : FloatKind.f64.format.order x 0 = some Ordering.eq
   ·
    by_cases ht : t = []
    · subst ht;by_cases hk0 : nk = 0
      · subst hk0;by_cases hl0 : nl = 0
        · subst hl0;go_enter Tryz.func53,Tryz.ntmps53;go_wp2_with fail;go_ret;exact ⟨ret_bool (by simp [onlyB,relNZ,hg,hx]),(Below.refl _ _).alloc (Nat.le_refl _) _⟩
        have hl1 : ((nl : Int) == 0) = false := by rw [beq_eq_false_iff_ne];omega
        go_enter Tryz.func53,Tryz.ntmps53;go_wp2_with fail;go_ret;exact ⟨ret_bool (by simp [onlyB,relNZ,hg,hx,hl0]),(Below.refl _ _).alloc (Nat.le_refl _) _⟩
      have hk1 : ((nk : Int) == 0) = false := by rw [beq_eq_false_iff_ne];omega
      go_enter Tryz.func53,Tryz.ntmps53;go_wp2_with fail;go_ret;exact ⟨ret_bool (by simp [onlyB,relNZ,hg,hx,hk0]),(Below.refl _ _).alloc (Nat.le_refl _) _⟩
    · have ht1 : t.isEmpty = false := by simpa using ht
      go_enter Tryz.func53,Tryz.ntmps53;go_wp2_with fail;go_ret;exact ⟨ret_bool (by simp [onlyB,relNZ,hg,hx,ht]),(Below.refl _ _).alloc (Nat.le_refl _) _⟩
   ·
    have hx1 : (FloatKind.f64.format.order x 0 != some Ordering.eq) = true := by simpa using hx
    go_enter Tryz.func53,Tryz.ntmps53;go_wp2_with fail;go_ret;exact ⟨ret_bool (by simp [onlyB,relNZ,hg,hx]),(Below.refl _ _).alloc (Nat.le_refl _) _⟩
 · have hn1 : (n != 0) = true := by simpa using hn
   have hn2 : (n == 0) = false := by simpa using hn
   by_cases hg : g = 0
   · subst hg;by_cases hx : FloatKind.f64.format.order x 0 = some Ordering.eq
     ·
      by_cases ht : t = []
      · subst ht;by_cases hk0 : nk = 0
        · subst hk0;by_cases hl0 : nl = 0
          · subst hl0;go_enter Tryz.func53,Tryz.ntmps53;go_wp2_with fail;go_ret;exact ⟨ret_bool (by simp [onlyB,relNZ,hn,hx]),(Below.refl _ _).alloc (Nat.le_refl _) _⟩
          have hl1 : ((nl : Int) == 0) = false := by rw [beq_eq_false_iff_ne];omega
          go_enter Tryz.func53,Tryz.ntmps53;go_wp2_with fail;go_ret;exact ⟨ret_bool (by simp [onlyB,relNZ,hn,hx,hl0]),(Below.refl _ _).alloc (Nat.le_refl _) _⟩
        have hk1 : ((nk : Int) == 0) = false := by rw [beq_eq_false_iff_ne];omega
        go_enter Tryz.func53,Tryz.ntmps53;go_wp2_with fail;go_ret;exact ⟨ret_bool (by simp [onlyB,relNZ,hn,hx,hk0]),(Below.refl _ _).alloc (Nat.le_refl _) _⟩
      · have ht1 : t.isEmpty = false := by simpa using ht
        go_enter Tryz.func53,Tryz.ntmps53;go_wp2_with fail;go_ret;exact ⟨ret_bool (by simp [onlyB,relNZ,hn,hx,ht]),(Below.refl _ _).alloc (Nat.le_refl _) _⟩
     ·
      have hx1 : (FloatKind.f64.format.order x 0 != some Ordering.eq) = true := by simpa using hx
      go_enter Tryz.func53,Tryz.ntmps53;go_wp2_with fail;go_ret;exact ⟨ret_bool (by simp [onlyB,relNZ,hn,hx]),(Below.refl _ _).alloc (Nat.le_refl _) _⟩
   have hg1 : (g != 0) = true := by simpa using hg
   have hg2 : (g == 0) = false := by simpa using hg
   by_cases hx : FloatKind.f64.format.order x 0 = some Ordering.eq
   ·
    by_cases ht : t = []
    · subst ht;by_cases hk0 : nk = 0
      · subst hk0;by_cases hl0 : nl = 0
        · subst hl0;go_enter Tryz.func53,Tryz.ntmps53;go_wp2_with fail;go_ret;exact ⟨ret_bool (by simp [onlyB,relNZ,hn,hg,hx]),(Below.refl _ _).alloc (Nat.le_refl _) _⟩
        have hl1 : ((nl : Int) == 0) = false := by rw [beq_eq_false_iff_ne];omega
        go_enter Tryz.func53,Tryz.ntmps53;go_wp2_with fail;go_ret;exact ⟨ret_bool (by simp [onlyB,relNZ,hn,hg,hx,hl0]),(Below.refl _ _).alloc (Nat.le_refl _) _⟩
      have hk1 : ((nk : Int) == 0) = false := by rw [beq_eq_false_iff_ne];omega
      go_enter Tryz.func53,Tryz.ntmps53;go_wp2_with fail;go_ret;exact ⟨ret_bool (by simp [onlyB,relNZ,hn,hg,hx,hk0]),(Below.refl _ _).alloc (Nat.le_refl _) _⟩
    · have ht1 : t.isEmpty = false := by simpa using ht
      go_enter Tryz.func53,Tryz.ntmps53;go_wp2_with fail;go_ret;exact ⟨ret_bool (by simp [onlyB,relNZ,hn,hg,hx,ht]),(Below.refl _ _).alloc (Nat.le_refl _) _⟩
   ·
    have hx1 : (FloatKind.f64.format.order x 0 != some Ordering.eq) = true := by simpa using hx
    go_enter Tryz.func53,Tryz.ntmps53;go_wp2_with fail;go_ret;exact ⟨ret_bool (by simp [onlyB,relNZ,hn,hg,hx]),(Below.refl _ _).alloc (Nat.le_refl _) _⟩
theorem only_x (kd : Int) (h : kd ≠ 1 ∧ kd ≠ 2 ∧ kd ≠ 3 ∧ kd ≠ 4 ∧ kd ≠ 5 ∧ kd ≠ 6 ∧ kd ≠ 7 ∧ kd ≠ 8 ∧ kd ≠ 9) (n g : Int) (x : Nat) (t : List UInt8) (A A2 : Option Addr) (nk kc nl lc : Nat) (w : World) (hk : nk ≤ 1048576) (hl : nl ≤ 1048576) :
 Calls Tryz.prog 53 #[.agg #[.int .i64 kd,.int .i64 n,.int .i64 g,.float .f64 x,S t,.slice A nk kc,.slice A2 nl lc]] w fun e w' => e = .returned (.bool (onlyB kd n g x t nk nl)) ∧ Below w.heap.size w w' := by
 have k1 : (kd == 1) = false := by rw [beq_eq_false_iff_ne];omega
 have k2 : (kd == 2) = false := by rw [beq_eq_false_iff_ne];omega
 have k3 : (kd == 3) = false := by rw [beq_eq_false_iff_ne];omega
 have k4 : (kd == 4) = false := by rw [beq_eq_false_iff_ne];omega
 have k5 : (kd == 5) = false := by rw [beq_eq_false_iff_ne];omega
 have k6 : (kd == 6) = false := by rw [beq_eq_false_iff_ne];omega
 have k7 : (kd == 7) = false := by rw [beq_eq_false_iff_ne];omega
 have k8 : (kd == 8) = false := by rw [beq_eq_false_iff_ne];omega
 have k9 : (kd == 9) = false := by rw [beq_eq_false_iff_ne];omega
 have q9 : (kd != 9) = true := by rw [bne_iff_ne];omega
 have q3 : (kd != 3) = true := by rw [bne_iff_ne];omega
 have Hm := Lib.hid h;clear h;by_cases hn : n = 0
 · subst hn;by_cases hg : g = 0
   · subst hg;by_cases hx : FloatKind.f64.format.order x 0 = some Ordering.eq
     ·
      by_cases ht : t = []
      · subst ht;by_cases hk0 : nk = 0
        · subst hk0;by_cases hl0 : nl = 0
          · subst hl0;go_enter Tryz.func53,Tryz.ntmps53;go_wp2_with fail;go_ret;obtain ⟨m1,m2,m3,m4,m5,m6,m7,m8,m9⟩ := Hm.out;exact ⟨ret_bool (by simp [onlyB,relNZ,m1,m2,m3,m4,m5,m6,m7,m8,m9,hx]),(Below.refl _ _).alloc (Nat.le_refl _) _⟩
          have hl1 : ((nl : Int) == 0) = false := by rw [beq_eq_false_iff_ne];omega
          go_enter Tryz.func53,Tryz.ntmps53;go_wp2_with fail;go_ret;obtain ⟨m1,m2,m3,m4,m5,m6,m7,m8,m9⟩ := Hm.out;exact ⟨ret_bool (by simp [onlyB,relNZ,m1,m2,m3,m4,m5,m6,m7,m8,m9,hx,hl0]),(Below.refl _ _).alloc (Nat.le_refl _) _⟩
        have hk1 : ((nk : Int) == 0) = false := by rw [beq_eq_false_iff_ne];omega
        go_enter Tryz.func53,Tryz.ntmps53;go_wp2_with fail;go_ret;obtain ⟨m1,m2,m3,m4,m5,m6,m7,m8,m9⟩ := Hm.out;exact ⟨ret_bool (by simp [onlyB,relNZ,m1,m2,m3,m4,m5,m6,m7,m8,m9,hx,hk0]),(Below.refl _ _).alloc (Nat.le_refl _) _⟩
      · have ht1 : t.isEmpty = false := by simpa using ht
        go_enter Tryz.func53,Tryz.ntmps53;go_wp2_with fail;go_ret;obtain ⟨m1,m2,m3,m4,m5,m6,m7,m8,m9⟩ := Hm.out;exact ⟨ret_bool (by simp [onlyB,relNZ,m1,m2,m3,m4,m5,m6,m7,m8,m9,hx,ht]),(Below.refl _ _).alloc (Nat.le_refl _) _⟩
     ·
      have hx1 : (FloatKind.f64.format.order x 0 != some Ordering.eq) = true := by simpa using hx
      go_enter Tryz.func53,Tryz.ntmps53;go_wp2_with fail;go_ret;obtain ⟨m1,m2,m3,m4,m5,m6,m7,m8,m9⟩ := Hm.out;exact ⟨ret_bool (by simp [onlyB,relNZ,m1,m2,m3,m4,m5,m6,m7,m8,m9,hx]),(Below.refl _ _).alloc (Nat.le_refl _) _⟩
   have hg1 : (g != 0) = true := by simpa using hg
   have hg2 : (g == 0) = false := by simpa using hg
   go_enter Tryz.func53,Tryz.ntmps53;go_wp2_with fail;go_ret;obtain ⟨m1,m2,m3,m4,m5,m6,m7,m8,m9⟩ := Hm.out;exact ⟨ret_bool (by simp [onlyB,relNZ,m1,m2,m3,m4,m5,m6,m7,m8,m9,hg]),(Below.refl _ _).alloc (Nat.le_refl _) _⟩
 · have hn1 : (n != 0) = true := by simpa using hn
   have hn2 : (n == 0) = false := by simpa using hn
   go_enter Tryz.func53,Tryz.ntmps53;go_wp2_with fail;go_ret;obtain ⟨m1,m2,m3,m4,m5,m6,m7,m8,m9⟩ := Hm.out;exact ⟨ret_bool (by simp [onlyB,relNZ,m1,m2,m3,m4,m5,m6,m7,m8,m9,hn]),(Below.refl _ _).alloc (Nat.le_refl _) _⟩
theorem only_any (kd n g : Int) (x : Nat) (t : List UInt8) (A A2 : Option Addr) (nk kc nl lc : Nat) (w : World) (hk : nk ≤ 1048576) (hl : nl ≤ 1048576) :
 Calls Tryz.prog 53 #[.agg #[.int .i64 kd,.int .i64 n,.int .i64 g,.float .f64 x,S t,.slice A nk kc,.slice A2 nl lc]] w fun e w' => e = .returned (.bool (onlyB kd n g x t nk nl)) ∧ Below w.heap.size w w' := by
 by_cases h1 : kd = 1
 · subst h1;exact only_1 n g x t A A2 nk kc nl lc w hk hl
 by_cases h2 : kd = 2
 · subst h2;exact only_2 n g x t A A2 nk kc nl lc w hk hl
 by_cases h3 : kd = 3
 · subst h3;exact only_3 n g x t A A2 nk kc nl lc w hk hl
 by_cases h4 : kd = 4
 · subst h4;exact only_4 n g x t A A2 nk kc nl lc w hk hl
 by_cases h5 : kd = 5
 · subst h5;exact only_5 n g x t A A2 nk kc nl lc w hk hl
 by_cases h6 : kd = 6
 · subst h6;exact only_6 n g x t A A2 nk kc nl lc w hk hl
 by_cases h7 : kd = 7
 · subst h7;exact only_7 n g x t A A2 nk kc nl lc w hk hl
 by_cases h8 : kd = 8
 · subst h8;exact only_8 n g x t A A2 nk kc nl lc w hk hl
 by_cases h9 : kd = 9
 · subst h9;exact only_9 n g x t A A2 nk kc nl lc w hk hl
 exact only_x kd ⟨h1,h2,h3,h4,h5,h6,h7,h8,h9⟩ n g x t A A2 nk kc nl lc w hk hl
end Go.Proofs.YtcpijmbdibgdmaaGreatDoor
namespace Go.Proofs.YtcpijmbdibgdmaaGreatDoor
open Go.RowKit
attribute [local go_sem] ba_get store_flt
structure FO (w wr : World) (b b2 : Nat) (C : Array Value) (V : Array Value) : Prop where
 box : Blk wr b 28 C
 out : Blk wr b2 34 V
 below : Below w.heap.size w wr
 hb : b = w.heap.size
 e2 : b2 = b + 1
section
variable {w wr w' : World} {b b2 : Nat} {C V : Array Value}
theorem FO.start {C : Array Value} (h : Below ((w.alloc (.cells C 28)).alloc (.cells vZero 34)).heap.size ((w.alloc (.cells C 28)).alloc (.cells vZero 34)) w') : FO w w' w.heap.size (w.heap.size + 1) C vZero := by
 refine ⟨?_,?_,?_,rfl,rfl⟩
 · exact Blk.below (Blk.alloc (Blk.newAt _ 28 _ _ rfl) _) h (by simp;omega)
 · exact Blk.below (Blk.newAt _ 34 _ _ (by simp)) h (by simp)
 exact ((((Below.refl _ w).alloc (Nat.le_refl _) _).alloc (by simp) _)).trans (h.mono (by simp;omega))
theorem FO.put (h : FO w wr b b2 C vZero) (c0 c1 c2 c3 c4 c5 c6 : Value) : FO w (((((((wr.setCell ⟨b2,0,none⟩ c0).setCell ⟨b2,1,none⟩ c1).setCell ⟨b2,2,none⟩ c2).setCell ⟨b2,3,none⟩ c3).setCell ⟨b2,4,none⟩ c4).setCell ⟨b2,5,none⟩ c5).setCell ⟨b2,6,none⟩ c6) b b2 C #[c0,c1,c2,c3,c4,c5,c6] := by
 have hb := h.hb;have e2 := h.e2;have hput := Blk.put7 (show Blk wr b2 34 #[.int .i64 0,.int .i64 0,.int .i64 0,.float .f64 0,S [],.slice none 0 0,.slice none 0 0] from h.out) c0 c1 c2 c3 c4 c5 c6;refine ⟨((((((h.box.far (by simp only;omega) _).far (by simp only;omega) _).far (by simp only;omega) _).far (by simp only;omega) _).far (by simp only;omega) _).far (by simp only;omega) _).far (by simp only;omega) _,hput,?_,hb,e2⟩;exact ((((((h.below.setCell (p := ⟨b2,0,none⟩) (by simp only;omega) _).setCell (p := ⟨b2,1,none⟩) (by simp only;omega) _).setCell (p := ⟨b2,2,none⟩) (by simp only;omega) _).setCell (p := ⟨b2,3,none⟩) (by simp only;omega) _).setCell (p := ⟨b2,4,none⟩) (by simp only;omega) _).setCell (p := ⟨b2,5,none⟩) (by simp only;omega) _).setCell (p := ⟨b2,6,none⟩) (by simp only;omega) _
theorem FO.drewN (h : FO w wr b b2 C V) (n : Nat) : FO w (wr.drewN n) b b2 C V := ⟨h.box,h.out,below_drewN h.below n,h.hb,h.e2⟩
theorem FO.drew (h : FO w wr b b2 C V) : FO w wr.drew b b2 C V := ⟨h.box,h.out,⟨h.below.os,h.below.tape,h.below.output,h.below.size,h.below.block⟩,h.hb,h.e2⟩
theorem FO.keep (h : FO w wr b b2 C V) (hB : Below wr.heap.size wr w') : FO w w' b b2 C V := ⟨h.box.below hB h.box.lt,h.out.below hB h.out.lt,h.below.trans (hB.mono h.below.size),h.hb,h.e2⟩
end
theorem objM_no {tw : Nat → Bool} {kd n g : Int} {x : Nat} {t : List UInt8} {ks : List (List UInt8)} {l : List OObj} (h : onlyB kd n g x t ks.length l.length = false) : objM tw (.mk kd n g x t ks l) = none := by rw [objM,if_pos h]
theorem fo_no {tw : Nat → Bool} {W0 w w' : World} {o : OObj} {cs : Array Value} (hB : Below w.heap.size w w') (hs : Shp cs) (h : objM tw o = none) : FromPost tw W0 w o (.returned (.tuple #[.agg cs,.bool false])) w' := ⟨cs,false,rfl,hs,hB,.inr ⟨h,rfl⟩⟩
theorem fo_yes {tw : Nat → Bool} {W0 w w' : World} {o : OObj} {cs : Array Value} {p : PObj} (hB : Below w.heap.size w w') (hs : Shp cs) (h : objM tw o = some p) (hv : VRep w' (fun i => i < W0.heap.size ∨ w.heap.size ≤ i) (valP id p) cs.toList) : FromPost tw W0 w o (.returned (.tuple #[.agg cs,.bool true])) w' := ⟨cs,true,rfl,hs,hB,.inl ⟨p,h,rfl,hv⟩⟩
theorem from_0 (tw : Nat → Bool) (W0 : World) (n g : Int) (x : Nat) (t : List UInt8) (ks : List (List UInt8)) (l : List OObj) (A A2 : Option Addr) (kc lc : Nat) (w : World) (hk : ks.length ≤ 1048576) (hl : l.length ≤ 1048576) :
 Calls Tryz.prog 24 #[.agg #[.int .i64 0,.int .i64 n,.int .i64 g,.float .f64 x,S t,.slice A ks.length kc,.slice A2 l.length lc]] w (FromPost tw W0 w (.mk 0 n g x t ks l)) := by
 obtain ⟨C,hC⟩ : ∃ C,C = (ov7 0 n g x t (.slice A ks.length kc) (.slice A2 l.length lc)).toArray := ⟨_,rfl⟩;have HC := Lib.hid hC;clear hC;go_enter Tryz.func24,Tryz.ntmps24;go_wp2_with fail;refine (only_any _ _ _ _ _ _ _ _ _ _ _ _ hk hl).mono ?_;rintro e w2 ⟨rfl,hB⟩;have hS := FO.start (C := C) (by rw [HC.out];exact hB);obtain ⟨b2,hb2⟩ : ∃ b,b = w.heap.size + 1 := ⟨_,rfl⟩;rw [← hb2] at hS ⊢;obtain ⟨b,hb⟩ : ∃ b,b = w.heap.size := ⟨_,rfl⟩;rw [← hb] at hS ⊢;clear hb hb2 hB;obtain ⟨oo,hoo⟩ : ∃ o,o = onlyB 0 n g x t ks.length l.length := ⟨_,rfl⟩;rw [← hoo];have Hoo := Lib.hid hoo;clear hoo;obtain ⟨z0,z1,z2,z3,z4,z5,z6⟩ := res_cells hS.out rfl;have y0 := hS.out.frozen 0;have y1 := hS.out.frozen 1;have y2 := hS.out.frozen 2;have y3 := hS.out.frozen 3;have y4 := hS.out.frozen 4;have y5 := hS.out.frozen 5;have y6 := hS.out.frozen 6
 cases oo with
 | false =>
   go_wp2_with fail;have hP := hS.put (.int .i64 0) (.int .i64 0) (.int .i64 0) (.float .f64 0) (S []) (.slice none 0 0) (.slice none 0 0);refine bodyPost_ret (res_cell2 Tryz.results24 hP.out (by simp) rfl) rfl ?_;exact fo_no hP.below ⟨_,_,_,_,_,_,_,_,_,_,_,rfl⟩ (objM_no Hoo.out.symm)
 | true =>
   have f0 : w2.cell? ⟨b,0,none⟩ = some (.int .i64 0) := (hS.box.cell 0).trans (by rw [HC.out];rfl);have q3 := hS.e2;have nb1 : ¬ b = b2 := by omega
   have nb2 : ¬ b2 = b := by omega
   clear q3;go_wp2_with fail;have hP := hS.put (.int .i64 0) (.int .i64 0) (.int .i64 0) (.float .f64 0) (S []) (.slice none 0 0) (.slice none 0 0);refine bodyPost_ret (res_cell2 Tryz.results24 hP.out (by simp) rfl) rfl ?_;exact fo_yes (p := .null) hP.below ⟨_,_,_,_,_,_,_,_,_,_,_,rfl⟩ (by rw [objM,← Hoo.out];rfl) (by unfold valP VRep;rfl)
theorem from_x (tw : Nat → Bool) (W0 : World) (kd : Int) (hkd : kd ≠ 0 ∧ kd ≠ 1 ∧ kd ≠ 2 ∧ kd ≠ 3 ∧ kd ≠ 4 ∧ kd ≠ 5 ∧ kd ≠ 6 ∧ kd ≠ 7 ∧ kd ≠ 8 ∧ kd ≠ 9) (n g : Int) (x : Nat) (t : List UInt8) (ks : List (List UInt8)) (l : List OObj) (A A2 : Option Addr) (kc lc : Nat) (w : World) (hk : ks.length ≤ 1048576) (hl : l.length ≤ 1048576) :
 Calls Tryz.prog 24 #[.agg #[.int .i64 kd,.int .i64 n,.int .i64 g,.float .f64 x,S t,.slice A ks.length kc,.slice A2 l.length lc]] w (FromPost tw W0 w (.mk kd n g x t ks l)) := by
 obtain ⟨C,hC⟩ : ∃ C,C = (ov7 kd n g x t (.slice A ks.length kc) (.slice A2 l.length lc)).toArray := ⟨_,rfl⟩;have HC := Lib.hid hC;clear hC;go_enter Tryz.func24,Tryz.ntmps24;go_wp2_with fail;refine (only_any _ _ _ _ _ _ _ _ _ _ _ _ hk hl).mono ?_;rintro e w2 ⟨rfl,hB⟩;have hS := FO.start (C := C) (by rw [HC.out];exact hB);obtain ⟨b2,hb2⟩ : ∃ b,b = w.heap.size + 1 := ⟨_,rfl⟩;rw [← hb2] at hS ⊢;obtain ⟨b,hb⟩ : ∃ b,b = w.heap.size := ⟨_,rfl⟩;rw [← hb] at hS ⊢;clear hb hb2 hB;obtain ⟨oo,hoo⟩ : ∃ o,o = onlyB kd n g x t ks.length l.length := ⟨_,rfl⟩;rw [← hoo];have Hoo := Lib.hid hoo;clear hoo;obtain ⟨z0,z1,z2,z3,z4,z5,z6⟩ := res_cells hS.out rfl;have y0 := hS.out.frozen 0;have y1 := hS.out.frozen 1;have y2 := hS.out.frozen 2;have y3 := hS.out.frozen 3;have y4 := hS.out.frozen 4;have y5 := hS.out.frozen 5;have y6 := hS.out.frozen 6
 cases oo with
 | false =>
   go_wp2_with fail;have hP := hS.put (.int .i64 0) (.int .i64 0) (.int .i64 0) (.float .f64 0) (S []) (.slice none 0 0) (.slice none 0 0);refine bodyPost_ret (res_cell2 Tryz.results24 hP.out (by simp) rfl) rfl ?_;exact fo_no hP.below ⟨_,_,_,_,_,_,_,_,_,_,_,rfl⟩ (objM_no Hoo.out.symm)
 | true =>
   have f0 : w2.cell? ⟨b,0,none⟩ = some (.int .i64 kd) := (hS.box.cell 0).trans (by rw [HC.out];rfl);have q3 := hS.e2;have nb1 : ¬ b = b2 := by omega
   have nb2 : ¬ b2 = b := by omega
   clear q3;have Hkd := Lib.hid hkd;obtain ⟨m0,m1,m2,m3,m4,m5,m6,m7,m8,m9⟩ := hkd;have q0 : (kd == 0) = false := by simpa using m0
   have q1 : (kd == 1) = false := by simpa using m1
   have q2 : (kd == 2) = false := by simpa using m2
   have q3 : (kd == 3) = false := by simpa using m3
   have q4 : (kd == 4) = false := by simpa using m4
   have q5 : (kd == 5) = false := by simpa using m5
   have q6 : (kd == 6) = false := by simpa using m6
   have q7 : (kd == 7) = false := by simpa using m7
   have q8 : (kd == 8) = false := by simpa using m8
   have q9 : (kd == 9) = false := by simpa using m9
   clear m0 m1 m2 m3 m4 m5 m6 m7 m8 m9;go_wp2_with fail;obtain ⟨m0,m1,m2,m3,m4,m5,m6,m7,m8,m9⟩ := Hkd.out;have hP := hS.put (.int .i64 0) (.int .i64 0) (.int .i64 0) (.float .f64 0) (S []) (.slice none 0 0) (.slice none 0 0);refine bodyPost_ret (res_cell2 Tryz.results24 hP.out (by simp) rfl) rfl ?_;exact fo_no hP.below ⟨_,_,_,_,_,_,_,_,_,_,_,rfl⟩ (by rw [objM,← Hoo.out];simp [m0,m1,m2,m3,m4,m5,m6,m7,m8,m9])
end Go.Proofs.YtcpijmbdibgdmaaGreatDoor
namespace Go.Proofs.YtcpijmbdibgdmaaGreatDoor
open Go.RowKit
attribute [local go_sem] ba_get store_flt
theorem from_1 (tw : Nat → Bool) (W0 : World) (n g : Int) (x : Nat) (t : List UInt8) (ks : List (List UInt8)) (l : List OObj) (A A2 : Option Addr) (kc lc : Nat) (w : World) (hk : ks.length ≤ 1048576) (hl : l.length ≤ 1048576) :
 Calls Tryz.prog 24 #[.agg #[.int .i64 1,.int .i64 n,.int .i64 g,.float .f64 x,S t,.slice A ks.length kc,.slice A2 l.length lc]] w (FromPost tw W0 w (.mk 1 n g x t ks l)) := by
 obtain ⟨C,hC⟩ : ∃ C,C = (ov7 1 n g x t (.slice A ks.length kc) (.slice A2 l.length lc)).toArray := ⟨_,rfl⟩;have HC := Lib.hid hC;clear hC;go_enter Tryz.func24,Tryz.ntmps24;go_wp2_with fail;refine (only_any _ _ _ _ _ _ _ _ _ _ _ _ hk hl).mono ?_;rintro e w2 ⟨rfl,hB⟩;have hS := FO.start (C := C) (by rw [HC.out];exact hB);obtain ⟨b2,hb2⟩ : ∃ b,b = w.heap.size + 1 := ⟨_,rfl⟩;rw [← hb2] at hS ⊢;obtain ⟨b,hb⟩ : ∃ b,b = w.heap.size := ⟨_,rfl⟩;rw [← hb] at hS ⊢;clear hb hb2 hB;obtain ⟨oo,hoo⟩ : ∃ o,o = onlyB 1 n g x t ks.length l.length := ⟨_,rfl⟩;rw [← hoo];have Hoo := Lib.hid hoo;clear hoo;obtain ⟨z0,z1,z2,z3,z4,z5,z6⟩ := res_cells hS.out rfl;have y0 := hS.out.frozen 0;have y1 := hS.out.frozen 1;have y2 := hS.out.frozen 2;have y3 := hS.out.frozen 3;have y4 := hS.out.frozen 4;have y5 := hS.out.frozen 5;have y6 := hS.out.frozen 6
 cases oo with
 | false =>
   go_wp2_with fail;have hP := hS.put (.int .i64 0) (.int .i64 0) (.int .i64 0) (.float .f64 0) (S []) (.slice none 0 0) (.slice none 0 0);refine bodyPost_ret (res_cell2 Tryz.results24 hP.out (by simp) rfl) rfl ?_;exact fo_no hP.below ⟨_,_,_,_,_,_,_,_,_,_,_,rfl⟩ (objM_no Hoo.out.symm)
 | true =>
   have f0 : w2.cell? ⟨b,0,none⟩ = some (.int .i64 1) := (hS.box.cell 0).trans (by rw [HC.out];rfl);have q3 := hS.e2;have nb1 : ¬ b = b2 := by omega
   have nb2 : ¬ b2 = b := by omega
   clear q3;have f1 : w2.cell? ⟨b,1,none⟩ = some (.int .i64 n) := (hS.box.cell 1).trans (by rw [HC.out];rfl);by_cases hn : n = 0
   · subst hn;go_wp2_with fail
     go_region
     go_wp2_with fail;have hP := hS.put (.int .i64 1) (.int .i64 0) (.int .i64 0) (.float .f64 0) (S []) (.slice none 0 0) (.slice none 0 0);have hP := hP.drew;refine bodyPost_ret (res_cell2 Tryz.results24 hP.out (by simp) rfl) rfl ?_;exact fo_yes (p := (.bool false)) hP.below ⟨_,_,_,_,_,_,_,_,_,_,_,rfl⟩ (by rw [objM,← Hoo.out];rfl) (by unfold valP VRep;rfl)
   by_cases hn1 : n = 1
   · subst hn1;go_wp2_with fail
     go_region
     go_wp2_with fail;have hP := hS.put (.int .i64 1) (.int .i64 1) (.int .i64 0) (.float .f64 0) (S []) (.slice none 0 0) (.slice none 0 0);have hP := hP.drew;refine bodyPost_ret (res_cell2 Tryz.results24 hP.out (by simp) rfl) rfl ?_;exact fo_yes (p := (.bool true)) hP.below ⟨_,_,_,_,_,_,_,_,_,_,_,rfl⟩ (by rw [objM,← Hoo.out];rfl) (by unfold valP VRep;rfl)
   have n0 : (n == 0) = false := by simpa using hn
   have n1 : (n == 1) = false := by simpa using hn1
   go_wp2_with fail
   go_region
   go_wp2_with fail;have hP := hS.put (.int .i64 1) (.int .i64 n) (.int .i64 0) (.float .f64 0) (S []) (.slice none 0 0) (.slice none 0 0);have hP := hP.drew;refine bodyPost_ret (res_cell2 Tryz.results24 hP.out (by simp) rfl) rfl ?_;exact fo_no hP.below ⟨_,_,_,_,_,_,_,_,_,_,_,rfl⟩ (by rw [objM,← Hoo.out];simp [hn,hn1])
theorem from_2 (tw : Nat → Bool) (W0 : World) (n g : Int) (x : Nat) (t : List UInt8) (ks : List (List UInt8)) (l : List OObj) (A A2 : Option Addr) (kc lc : Nat) (w : World) (hk : ks.length ≤ 1048576) (hl : l.length ≤ 1048576) :
 Calls Tryz.prog 24 #[.agg #[.int .i64 2,.int .i64 n,.int .i64 g,.float .f64 x,S t,.slice A ks.length kc,.slice A2 l.length lc]] w (FromPost tw W0 w (.mk 2 n g x t ks l)) := by
 obtain ⟨C,hC⟩ : ∃ C,C = (ov7 2 n g x t (.slice A ks.length kc) (.slice A2 l.length lc)).toArray := ⟨_,rfl⟩;have HC := Lib.hid hC;clear hC;go_enter Tryz.func24,Tryz.ntmps24;go_wp2_with fail;refine (only_any _ _ _ _ _ _ _ _ _ _ _ _ hk hl).mono ?_;rintro e w2 ⟨rfl,hB⟩;have hS := FO.start (C := C) (by rw [HC.out];exact hB);obtain ⟨b2,hb2⟩ : ∃ b,b = w.heap.size + 1 := ⟨_,rfl⟩;rw [← hb2] at hS ⊢;obtain ⟨b,hb⟩ : ∃ b,b = w.heap.size := ⟨_,rfl⟩;rw [← hb] at hS ⊢;clear hb hb2 hB;obtain ⟨oo,hoo⟩ : ∃ o,o = onlyB 2 n g x t ks.length l.length := ⟨_,rfl⟩;rw [← hoo];have Hoo := Lib.hid hoo;clear hoo;obtain ⟨z0,z1,z2,z3,z4,z5,z6⟩ := res_cells hS.out rfl;have y0 := hS.out.frozen 0;have y1 := hS.out.frozen 1;have y2 := hS.out.frozen 2;have y3 := hS.out.frozen 3;have y4 := hS.out.frozen 4;have y5 := hS.out.frozen 5;have y6 := hS.out.frozen 6
 cases oo with
 | false =>
   go_wp2_with fail;have hP := hS.put (.int .i64 0) (.int .i64 0) (.int .i64 0) (.float .f64 0) (S []) (.slice none 0 0) (.slice none 0 0);refine bodyPost_ret (res_cell2 Tryz.results24 hP.out (by simp) rfl) rfl ?_;exact fo_no hP.below ⟨_,_,_,_,_,_,_,_,_,_,_,rfl⟩ (objM_no Hoo.out.symm)
 | true =>
   have f0 : w2.cell? ⟨b,0,none⟩ = some (.int .i64 2) := (hS.box.cell 0).trans (by rw [HC.out];rfl);have q3 := hS.e2;have nb1 : ¬ b = b2 := by omega
   have nb2 : ¬ b2 = b := by omega
   clear q3;have f1 : w2.cell? ⟨b,1,none⟩ = some (.int .i64 n) := (hS.box.cell 1).trans (by rw [HC.out];rfl);by_cases hn : -2147483648 ≤ n
   · have n0 : decide (-2147483648 ≤ n) = true := decide_eq_true hn;by_cases hn1 : n < 2147483648
     · have n1 : decide (n < 2147483648) = true := decide_eq_true hn1;go_wp2_with fail
       go_region
       go_wp2_with fail;have hP := hS.put (.int .i64 2) (.int .i64 n) (.int .i64 0) (.float .f64 0) (S []) (.slice none 0 0) (.slice none 0 0);have hP := hP.drew;refine bodyPost_ret (res_cell2 Tryz.results24 hP.out (by simp) rfl) rfl ?_;exact fo_yes (p := (.int n)) hP.below ⟨_,_,_,_,_,_,_,_,_,_,_,rfl⟩ (by rw [objM,← Hoo.out];simp;omega) (by unfold valP VRep;rfl)
     have n1 : decide (n < 2147483648) = false := decide_eq_false hn1;go_wp2_with fail
     go_region
     go_wp2_with fail;have hP := hS.put (.int .i64 2) (.int .i64 n) (.int .i64 0) (.float .f64 0) (S []) (.slice none 0 0) (.slice none 0 0);have hP := hP.drew;refine bodyPost_ret (res_cell2 Tryz.results24 hP.out (by simp) rfl) rfl ?_;exact fo_no hP.below ⟨_,_,_,_,_,_,_,_,_,_,_,rfl⟩ (by rw [objM,← Hoo.out];simp;omega)
   have n0 : decide (-2147483648 ≤ n) = false := decide_eq_false hn;go_wp2_with fail
   go_region
   go_wp2_with fail;have hP := hS.put (.int .i64 2) (.int .i64 n) (.int .i64 0) (.float .f64 0) (S []) (.slice none 0 0) (.slice none 0 0);have hP := hP.drew;refine bodyPost_ret (res_cell2 Tryz.results24 hP.out (by simp) rfl) rfl ?_;exact fo_no hP.below ⟨_,_,_,_,_,_,_,_,_,_,_,rfl⟩ (by rw [objM,← Hoo.out];simp;omega)
theorem from_4 (tw : Nat → Bool) (W0 : World) (n g : Int) (x : Nat) (t : List UInt8) (ks : List (List UInt8)) (l : List OObj) (A A2 : Option Addr) (kc lc : Nat) (w : World) (hk : ks.length ≤ 1048576) (hl : l.length ≤ 1048576) (ht : t.length ≤ 1048576) :
 Calls Tryz.prog 24 #[.agg #[.int .i64 4,.int .i64 n,.int .i64 g,.float .f64 x,S t,.slice A ks.length kc,.slice A2 l.length lc]] w (FromPost tw W0 w (.mk 4 n g x t ks l)) := by
 obtain ⟨C,hC⟩ : ∃ C,C = (ov7 4 n g x t (.slice A ks.length kc) (.slice A2 l.length lc)).toArray := ⟨_,rfl⟩;have HC := Lib.hid hC;clear hC;go_enter Tryz.func24,Tryz.ntmps24;go_wp2_with fail;refine (only_any _ _ _ _ _ _ _ _ _ _ _ _ hk hl).mono ?_;rintro e w2 ⟨rfl,hB⟩;have hS := FO.start (C := C) (by rw [HC.out];exact hB);obtain ⟨b2,hb2⟩ : ∃ b,b = w.heap.size + 1 := ⟨_,rfl⟩;rw [← hb2] at hS ⊢;obtain ⟨b,hb⟩ : ∃ b,b = w.heap.size := ⟨_,rfl⟩;rw [← hb] at hS ⊢;clear hb hb2 hB;obtain ⟨oo,hoo⟩ : ∃ o,o = onlyB 4 n g x t ks.length l.length := ⟨_,rfl⟩;rw [← hoo];have Hoo := Lib.hid hoo;clear hoo;obtain ⟨z0,z1,z2,z3,z4,z5,z6⟩ := res_cells hS.out rfl;have y0 := hS.out.frozen 0;have y1 := hS.out.frozen 1;have y2 := hS.out.frozen 2;have y3 := hS.out.frozen 3;have y4 := hS.out.frozen 4;have y5 := hS.out.frozen 5;have y6 := hS.out.frozen 6
 cases oo with
 | false =>
   go_wp2_with fail;have hP := hS.put (.int .i64 0) (.int .i64 0) (.int .i64 0) (.float .f64 0) (S []) (.slice none 0 0) (.slice none 0 0);refine bodyPost_ret (res_cell2 Tryz.results24 hP.out (by simp) rfl) rfl ?_;exact fo_no hP.below ⟨_,_,_,_,_,_,_,_,_,_,_,rfl⟩ (objM_no Hoo.out.symm)
 | true =>
   have f0 : w2.cell? ⟨b,0,none⟩ = some (.int .i64 4) := (hS.box.cell 0).trans (by rw [HC.out];rfl);have q3 := hS.e2;have nb1 : ¬ b = b2 := by omega
   have nb2 : ¬ b2 = b := by omega
   clear q3;have f4 : w2.cell? ⟨b,4,none⟩ = some (S t) := (hS.box.cell 4).trans (by rw [HC.out];rfl);go_wp2_with fail;refine (litb_any t _ ht).mono ?_;rintro e w3 ⟨⟨out,rfl,hout⟩,hB3⟩;have hS3 := hS.keep hB3;obtain ⟨ok,hok⟩ : ∃ ok,ok = litOk t := ⟨_,rfl⟩;rw [← hok] at hout ⊢;have Hok := Lib.hid hok;have Hout := Lib.hid hout;clear hok hout z0 z1 z2 z3 z4 z5 z6 y0 y1 y2 y3 y4 y5 y6 f0 f4 hB3;obtain ⟨z0,z1,z2,z3,z4,z5,z6⟩ := res_cells hS3.out rfl;have y0 := hS3.out.frozen 0;have y1 := hS3.out.frozen 1;have y2 := hS3.out.frozen 2;have y3 := hS3.out.frozen 3;have y4 := hS3.out.frozen 4;have y5 := hS3.out.frozen 5;have y6 := hS3.out.frozen 6;go_wp2_with fail;have hP := hS3.put (.int .i64 4) (.int .i64 0) (.int .i64 0) (.float .f64 0) (S out) (.slice none 0 0) (.slice none 0 0);refine bodyPost_ret (res_cell2 Tryz.results24 hP.out (by simp) rfl) rfl ?_
   cases ok with
   | true => exact fo_yes (p := .lit t) hP.below ⟨_,_,_,_,_,_,_,_,_,_,_,rfl⟩ (by rw [objM,← Hoo.out];simp [← Hok.out]) (by rw [Hout.out rfl];unfold valP VRep;rfl)
   | false => exact fo_no hP.below ⟨_,_,_,_,_,_,_,_,_,_,_,rfl⟩ (by rw [objM,← Hoo.out];simp [← Hok.out])
theorem from_5 (tw : Nat → Bool) (W0 : World) (n g : Int) (x : Nat) (t : List UInt8) (ks : List (List UInt8)) (l : List OObj) (A A2 : Option Addr) (kc lc : Nat) (w : World) (hk : ks.length ≤ 1048576) (hl : l.length ≤ 1048576) (ht : t.length ≤ 1048576) :
 Calls Tryz.prog 24 #[.agg #[.int .i64 5,.int .i64 n,.int .i64 g,.float .f64 x,S t,.slice A ks.length kc,.slice A2 l.length lc]] w (FromPost tw W0 w (.mk 5 n g x t ks l)) := by
 obtain ⟨C,hC⟩ : ∃ C,C = (ov7 5 n g x t (.slice A ks.length kc) (.slice A2 l.length lc)).toArray := ⟨_,rfl⟩;have HC := Lib.hid hC;clear hC;go_enter Tryz.func24,Tryz.ntmps24;go_wp2_with fail;refine (only_any _ _ _ _ _ _ _ _ _ _ _ _ hk hl).mono ?_;rintro e w2 ⟨rfl,hB⟩;have hS := FO.start (C := C) (by rw [HC.out];exact hB);obtain ⟨b2,hb2⟩ : ∃ b,b = w.heap.size + 1 := ⟨_,rfl⟩;rw [← hb2] at hS ⊢;obtain ⟨b,hb⟩ : ∃ b,b = w.heap.size := ⟨_,rfl⟩;rw [← hb] at hS ⊢;clear hb hb2 hB;obtain ⟨oo,hoo⟩ : ∃ o,o = onlyB 5 n g x t ks.length l.length := ⟨_,rfl⟩;rw [← hoo];have Hoo := Lib.hid hoo;clear hoo;obtain ⟨z0,z1,z2,z3,z4,z5,z6⟩ := res_cells hS.out rfl;have y0 := hS.out.frozen 0;have y1 := hS.out.frozen 1;have y2 := hS.out.frozen 2;have y3 := hS.out.frozen 3;have y4 := hS.out.frozen 4;have y5 := hS.out.frozen 5;have y6 := hS.out.frozen 6
 cases oo with
 | false =>
   go_wp2_with fail;have hP := hS.put (.int .i64 0) (.int .i64 0) (.int .i64 0) (.float .f64 0) (S []) (.slice none 0 0) (.slice none 0 0);refine bodyPost_ret (res_cell2 Tryz.results24 hP.out (by simp) rfl) rfl ?_;exact fo_no hP.below ⟨_,_,_,_,_,_,_,_,_,_,_,rfl⟩ (objM_no Hoo.out.symm)
 | true =>
   have f0 : w2.cell? ⟨b,0,none⟩ = some (.int .i64 5) := (hS.box.cell 0).trans (by rw [HC.out];rfl);have q3 := hS.e2;have nb1 : ¬ b = b2 := by omega
   have nb2 : ¬ b2 = b := by omega
   clear q3;have f4 : w2.cell? ⟨b,4,none⟩ = some (S t) := (hS.box.cell 4).trans (by rw [HC.out];rfl);go_wp2_with fail;refine (hexb_any t _ ht).mono ?_;rintro e w3 ⟨⟨out,rfl,hout⟩,hB3⟩;have hS3 := hS.keep hB3;obtain ⟨ok,hok⟩ : ∃ ok,ok = hexOk t := ⟨_,rfl⟩;rw [← hok] at hout ⊢;have Hok := Lib.hid hok;have Hout := Lib.hid hout;clear hok hout z0 z1 z2 z3 z4 z5 z6 y0 y1 y2 y3 y4 y5 y6 f0 f4 hB3;obtain ⟨z0,z1,z2,z3,z4,z5,z6⟩ := res_cells hS3.out rfl;have y0 := hS3.out.frozen 0;have y1 := hS3.out.frozen 1;have y2 := hS3.out.frozen 2;have y3 := hS3.out.frozen 3;have y4 := hS3.out.frozen 4;have y5 := hS3.out.frozen 5;have y6 := hS3.out.frozen 6;go_wp2_with fail;have hP := hS3.put (.int .i64 4) (.int .i64 0) (.int .i64 0) (.float .f64 0) (S out) (.slice none 0 0) (.slice none 0 0);refine bodyPost_ret (res_cell2 Tryz.results24 hP.out (by simp) rfl) rfl ?_
   cases ok with
   | true => exact fo_yes (p := .hex t) hP.below ⟨_,_,_,_,_,_,_,_,_,_,_,rfl⟩ (by rw [objM,← Hoo.out];simp [← Hok.out]) (by rw [Hout.out rfl];unfold valP VRep;rfl)
   | false => exact fo_no hP.below ⟨_,_,_,_,_,_,_,_,_,_,_,rfl⟩ (by rw [objM,← Hoo.out];simp [← Hok.out])
end Go.Proofs.YtcpijmbdibgdmaaGreatDoor
namespace Go.Proofs.YtcpijmbdibgdmaaGreatDoor
open Go.RowKit
attribute [local go_sem] ba_get store_flt
theorem from_9 (tw : Nat → Bool) (W0 : World) (n g : Int) (x : Nat) (t : List UInt8) (ks : List (List UInt8)) (l : List OObj) (A A2 : Option Addr) (kc lc : Nat) (w : World) (hk : ks.length ≤ 1048576) (hl : l.length ≤ 1048576) :
 Calls Tryz.prog 24 #[.agg #[.int .i64 9,.int .i64 n,.int .i64 g,.float .f64 x,S t,.slice A ks.length kc,.slice A2 l.length lc]] w (FromPost tw W0 w (.mk 9 n g x t ks l)) := by
 obtain ⟨C,hC⟩ : ∃ C,C = (ov7 9 n g x t (.slice A ks.length kc) (.slice A2 l.length lc)).toArray := ⟨_,rfl⟩;have HC := Lib.hid hC;clear hC;go_enter Tryz.func24,Tryz.ntmps24;go_wp2_with fail;refine (only_any _ _ _ _ _ _ _ _ _ _ _ _ hk hl).mono ?_;rintro e w2 ⟨rfl,hB⟩;have hS := FO.start (C := C) (by rw [HC.out];exact hB);obtain ⟨b2,hb2⟩ : ∃ b,b = w.heap.size + 1 := ⟨_,rfl⟩;rw [← hb2] at hS ⊢;obtain ⟨b,hb⟩ : ∃ b,b = w.heap.size := ⟨_,rfl⟩;rw [← hb] at hS ⊢;clear hb hb2 hB;obtain ⟨oo,hoo⟩ : ∃ o,o = onlyB 9 n g x t ks.length l.length := ⟨_,rfl⟩;rw [← hoo];have Hoo := Lib.hid hoo;clear hoo;obtain ⟨z0,z1,z2,z3,z4,z5,z6⟩ := res_cells hS.out rfl;have y0 := hS.out.frozen 0;have y1 := hS.out.frozen 1;have y2 := hS.out.frozen 2;have y3 := hS.out.frozen 3;have y4 := hS.out.frozen 4;have y5 := hS.out.frozen 5;have y6 := hS.out.frozen 6
 cases oo with
 | false =>
   go_wp2_with fail;have hP := hS.put (.int .i64 0) (.int .i64 0) (.int .i64 0) (.float .f64 0) (S []) (.slice none 0 0) (.slice none 0 0);refine bodyPost_ret (res_cell2 Tryz.results24 hP.out (by simp) rfl) rfl ?_;exact fo_no hP.below ⟨_,_,_,_,_,_,_,_,_,_,_,rfl⟩ (objM_no Hoo.out.symm)
 | true =>
   have f0 : w2.cell? ⟨b,0,none⟩ = some (.int .i64 9) := (hS.box.cell 0).trans (by rw [HC.out];rfl);have q3 := hS.e2;have nb1 : ¬ b = b2 := by omega
   have nb2 : ¬ b2 = b := by omega
   clear q3;have f1 : w2.cell? ⟨b,1,none⟩ = some (.int .i64 n) := (hS.box.cell 1).trans (by rw [HC.out];rfl);have f2 : w2.cell? ⟨b,2,none⟩ = some (.int .i64 g) := (hS.box.cell 2).trans (by rw [HC.out];rfl);by_cases hn : 0 < n
   · have t0 : decide (0 < n) = true := decide_eq_true hn;by_cases hn1 : n < 2147483648
     · have t1 : decide (n < 2147483648) = true := decide_eq_true hn1;by_cases hg : 0 ≤ g
       · have t2 : decide (0 ≤ g) = true := decide_eq_true hg;by_cases hg1 : g ≤ 65535
         · have t3 : decide (g ≤ 65535) = true := decide_eq_true hg1;go_wp2_with fail
           go_region
           go_wp2_with fail;have hP := hS.put (.int .i64 8) (.int .i64 n) (.int .i64 g) (.float .f64 0) (S []) (.slice none 0 0) (.slice none 0 0);have hP := hP.drew;refine bodyPost_ret (res_cell2 Tryz.results24 hP.out (by simp) rfl) rfl ?_;exact fo_yes (p := (.ref n g)) hP.below ⟨_,_,_,_,_,_,_,_,_,_,_,rfl⟩ (by rw [objM,← Hoo.out];simp;omega) (by unfold valP VRep;rfl)
         have t3 : decide (g ≤ 65535) = false := decide_eq_false hg1;go_wp2_with fail
         go_region
         go_wp2_with fail;have hP := hS.put (.int .i64 8) (.int .i64 n) (.int .i64 g) (.float .f64 0) (S []) (.slice none 0 0) (.slice none 0 0);have hP := hP.drew;refine bodyPost_ret (res_cell2 Tryz.results24 hP.out (by simp) rfl) rfl ?_;exact fo_no hP.below ⟨_,_,_,_,_,_,_,_,_,_,_,rfl⟩ (by rw [objM,← Hoo.out];simp;omega)
       have t2 : decide (0 ≤ g) = false := decide_eq_false hg;go_wp2_with fail
       go_region
       go_wp2_with fail;have hP := hS.put (.int .i64 8) (.int .i64 n) (.int .i64 g) (.float .f64 0) (S []) (.slice none 0 0) (.slice none 0 0);have hP := hP.drew;refine bodyPost_ret (res_cell2 Tryz.results24 hP.out (by simp) rfl) rfl ?_;exact fo_no hP.below ⟨_,_,_,_,_,_,_,_,_,_,_,rfl⟩ (by rw [objM,← Hoo.out];simp;omega)
     have t1 : decide (n < 2147483648) = false := decide_eq_false hn1;go_wp2_with fail
     go_region
     go_wp2_with fail;have hP := hS.put (.int .i64 8) (.int .i64 n) (.int .i64 g) (.float .f64 0) (S []) (.slice none 0 0) (.slice none 0 0);have hP := hP.drew;refine bodyPost_ret (res_cell2 Tryz.results24 hP.out (by simp) rfl) rfl ?_;exact fo_no hP.below ⟨_,_,_,_,_,_,_,_,_,_,_,rfl⟩ (by rw [objM,← Hoo.out];simp;omega)
   have t0 : decide (0 < n) = false := decide_eq_false hn;go_wp2_with fail
   go_region
   go_wp2_with fail;have hP := hS.put (.int .i64 8) (.int .i64 n) (.int .i64 g) (.float .f64 0) (S []) (.slice none 0 0) (.slice none 0 0);have hP := hP.drew;refine bodyPost_ret (res_cell2 Tryz.results24 hP.out (by simp) rfl) rfl ?_;exact fo_no hP.below ⟨_,_,_,_,_,_,_,_,_,_,_,rfl⟩ (by rw [objM,← Hoo.out];simp;omega)
end Go.Proofs.YtcpijmbdibgdmaaGreatDoor
namespace Go.Proofs.YtcpijmbdibgdmaaGreatDoor
open Go.RowKit
attribute [local go_sem] ba_get store_flt
theorem from_6 (tw : Nat → Bool) (W0 : World) (n g : Int) (x : Nat) (t : List UInt8) (ks : List (List UInt8)) (l : List OObj) (A A2 : Option Addr) (kc lc : Nat) (w : World) (hk : ks.length ≤ 1048576) (hl : l.length ≤ 1048576) (ht : t.length ≤ 1048576) :
 Calls Tryz.prog 24 #[.agg #[.int .i64 6,.int .i64 n,.int .i64 g,.float .f64 x,S t,.slice A ks.length kc,.slice A2 l.length lc]] w (FromPost tw W0 w (.mk 6 n g x t ks l)) := by
 obtain ⟨C,hC⟩ : ∃ C,C = (ov7 6 n g x t (.slice A ks.length kc) (.slice A2 l.length lc)).toArray := ⟨_,rfl⟩;have HC := Lib.hid hC;clear hC;go_enter Tryz.func24,Tryz.ntmps24;go_wp2_with fail;refine (only_any _ _ _ _ _ _ _ _ _ _ _ _ hk hl).mono ?_;rintro e w2 ⟨rfl,hB⟩;have hS := FO.start (C := C) (by rw [HC.out];exact hB);obtain ⟨b2,hb2⟩ : ∃ b,b = w.heap.size + 1 := ⟨_,rfl⟩;rw [← hb2] at hS ⊢;obtain ⟨b,hb⟩ : ∃ b,b = w.heap.size := ⟨_,rfl⟩;rw [← hb] at hS ⊢;clear hb hb2 hB;obtain ⟨oo,hoo⟩ : ∃ o,o = onlyB 6 n g x t ks.length l.length := ⟨_,rfl⟩;rw [← hoo];have Hoo := Lib.hid hoo;clear hoo;obtain ⟨z0,z1,z2,z3,z4,z5,z6⟩ := res_cells hS.out rfl;have y0 := hS.out.frozen 0;have y1 := hS.out.frozen 1;have y2 := hS.out.frozen 2;have y3 := hS.out.frozen 3;have y4 := hS.out.frozen 4;have y5 := hS.out.frozen 5;have y6 := hS.out.frozen 6
 cases oo with
 | false =>
   go_wp2_with fail;have hP := hS.put (.int .i64 0) (.int .i64 0) (.int .i64 0) (.float .f64 0) (S []) (.slice none 0 0) (.slice none 0 0);refine bodyPost_ret (res_cell2 Tryz.results24 hP.out (by simp) rfl) rfl ?_;exact fo_no hP.below ⟨_,_,_,_,_,_,_,_,_,_,_,rfl⟩ (objM_no Hoo.out.symm)
 | true =>
   have f0 : w2.cell? ⟨b,0,none⟩ = some (.int .i64 6) := (hS.box.cell 0).trans (by rw [HC.out];rfl);have q3 := hS.e2;have nb1 : ¬ b = b2 := by omega
   have nb2 : ¬ b2 = b := by omega
   clear q3;have f4 : w2.cell? ⟨b,4,none⟩ = some (S t) := (hS.box.cell 4).trans (by rw [HC.out];rfl);obtain ⟨ok,hok⟩ : ∃ ok,ok = nameOk t := ⟨_,rfl⟩;have hcall := fun w => nameable_any t w (by omega)
   rw [← hok] at hcall;have Hok := Lib.hid hok;clear hok;go_wp2_with fail
   go_region_with (go_simp;go_at_call 57;refine (hcall _).mono ?_;rintro e w3 ⟨rfl,rfl⟩;dsimp only)
   all_goals
    go_wp2_with fail;have hP := hS.put (.int .i64 5) (.int .i64 0) (.int .i64 0) (.float .f64 0) (S t) (.slice none 0 0) (.slice none 0 0);have hP := hP.drew;refine bodyPost_ret (res_cell2 (v := .bool ok) Tryz.results24 hP.out (by simp [Act.put]) (by simp [Act.put])) rfl ?_
    cases ok with
    | true => exact fo_yes (p := (.name t)) hP.below ⟨_,_,_,_,_,_,_,_,_,_,_,rfl⟩ (by rw [objM,← Hoo.out];simp [← Hok.out]) (by unfold valP VRep;rfl)
    | false => exact fo_no hP.below ⟨_,_,_,_,_,_,_,_,_,_,_,rfl⟩ (by rw [objM,← Hoo.out];simp [← Hok.out])
end Go.Proofs.YtcpijmbdibgdmaaGreatDoor
namespace Go.Proofs.YtcpijmbdibgdmaaGreatDoor
open Go.RowKit
attribute [local go_sem] ba_get store_flt
theorem from_3 (tw : Nat → Bool) (W0 : World) (n g : Int) (x : Nat) (t : List UInt8) (ks : List (List UInt8)) (l : List OObj) (A A2 : Option Addr) (kc lc : Nat) (w : World) (hk : ks.length ≤ 1048576) (hl : l.length ≤ 1048576) (hW : Below W0.heap.size W0 w) (hTw : ∀ (x : Nat) (w : World),Below W0.heap.size W0 w → x < 18446744073709551616 → Calls Tryz.prog 54 #[.float .f64 x] w fun e w' => e = .returned (.bool (tw x)) ∧ Below w.heap.size w w') (hx : x < 18446744073709551616) :
 Calls Tryz.prog 24 #[.agg #[.int .i64 3,.int .i64 n,.int .i64 g,.float .f64 x,S t,.slice A ks.length kc,.slice A2 l.length lc]] w (FromPost tw W0 w (.mk 3 n g x t ks l)) := by
 have HTw := Lib.hid hTw;have Hx := Lib.hid hx;clear hTw hx;obtain ⟨C,hC⟩ : ∃ C,C = (ov7 3 n g x t (.slice A ks.length kc) (.slice A2 l.length lc)).toArray := ⟨_,rfl⟩;have HC := Lib.hid hC;clear hC;go_enter Tryz.func24,Tryz.ntmps24;go_wp2_with fail;refine (only_any _ _ _ _ _ _ _ _ _ _ _ _ hk hl).mono ?_;rintro e w2 ⟨rfl,hB⟩;have hS := FO.start (C := C) (by rw [HC.out];exact hB);obtain ⟨b2,hb2⟩ : ∃ b,b = w.heap.size + 1 := ⟨_,rfl⟩;rw [← hb2] at hS ⊢;obtain ⟨b,hb⟩ : ∃ b,b = w.heap.size := ⟨_,rfl⟩;rw [← hb] at hS ⊢;clear hb hb2 hB;obtain ⟨oo,hoo⟩ : ∃ o,o = onlyB 3 n g x t ks.length l.length := ⟨_,rfl⟩;rw [← hoo];have Hoo := Lib.hid hoo;clear hoo;obtain ⟨z0,z1,z2,z3,z4,z5,z6⟩ := res_cells hS.out rfl;have y0 := hS.out.frozen 0;have y1 := hS.out.frozen 1;have y2 := hS.out.frozen 2;have y3 := hS.out.frozen 3;have y4 := hS.out.frozen 4;have y5 := hS.out.frozen 5;have y6 := hS.out.frozen 6
 cases oo with
 | false =>
   go_wp2_with fail;have hP := hS.put (.int .i64 0) (.int .i64 0) (.int .i64 0) (.float .f64 0) (S []) (.slice none 0 0) (.slice none 0 0);refine bodyPost_ret (res_cell2 Tryz.results24 hP.out (by simp) rfl) rfl ?_;exact fo_no hP.below ⟨_,_,_,_,_,_,_,_,_,_,_,rfl⟩ (objM_no Hoo.out.symm)
 | true =>
   have f0 : w2.cell? ⟨b,0,none⟩ = some (.int .i64 3) := (hS.box.cell 0).trans (by rw [HC.out];rfl);have q3 := hS.e2;have nb1 : ¬ b = b2 := by omega
   have nb2 : ¬ b2 = b := by omega
   clear q3;have f3 : w2.cell? ⟨b,3,none⟩ = some (.float .f64 x) := (hS.box.cell 3).trans (by rw [HC.out];rfl);have hWw := hW;clear hW;obtain ⟨ok,hok⟩ : ∃ ok,ok = tw x := ⟨_,rfl⟩;have hcall : ∀ w3 : World,Below w.heap.size w w3 → Calls Tryz.prog 54 #[.float .f64 x] w3 fun e w' => e = .returned (.bool ok) ∧ Below w3.heap.size w3 w' := fun w3 h3 => by rw [hok];exact HTw.out x w3 (hWw.trans (h3.mono hWw.size)) Hx.out
   have Hok := Lib.hid hok;have Hcall := Lib.hid hcall;clear hok hWw hcall;have HS := Lib.hid hS;go_wp2_with fail
   go_region_with (go_simp;go_at_call 54;first
    | (refine (Hcall.out _ hS.drew.below).mono ?_;rintro e w3 ⟨rfl,hB3⟩;have hS3 := hS.drew.keep hB3;clear hB3;obtain ⟨z0',z1',z2',z3',z4',z5',z6'⟩ := res_cells hS3.out rfl;have y0' := hS3.out.frozen 0;have y1' := hS3.out.frozen 1;have y2' := hS3.out.frozen 2;have y3' := hS3.out.frozen 3;have y4' := hS3.out.frozen 4;have y5' := hS3.out.frozen 5;have y6' := hS3.out.frozen 6;have f3' : w3.cell? ⟨b,3,none⟩ = some (.float .f64 x) := (hS3.box.cell 3).trans (by rw [HC.out];rfl);dsimp only))
   all_goals
    go_wp2_with fail;have hP := hS3.put (.int .i64 3) (.int .i64 0) (.int .i64 0) (.float .f64 x) (S []) (.slice none 0 0) (.slice none 0 0);refine bodyPost_ret (res_cell2 (v := .bool ok) Tryz.results24 hP.out (by simp [Act.put]) (by simp [Act.put])) rfl ?_
    cases ok with
    | true => exact fo_yes (p := (.real x)) hP.below ⟨_,_,_,_,_,_,_,_,_,_,_,rfl⟩ (by rw [objM,← Hoo.out];simp [← Hok.out]) (by unfold valP VRep;rfl)
    | false => exact fo_no hP.below ⟨_,_,_,_,_,_,_,_,_,_,_,rfl⟩ (by rw [objM,← Hoo.out];simp [← Hok.out])
end Go.Proofs.YtcpijmbdibgdmaaGreatDoor
