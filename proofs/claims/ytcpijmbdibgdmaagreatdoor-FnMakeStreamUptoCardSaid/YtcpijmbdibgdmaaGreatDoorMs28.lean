/-
  impl.Print.
  spec.only: kinds 1, 2, 3, 7, 8.
  spec.only: kinds 4, 5, 6.
-/
import Derived.Test.YtcpijmbdibgdmaaGreatDoorMs27
import Derived.Test.YtcpijmbdibgdmaaGreatDoorMs25
import Derived.Recover
set_option linter.all false
set_option maxHeartbeats 16000000
set_option maxRecDepth 100000
namespace Go.Proofs.YtcpijmbdibgdmaaGreatDoor
open Go.RowKit
attribute [local go_sem] ba_get store_flt
theorem idle63 (p : Addr) (w : World) : CallsD Tryz.prog 63 #[.pointer (some p)] .returning w fun e u' w' => e = .returned (.tuple #[]) ∧ u' = .returning ∧ w' = w := by
 refine callsD_of_wpS Tryz.func63 rfl fun c₀ cs hu => ?_
 apply wpS_seq;apply wpS_region;simp [wpOpsS,go_sem,recoverD,hu,Tryz.ntmps63,Exit.thenS];refine wpS_cond (t := false) (by simp [Act.eval,Array.replicate]) ?_;simp only [Bool.false_eq_true,if_false];refine wpS_of_wp (wp_skip ?_);cases c₀
 simp_all [bodyPostS,results,Tryz.results63]
theorem calm29 (cap : Array Value) (w : World) (Post : World → Prop) (hc : Calls Tryz.prog 29 cap (w.alloc (.cells #[.bool false] 4)) fun e w' => e = .returned (.tuple #[]) ∧ Blk w' w.heap.size 4 #[.bool false] ∧ Post w') :
 Calls Tryz.prog 28 #[.func (.func 29) #[] cap] w fun e w' => e = .returned (.bool true) ∧ ∃ w1,Post w1 ∧ w' = w1.setCell ⟨w.heap.size,0,none⟩ (.bool true) := by
 have hmf : ∀ (fn : Fn) (first cap : Array Value) (w : World),(Instr.makeFunc fn first cap).run Tryz.prog w = .ok (.func fn first cap) w := fun _ _ _ _ => rfl
 have HC := Lib.hid hc;clear hc
 go_enter_defers Tryz.func28,Tryz.ntmps28
 go_wp2_with fail;refine HC.out.mono ?_;rintro e w1 ⟨rfl,hb,hP⟩;have HP := Lib.hid hP;clear hP;have cb : w1.cell? ⟨w.heap.size,0,none⟩ = some (.bool false) := hb.cell 0;have fb := hb.frozen 0;have hb2 : Blk (w1.setCell ⟨w.heap.size,0,none⟩ (.bool true)) w.heap.size 4 #[.bool true] := by have := Blk.set_ hb 0 (.bool true);simpa using this
 have cb2 : (w1.setCell ⟨w.heap.size,0,none⟩ (.bool true)).cell? ⟨w.heap.size,0,none⟩ = some (.bool true) := hb2.cell 0;go_wp2_with fail;refine leaves_cons (f := 63) (args := #[.pointer (some ⟨w.heap.size,0,none⟩)]) (by simp) (by simp [go_sem]) ?_;refine (idle63 ⟨w.heap.size,0,none⟩ _).mono ?_;rintro e u' w'' ⟨rfl,rfl,rfl⟩;simp [Leaves,settle,results,Tryz.results28,go_sem,cb2];exact ⟨w1,HP.out,rfl⟩
theorem close_any {hi lo : Nat → Nat} {W0 : World} (hF : FFW hi lo W0) (p : PObj) (hp0 : p ≠ .null) (hpn : PNum (ffB hi lo) p) (hsz : szP p ≤ 1048576) (F : Nat → Prop) (v : Value) (q4 q2 : Nat) (w : World) (hW : Below W0.heap.size W0 w) (b4 : Blk w q4 63 #[v]) (b2 : Blk w q2 9 #[S []]) (hT : TRep w F p v) :
 Calls Tryz.prog 29 #[.pointer (some ⟨q4,0,none⟩),.pointer (some ⟨q2,0,none⟩)] w fun e w' => e = .returned (.tuple #[]) ∧ ∃ w1,Below w.heap.size w w1 ∧ w' = w1.setCell ⟨q2,0,none⟩ (S (printP (ffB hi lo) p)) := by
 have hst := str_all hF (SizeOf.sizeOf p) p (Nat.le_refl _) hpn hsz
 cases p with
 | null => exact absurd rfl hp0
 | bool b =>
   unfold TRep at hT;subst hT
   have hcall : Calls Tryz.prog 276 #[.bool b] w fun e w' => e = .returned (S (printP (ffB hi lo) (.bool b))) ∧ Below w.heap.size w w' := by
    rw [show printP (ffB hi lo) (.bool b) = if b then [116,114,117,101] else [102,97,108,115,101] by rw [printP]];exact (str_bool b w).mono (by rintro e w3 ⟨rfl,rfl⟩;exact ⟨rfl,Below.refl _ _⟩)
   obtain ⟨tx,htx⟩ : ∃ tx,tx = printP (ffB hi lo) (.bool b) := ⟨_,rfl⟩;rw [← htx] at hcall ⊢;have Hcall := Lib.hid hcall;clear hcall htx hst hpn hsz hp0;have c4 := b4.cell 0;simp only [List.getElem?_toArray,List.getElem?_cons_zero] at c4;go_enter Tryz.func29,Tryz.ntmps29;go_wp2_with fail;refine Hcall.out.mono ?_;rintro e w1 ⟨rfl,hB⟩;have b2' : Blk w1 q2 9 #[S []] := b2.below hB b2.lt;have c2 : w1.cell? ⟨q2,0,none⟩ = some (S []) := b2'.cell 0;have f2 := b2'.frozen 0;go_wp2_with fail
   go_end0
   exact ⟨rfl,w1,hB,rfl⟩
 | int n =>
   unfold TRep at hT;subst hT;unfold PNum at hpn
   have hcall : Calls Tryz.prog 274 #[.int .i64 n] w fun e w' => e = .returned (S (printP (ffB hi lo) (.int n))) ∧ Below w.heap.size w w' := by
    rw [show printP (ffB hi lo) (.int n) = Lib.itoa n by rw [printP]];exact str_int hF n (by omega) (by omega) w hW
   obtain ⟨tx,htx⟩ : ∃ tx,tx = printP (ffB hi lo) (.int n) := ⟨_,rfl⟩;rw [← htx] at hcall ⊢;have Hcall := Lib.hid hcall;clear hcall htx hst hpn hsz hp0;have c4 := b4.cell 0;simp only [List.getElem?_toArray,List.getElem?_cons_zero] at c4;go_enter Tryz.func29,Tryz.ntmps29;go_wp2_with fail;refine Hcall.out.mono ?_;rintro e w1 ⟨rfl,hB⟩;have b2' : Blk w1 q2 9 #[S []] := b2.below hB b2.lt;have c2 : w1.cell? ⟨q2,0,none⟩ = some (S []) := b2'.cell 0;have f2 := b2'.frozen 0;go_wp2_with fail
   go_end0
   exact ⟨rfl,w1,hB,rfl⟩
 | real x =>
   unfold TRep at hT;subst hT;unfold PNum at hpn
   have hcall : Calls Tryz.prog 275 #[.float .f64 x] w fun e w' => e = .returned (S (printP (ffB hi lo) (.real x))) ∧ Below w.heap.size w w' := by
    rw [show printP (ffB hi lo) (.real x) = ffB hi lo x by rw [printP]];exact str_real hF x w hW hpn.1 hpn.2.1
   obtain ⟨tx,htx⟩ : ∃ tx,tx = printP (ffB hi lo) (.real x) := ⟨_,rfl⟩;rw [← htx] at hcall ⊢;have Hcall := Lib.hid hcall;clear hcall htx hst hpn hsz hp0;have c4 := b4.cell 0;simp only [List.getElem?_toArray,List.getElem?_cons_zero] at c4;go_enter Tryz.func29,Tryz.ntmps29;go_wp2_with fail;refine Hcall.out.mono ?_;rintro e w1 ⟨rfl,hB⟩;have b2' : Blk w1 q2 9 #[S []] := b2.below hB b2.lt;have c2 : w1.cell? ⟨q2,0,none⟩ = some (S []) := b2'.cell 0;have f2 := b2'.frozen 0;go_wp2_with fail
   go_end0
   exact ⟨rfl,w1,hB,rfl⟩
 | lit t =>
   unfold TRep at hT;subst hT
   have hcall : Calls Tryz.prog 277 #[S t] w fun e w' => e = .returned (S (printP (ffB hi lo) (.lit t))) ∧ Below w.heap.size w w' := by
    rw [show printP (ffB hi lo) (.lit t) = 40 :: (t ++ [41]) by rw [printP]];exact (str_lit t w (by rw [szP] at hsz;omega)).mono (by rintro e w3 ⟨rfl,rfl⟩;exact ⟨rfl,Below.refl _ _⟩)
   obtain ⟨tx,htx⟩ : ∃ tx,tx = printP (ffB hi lo) (.lit t) := ⟨_,rfl⟩;rw [← htx] at hcall ⊢;have Hcall := Lib.hid hcall;clear hcall htx hst hpn hsz hp0;have c4 := b4.cell 0;simp only [List.getElem?_toArray,List.getElem?_cons_zero] at c4;go_enter Tryz.func29,Tryz.ntmps29;go_wp2_with fail;refine Hcall.out.mono ?_;rintro e w1 ⟨rfl,hB⟩;have b2' : Blk w1 q2 9 #[S []] := b2.below hB b2.lt;have c2 : w1.cell? ⟨q2,0,none⟩ = some (S []) := b2'.cell 0;have f2 := b2'.frozen 0;go_wp2_with fail
   go_end0
   exact ⟨rfl,w1,hB,rfl⟩
 | hex t =>
   unfold TRep at hT;subst hT
   have hcall : Calls Tryz.prog 278 #[S t] w fun e w' => e = .returned (S (printP (ffB hi lo) (.hex t))) ∧ Below w.heap.size w w' := by
    rw [show printP (ffB hi lo) (.hex t) = 60 :: (t ++ [62]) by rw [printP]];exact (str_hex t w (by rw [szP] at hsz;omega)).mono (by rintro e w3 ⟨rfl,rfl⟩;exact ⟨rfl,Below.refl _ _⟩)
   obtain ⟨tx,htx⟩ : ∃ tx,tx = printP (ffB hi lo) (.hex t) := ⟨_,rfl⟩;rw [← htx] at hcall ⊢;have Hcall := Lib.hid hcall;clear hcall htx hst hpn hsz hp0;have c4 := b4.cell 0;simp only [List.getElem?_toArray,List.getElem?_cons_zero] at c4;go_enter Tryz.func29,Tryz.ntmps29;go_wp2_with fail;refine Hcall.out.mono ?_;rintro e w1 ⟨rfl,hB⟩;have b2' : Blk w1 q2 9 #[S []] := b2.below hB b2.lt;have c2 : w1.cell? ⟨q2,0,none⟩ = some (S []) := b2'.cell 0;have f2 := b2'.frozen 0;go_wp2_with fail
   go_end0
   exact ⟨rfl,w1,hB,rfl⟩
 | name t =>
   unfold TRep at hT;subst hT
   have hcall : Calls Tryz.prog 273 #[S t] w fun e w' => e = .returned (S (printP (ffB hi lo) (.name t))) ∧ Below w.heap.size w w' := by
    rw [show printP (ffB hi lo) (.name t) = 47 :: (if t = [] then [32] else encB t) by rw [printP]];exact str_name t w (by rw [szP] at hsz;omega)
   obtain ⟨tx,htx⟩ : ∃ tx,tx = printP (ffB hi lo) (.name t) := ⟨_,rfl⟩;rw [← htx] at hcall ⊢;have Hcall := Lib.hid hcall;clear hcall htx hst hpn hsz hp0;have c4 := b4.cell 0;simp only [List.getElem?_toArray,List.getElem?_cons_zero] at c4;go_enter Tryz.func29,Tryz.ntmps29;go_wp2_with fail;refine Hcall.out.mono ?_;rintro e w1 ⟨rfl,hB⟩;have b2' : Blk w1 q2 9 #[S []] := b2.below hB b2.lt;have c2 : w1.cell? ⟨q2,0,none⟩ = some (S []) := b2'.cell 0;have f2 := b2'.frozen 0;go_wp2_with fail
   go_end0
   exact ⟨rfl,w1,hB,rfl⟩
 | ref n g =>
   unfold TRep at hT;subst hT;unfold PNum at hpn
   have hcall : Calls Tryz.prog 272 #[.agg #[.int .i64 n,.int .i64 g]] w fun e w' => e = .returned (S (printP (ffB hi lo) (.ref n g))) ∧ Below w.heap.size w w' := by
    rw [show printP (ffB hi lo) (.ref n g) = Lib.itoa n ++ 32 :: (Lib.itoa g ++ [32,82]) by rw [printP]];exact str_ref hF n g hpn.1.1 hpn.1.2 hpn.2.1 hpn.2.2 w hW
   obtain ⟨tx,htx⟩ : ∃ tx,tx = printP (ffB hi lo) (.ref n g) := ⟨_,rfl⟩;rw [← htx] at hcall ⊢;have Hcall := Lib.hid hcall;clear hcall htx hst hpn hsz hp0;have c4 := b4.cell 0;simp only [List.getElem?_toArray,List.getElem?_cons_zero] at c4;go_enter Tryz.func29,Tryz.ntmps29;go_wp2_with fail;refine Hcall.out.mono ?_;rintro e w1 ⟨rfl,hB⟩;have b2' : Blk w1 q2 9 #[S []] := b2.below hB b2.lt;have c2 : w1.cell? ⟨q2,0,none⟩ = some (S []) := b2'.cell 0;have f2 := b2'.frozen 0;go_wp2_with fail
   go_end0
   exact ⟨rfl,w1,hB,rfl⟩
 | arr l =>
   unfold TRep at hT;obtain ⟨s1,xs1,rfl,hr1,_,hk1⟩ := hT;unfold StrOk at hst
   have hcall : Calls Tryz.prog 271 #[s1] w fun e w' => e = .returned (S (printP (ffB hi lo) (.arr l))) ∧ Below w.heap.size w w' := by
    exact hst w F s1 xs1 hW hr1 hk1
   obtain ⟨tx,htx⟩ : ∃ tx,tx = printP (ffB hi lo) (.arr l) := ⟨_,rfl⟩;rw [← htx] at hcall ⊢;have Hcall := Lib.hid hcall;clear hcall htx hst hpn hsz hp0;have c4 := b4.cell 0;simp only [List.getElem?_toArray,List.getElem?_cons_zero] at c4;go_enter Tryz.func29,Tryz.ntmps29;go_wp2_with fail;refine Hcall.out.mono ?_;rintro e w1 ⟨rfl,hB⟩;have b2' : Blk w1 q2 9 #[S []] := b2.below hB b2.lt;have c2 : w1.cell? ⟨q2,0,none⟩ = some (S []) := b2'.cell 0;have f2 := b2'.frozen 0;go_wp2_with fail
   go_end0
   exact ⟨rfl,w1,hB,rfl⟩
 | dict ks l =>
   unfold TRep at hT;obtain ⟨b1,vs1,rfl,_,hm1,hk1⟩ := hT;unfold StrOk at hst
   have hcall : Calls Tryz.prog 269 #[.map (some b1)] w fun e w' => e = .returned (S (printP (ffB hi lo) (.dict ks l))) ∧ Below w.heap.size w w' := by
    exact hst w F b1 vs1 hW hm1 hk1
   obtain ⟨tx,htx⟩ : ∃ tx,tx = printP (ffB hi lo) (.dict ks l) := ⟨_,rfl⟩;rw [← htx] at hcall ⊢;have Hcall := Lib.hid hcall;clear hcall htx hst hpn hsz hp0;have c4 := b4.cell 0;simp only [List.getElem?_toArray,List.getElem?_cons_zero] at c4;go_enter Tryz.func29,Tryz.ntmps29;go_wp2_with fail;refine Hcall.out.mono ?_;rintro e w1 ⟨rfl,hB⟩;have b2' : Blk w1 q2 9 #[S []] := b2.below hB b2.lt;have c2 : w1.cell? ⟨q2,0,none⟩ = some (S []) := b2'.cell 0;have f2 := b2'.frozen 0;go_wp2_with fail
   go_end0
   exact ⟨rfl,w1,hB,rfl⟩
theorem calls_gen2 {P : Program} {f : FuncId} {args : Array Value} {w : World} {Q : Ending → World → Prop} (C : World → Prop) (hC : C w) (h : ∀ w,C w → Calls P f args w Q) : Calls P f args w Q := h w hC
structure PrS (w wr : World) (q2 q4 : Nat) (t : List UInt8) (v : Value) : Prop where
 b2 : Blk wr q2 9 #[S t]
 b4 : Blk wr q4 63 #[v]
 below : Below w.heap.size w wr
 h2 : w.heap.size ≤ q2
 h4 : q2 < q4
theorem print_in {hi lo : Nat → Nat} {W0 : World} (hF : FFW hi lo W0) (p : PObj) (hp0 : p ≠ .null) (hpn : PNum (ffB hi lo) p) (hsz : szP p ≤ 1048576) (kd n g : Int) (x : Nat) (t : List UInt8) (A A2 : Option Addr) (nk kc nl lc : Nat) (w : World) (hW : Below W0.heap.size W0 w)
 (hobj : ∀ w2,Below w.heap.size w w2 → Calls Tryz.prog 27 #[.agg #[.int .i64 kd,.int .i64 n,.int .i64 g,.float .f64 x,S t,.slice A nk kc,.slice A2 nl lc]] w2 (ObjPost w2 p)) :
 Calls Tryz.prog 12 #[.agg #[.int .i64 kd,.int .i64 n,.int .i64 g,.float .f64 x,S t,.slice A nk kc,.slice A2 nl lc]] w fun e w' => e = .returned (.tuple #[S (printP (ffB hi lo) p),.bool true]) ∧ Below w.heap.size w w' := by
 have hmf : ∀ (fn : Fn) (first cap : Array Value) (w : World),(Instr.makeFunc fn first cap).run Tryz.prog w = .ok (.func fn first cap) w := fun _ _ _ _ => rfl
 have hclose := fun (F : Nat → Prop) (v : Value) (q4 q2 : Nat) (w2 : World) (hB : Below w.heap.size w w2) => close_any hF p hp0 hpn hsz F v q4 q2 w2 (hW.trans (hB.mono hW.size))
 have hlen := print_len p hpn;obtain ⟨tx,htx⟩ : ∃ tx,tx = printP (ffB hi lo) p := ⟨_,rfl⟩;rw [← htx] at hclose hlen ⊢;have Hobj := Lib.hid hobj;have Hclose := Lib.hid hclose;have Hp0 := Lib.hid hp0;clear hobj hclose hp0 htx hW hpn;go_enter Tryz.func12,Tryz.ntmps12;go_wp2_with fail;have hB0 : Below w.heap.size w ((w.alloc (.cells #[.int .i64 kd,.int .i64 n,.int .i64 g,.float .f64 x,S t,.slice A nk kc,.slice A2 nl lc] 28)).alloc (.cells #[S []] 9)) := ((Below.refl _ w).alloc (Nat.le_refl _) _).alloc (by simp) _;have hb0 : Blk ((w.alloc (.cells #[.int .i64 kd,.int .i64 n,.int .i64 g,.float .f64 x,S t,.slice A nk kc,.slice A2 nl lc] 28)).alloc (.cells #[S []] 9)) (w.heap.size + 1) 9 #[S []] := Blk.newAt _ 9 _ _ (by simp);refine (Hobj.out _ hB0).mono ?_;rintro e w2 ⟨v,rfl,hT,hB2⟩
 have hv : ∃ T u,v = .iface T u := by
  rcases hT.shape with rfl | h
  · cases p <;> unfold TRep at hT
    · exact absurd rfl Hp0.out
    all_goals first | (obtain ⟨_,_,h,_⟩ := hT;cases h) | cases hT
  exact h
 obtain ⟨T,u,rfl⟩ := hv;have hb2 := hb0.below hB2 hb0.lt;have hB := hB0.trans (hB2.mono hB0.size);have HT := Lib.hid hT;clear hT hB0 hB2 hb0;go_wp2_with fail;refine calls_gen2 (fun wr => PrS w wr (w.heap.size + 1) w2.heap.size [] (.iface T u) ∧ TRep wr (fun i => True) p (.iface T u)) ?_ ?_
 · have hsz2 := hb2.lt;exact ⟨⟨hb2.alloc _,Blk.newAt _ 63 _ _ rfl,hB.alloc hB.size _,by omega,hsz2⟩,TRep.mono (fun i hi hlt => ⟨Below.heap_alloc w2 _ i hlt,trivial⟩) _ _ HT.out⟩
 obtain ⟨q4,hq4⟩ : ∃ q,q = w2.heap.size := ⟨_,rfl⟩;rw [← hq4];obtain ⟨q2,hq2⟩ : ∃ q,q = w.heap.size + 1 := ⟨_,rfl⟩;rw [← hq2];clear hb2 hB HT hq4 hq2;rintro wr ⟨hS,hT⟩;have c4 : wr.cell? ⟨q4,0,none⟩ = some (.iface T u) := hS.b4.cell 0;have HT := Lib.hid hT;clear hT;have e2 := hS.h2;have e4 := hS.h4;have l2 := hS.b2.lt;have l4 := hS.b4.lt;have hz := hS.below.size;refine (calm29 _ wr (fun w' => PrS w w' q2 q4 tx (.iface T u)) ?_).mono ?_
 · have hal := (Below.refl _ wr).alloc (Nat.le_refl _) (.cells #[.bool false] 4);refine (Hclose.out (fun _ => True) (.iface T u) q4 q2 _ (hS.below.alloc hz _) (hS.b4.alloc _) (hS.b2.alloc _) (HT.out.below hal)).mono ?_;rintro e w' ⟨rfl,w1,hB1,rfl⟩;refine ⟨rfl,((Blk.newAt wr 4 #[.bool false] _ rfl).below hB1 (by simp)).far (by simp only;omega) _,?_⟩;have hb := Blk.set_ ((hS.b2.alloc (.cells #[.bool false] 4)).below hB1 (by simp;omega)) 0 (S tx);exact ⟨by simpa using hb,((hS.b4.alloc (.cells #[.bool false] 4)).below hB1 (by simp;omega)).far (by simp only;omega) _,((hS.below.alloc hz _).trans (hB1.mono (by simp;omega))).setCell (by simp only;omega) _,e2,e4⟩
 rintro e w3 ⟨rfl,w1,hS1,rfl⟩;have b2 : Blk (w1.setCell ⟨wr.heap.size,0,none⟩ (.bool true)) q2 9 #[S tx] := hS1.b2.far (by simp only;omega) _;have hB3 : Below w.heap.size w (w1.setCell ⟨wr.heap.size,0,none⟩ (.bool true)) := hS1.below.setCell (by simp only;omega) _;generalize w1.setCell ⟨wr.heap.size,0,none⟩ (.bool true) = w4 at b2 hB3 ⊢;clear hS hS1 HT c4;have c2 : w4.cell? ⟨q2,0,none⟩ = some (S tx) := b2.cell 0;have f2 := b2.frozen 0;have b3 : Blk (w4.setCell ⟨q2,0,none⟩ (S tx)) q2 9 #[S tx] := by have := Blk.set_ b2 0 (S tx);simpa using this
 have c3 : (w4.setCell ⟨q2,0,none⟩ (S tx)).cell? ⟨q2,0,none⟩ = some (S tx) := b3.cell 0;go_wp2_with fail;refine bodyPost_ret (v := .tuple #[S tx,.bool true]) (by simp [results,Tryz.results12,go_sem,c3]) rfl ?_;exact ⟨rfl,hB3.setCell (by simp only;omega) _⟩
theorem print_any {hi lo : Nat → Nat} {W0 : World} (hF : FFW hi lo W0) (tw : Nat → Bool) (o : OObj) (p : PObj) (c : List Value) (w : World) (hR : ORep W0 W0.heap.size o c) (hI : OInt o) (hb : bulkO o ≤ 1048576) (hp : objM tw o = some p) (hp0 : p ≠ .null) (hpn : PNum (ffB hi lo) p) (hsz : szP p ≤ 1048576) (hW : Below W0.heap.size W0 w) :
 Calls Tryz.prog 12 #[.agg c.toArray] w fun e w' => e = .returned (.tuple #[S (printP (ffB hi lo) p),.bool true]) ∧ Below w.heap.size w w' := by
 have hobj := fun w2 (h : Below w.heap.size w w2) => object_any tw W0 (SizeOf.sizeOf o) o p c w2 (Nat.le_refl _) hR hI hb hp (hW.trans (h.mono hW.size))
 obtain ⟨kd,n,g,x,t,ks,l⟩ := o;unfold ORep at hR;obtain ⟨kv,lv,xs,rfl,hk,hl,hkids⟩ := hR;obtain ⟨A,kc,rfl,_⟩ := hk;obtain ⟨A2,lc,rfl,_⟩ := hl;exact print_in hF p hp0 hpn hsz kd n g x t A A2 ks.length kc l.length lc w hW hobj
end Go.Proofs.YtcpijmbdibgdmaaGreatDoor
namespace Go.Proofs.YtcpijmbdibgdmaaGreatDoor
open Go.RowKit
attribute [local go_sem] ba_get store_flt
theorem only_1 (n g : Int) (x : Nat) (t : List UInt8) (A A2 : Option Addr) (nk kc nl lc : Nat) (w : World) (hk : nk ≤ 1048576) (hl : nl ≤ 1048576) :
 Calls Tryz.prog 53 #[.agg #[.int .i64 1,.int .i64 n,.int .i64 g,.float .f64 x,S t,.slice A nk kc,.slice A2 nl lc]] w fun e w' => e = .returned (.bool (onlyB 1 n g x t nk nl)) ∧ Below w.heap.size w w' := by
 by_cases hn : n = 0
 · subst hn;by_cases hg : g = 0
   · subst hg;by_cases hx : FloatKind.f64.format.order x 0 = some Ordering.eq
     ·
      by_cases ht : t = []
      · subst ht;by_cases hk0 : nk = 0
        · subst hk0;by_cases hl0 : nl = 0
          · subst hl0;go_enter Tryz.func53,Tryz.ntmps53;go_wp2_with fail;go_ret;exact ⟨ret_bool (by simp [onlyB,relNZ,hx]),(Below.refl _ _).alloc (Nat.le_refl _) _⟩
          have hl1 : ((nl : Int) == 0) = false := by rw [beq_eq_false_iff_ne];omega
          go_enter Tryz.func53,Tryz.ntmps53;go_wp2_with fail;go_ret;exact ⟨ret_bool (by simp [onlyB,relNZ,hx,hl0]),(Below.refl _ _).alloc (Nat.le_refl _) _⟩
        have hk1 : ((nk : Int) == 0) = false := by rw [beq_eq_false_iff_ne];omega
        go_enter Tryz.func53,Tryz.ntmps53;go_wp2_with fail;go_ret;exact ⟨ret_bool (by simp [onlyB,relNZ,hx,hk0]),(Below.refl _ _).alloc (Nat.le_refl _) _⟩
      · have ht1 : t.isEmpty = false := by simpa using ht
        go_enter Tryz.func53,Tryz.ntmps53;go_wp2_with fail;go_ret;exact ⟨ret_bool (by simp [onlyB,relNZ,hx,ht]),(Below.refl _ _).alloc (Nat.le_refl _) _⟩
     ·
      have hx1 : (FloatKind.f64.format.order x 0 != some Ordering.eq) = true := by simpa using hx
      go_enter Tryz.func53,Tryz.ntmps53;go_wp2_with fail;go_ret;exact ⟨ret_bool (by simp [onlyB,relNZ,hx]),(Below.refl _ _).alloc (Nat.le_refl _) _⟩
   have hg1 : (g != 0) = true := by simpa using hg
   have hg2 : (g == 0) = false := by simpa using hg
   go_enter Tryz.func53,Tryz.ntmps53;go_wp2_with fail;go_ret;exact ⟨ret_bool (by simp [onlyB,relNZ,hg]),(Below.refl _ _).alloc (Nat.le_refl _) _⟩
 · have hn1 : (n != 0) = true := by simpa using hn
   have hn2 : (n == 0) = false := by simpa using hn
   by_cases hg : g = 0
   · subst hg;by_cases hx : FloatKind.f64.format.order x 0 = some Ordering.eq
     ·
      by_cases ht : t = []
      · subst ht;by_cases hk0 : nk = 0
        · subst hk0;by_cases hl0 : nl = 0
          · subst hl0;go_enter Tryz.func53,Tryz.ntmps53;go_wp2_with fail;go_ret;exact ⟨ret_bool (by simp [onlyB,relNZ,hn,hx]),(Below.refl _ _).alloc (Nat.le_refl _) _⟩
          have hl1 : ((nl : Int) == 0) = false := by rw [beq_eq_false_iff_ne];omega
          go_enter Tryz.func53,Tryz.ntmps53;go_wp2_with fail;go_ret;exact ⟨ret_bool (by simp [onlyB,relNZ,hn,hx,hl0]),(Below.refl _ _).alloc (Nat.le_refl _) _⟩
        have hk1 : ((nk : Int) == 0) = false := by rw [beq_eq_false_iff_ne];omega
        go_enter Tryz.func53,Tryz.ntmps53;go_wp2_with fail;go_ret;exact ⟨ret_bool (by simp [onlyB,relNZ,hn,hx,hk0]),(Below.refl _ _).alloc (Nat.le_refl _) _⟩
      · have ht1 : t.isEmpty = false := by simpa using ht
        go_enter Tryz.func53,Tryz.ntmps53;go_wp2_with fail;go_ret;exact ⟨ret_bool (by simp [onlyB,relNZ,hn,hx,ht]),(Below.refl _ _).alloc (Nat.le_refl _) _⟩
     ·
      have hx1 : (FloatKind.f64.format.order x 0 != some Ordering.eq) = true := by simpa using hx
      go_enter Tryz.func53,Tryz.ntmps53;go_wp2_with fail;go_ret;exact ⟨ret_bool (by simp [onlyB,relNZ,hn,hx]),(Below.refl _ _).alloc (Nat.le_refl _) _⟩
   have hg1 : (g != 0) = true := by simpa using hg
   have hg2 : (g == 0) = false := by simpa using hg
   go_enter Tryz.func53,Tryz.ntmps53;go_wp2_with fail;go_ret;exact ⟨ret_bool (by simp [onlyB,relNZ,hn,hg]),(Below.refl _ _).alloc (Nat.le_refl _) _⟩
theorem only_2 (n g : Int) (x : Nat) (t : List UInt8) (A A2 : Option Addr) (nk kc nl lc : Nat) (w : World) (hk : nk ≤ 1048576) (hl : nl ≤ 1048576) :
 Calls Tryz.prog 53 #[.agg #[.int .i64 2,.int .i64 n,.int .i64 g,.float .f64 x,S t,.slice A nk kc,.slice A2 nl lc]] w fun e w' => e = .returned (.bool (onlyB 2 n g x t nk nl)) ∧ Below w.heap.size w w' := by
 by_cases hn : n = 0
 · subst hn;by_cases hg : g = 0
   · subst hg;by_cases hx : FloatKind.f64.format.order x 0 = some Ordering.eq
     ·
      by_cases ht : t = []
      · subst ht;by_cases hk0 : nk = 0
        · subst hk0;by_cases hl0 : nl = 0
          · subst hl0;go_enter Tryz.func53,Tryz.ntmps53;go_wp2_with fail;go_ret;exact ⟨ret_bool (by simp [onlyB,relNZ,hx]),(Below.refl _ _).alloc (Nat.le_refl _) _⟩
          have hl1 : ((nl : Int) == 0) = false := by rw [beq_eq_false_iff_ne];omega
          go_enter Tryz.func53,Tryz.ntmps53;go_wp2_with fail;go_ret;exact ⟨ret_bool (by simp [onlyB,relNZ,hx,hl0]),(Below.refl _ _).alloc (Nat.le_refl _) _⟩
        have hk1 : ((nk : Int) == 0) = false := by rw [beq_eq_false_iff_ne];omega
        go_enter Tryz.func53,Tryz.ntmps53;go_wp2_with fail;go_ret;exact ⟨ret_bool (by simp [onlyB,relNZ,hx,hk0]),(Below.refl _ _).alloc (Nat.le_refl _) _⟩
      · have ht1 : t.isEmpty = false := by simpa using ht
        go_enter Tryz.func53,Tryz.ntmps53;go_wp2_with fail;go_ret;exact ⟨ret_bool (by simp [onlyB,relNZ,hx,ht]),(Below.refl _ _).alloc (Nat.le_refl _) _⟩
     ·
      have hx1 : (FloatKind.f64.format.order x 0 != some Ordering.eq) = true := by simpa using hx
      go_enter Tryz.func53,Tryz.ntmps53;go_wp2_with fail;go_ret;exact ⟨ret_bool (by simp [onlyB,relNZ,hx]),(Below.refl _ _).alloc (Nat.le_refl _) _⟩
   have hg1 : (g != 0) = true := by simpa using hg
   have hg2 : (g == 0) = false := by simpa using hg
   go_enter Tryz.func53,Tryz.ntmps53;go_wp2_with fail;go_ret;exact ⟨ret_bool (by simp [onlyB,relNZ,hg]),(Below.refl _ _).alloc (Nat.le_refl _) _⟩
 · have hn1 : (n != 0) = true := by simpa using hn
   have hn2 : (n == 0) = false := by simpa using hn
   by_cases hg : g = 0
   · subst hg;by_cases hx : FloatKind.f64.format.order x 0 = some Ordering.eq
     ·
      by_cases ht : t = []
      · subst ht;by_cases hk0 : nk = 0
        · subst hk0;by_cases hl0 : nl = 0
          · subst hl0;go_enter Tryz.func53,Tryz.ntmps53;go_wp2_with fail;go_ret;exact ⟨ret_bool (by simp [onlyB,relNZ,hn,hx]),(Below.refl _ _).alloc (Nat.le_refl _) _⟩
          have hl1 : ((nl : Int) == 0) = false := by rw [beq_eq_false_iff_ne];omega
          go_enter Tryz.func53,Tryz.ntmps53;go_wp2_with fail;go_ret;exact ⟨ret_bool (by simp [onlyB,relNZ,hn,hx,hl0]),(Below.refl _ _).alloc (Nat.le_refl _) _⟩
        have hk1 : ((nk : Int) == 0) = false := by rw [beq_eq_false_iff_ne];omega
        go_enter Tryz.func53,Tryz.ntmps53;go_wp2_with fail;go_ret;exact ⟨ret_bool (by simp [onlyB,relNZ,hn,hx,hk0]),(Below.refl _ _).alloc (Nat.le_refl _) _⟩
      · have ht1 : t.isEmpty = false := by simpa using ht
        go_enter Tryz.func53,Tryz.ntmps53;go_wp2_with fail;go_ret;exact ⟨ret_bool (by simp [onlyB,relNZ,hn,hx,ht]),(Below.refl _ _).alloc (Nat.le_refl _) _⟩
     ·
      have hx1 : (FloatKind.f64.format.order x 0 != some Ordering.eq) = true := by simpa using hx
      go_enter Tryz.func53,Tryz.ntmps53;go_wp2_with fail;go_ret;exact ⟨ret_bool (by simp [onlyB,relNZ,hn,hx]),(Below.refl _ _).alloc (Nat.le_refl _) _⟩
   have hg1 : (g != 0) = true := by simpa using hg
   have hg2 : (g == 0) = false := by simpa using hg
   go_enter Tryz.func53,Tryz.ntmps53;go_wp2_with fail;go_ret;exact ⟨ret_bool (by simp [onlyB,relNZ,hn,hg]),(Below.refl _ _).alloc (Nat.le_refl _) _⟩
theorem only_3 (n g : Int) (x : Nat) (t : List UInt8) (A A2 : Option Addr) (nk kc nl lc : Nat) (w : World) (hk : nk ≤ 1048576) (hl : nl ≤ 1048576) :
 Calls Tryz.prog 53 #[.agg #[.int .i64 3,.int .i64 n,.int .i64 g,.float .f64 x,S t,.slice A nk kc,.slice A2 nl lc]] w fun e w' => e = .returned (.bool (onlyB 3 n g x t nk nl)) ∧ Below w.heap.size w w' := by
 by_cases hn : n = 0
 · subst hn;by_cases hg : g = 0
   · subst hg;by_cases hx : FloatKind.f64.format.order x 0 = some Ordering.eq
     ·
      by_cases ht : t = []
      · subst ht;by_cases hk0 : nk = 0
        · subst hk0;by_cases hl0 : nl = 0
          · subst hl0;go_enter Tryz.func53,Tryz.ntmps53;go_wp2_with fail;go_ret;exact ⟨ret_bool (by simp [onlyB,relNZ,hx]),(Below.refl _ _).alloc (Nat.le_refl _) _⟩
          have hl1 : ((nl : Int) == 0) = false := by rw [beq_eq_false_iff_ne];omega
          go_enter Tryz.func53,Tryz.ntmps53;go_wp2_with fail;go_ret;exact ⟨ret_bool (by simp [onlyB,relNZ,hx,hl0]),(Below.refl _ _).alloc (Nat.le_refl _) _⟩
        have hk1 : ((nk : Int) == 0) = false := by rw [beq_eq_false_iff_ne];omega
        go_enter Tryz.func53,Tryz.ntmps53;go_wp2_with fail;go_ret;exact ⟨ret_bool (by simp [onlyB,relNZ,hx,hk0]),(Below.refl _ _).alloc (Nat.le_refl _) _⟩
      · have ht1 : t.isEmpty = false := by simpa using ht
        go_enter Tryz.func53,Tryz.ntmps53;go_wp2_with fail;go_ret;exact ⟨ret_bool (by simp [onlyB,relNZ,hx,ht]),(Below.refl _ _).alloc (Nat.le_refl _) _⟩
     ·
      have hx1 : (FloatKind.f64.format.order x 0 != some Ordering.eq) = true := by simpa using hx
      by_cases ht : t = []
      · subst ht;by_cases hk0 : nk = 0
        · subst hk0;by_cases hl0 : nl = 0
          · subst hl0;go_enter Tryz.func53,Tryz.ntmps53;go_wp2_with fail;go_ret;exact ⟨ret_bool (by simp [onlyB,relNZ,hx]),(Below.refl _ _).alloc (Nat.le_refl _) _⟩
          have hl1 : ((nl : Int) == 0) = false := by rw [beq_eq_false_iff_ne];omega
          go_enter Tryz.func53,Tryz.ntmps53;go_wp2_with fail;go_ret;exact ⟨ret_bool (by simp [onlyB,relNZ,hx,hl0]),(Below.refl _ _).alloc (Nat.le_refl _) _⟩
        have hk1 : ((nk : Int) == 0) = false := by rw [beq_eq_false_iff_ne];omega
        go_enter Tryz.func53,Tryz.ntmps53;go_wp2_with fail;go_ret;exact ⟨ret_bool (by simp [onlyB,relNZ,hx,hk0]),(Below.refl _ _).alloc (Nat.le_refl _) _⟩
      · have ht1 : t.isEmpty = false := by simpa using ht
        go_enter Tryz.func53,Tryz.ntmps53;go_wp2_with fail;go_ret;exact ⟨ret_bool (by simp [onlyB,relNZ,hx,ht]),(Below.refl _ _).alloc (Nat.le_refl _) _⟩
   have hg1 : (g != 0) = true := by simpa using hg
   have hg2 : (g == 0) = false := by simpa using hg
   go_enter Tryz.func53,Tryz.ntmps53;go_wp2_with fail;go_ret;exact ⟨ret_bool (by simp [onlyB,relNZ,hg]),(Below.refl _ _).alloc (Nat.le_refl _) _⟩
 · have hn1 : (n != 0) = true := by simpa using hn
   have hn2 : (n == 0) = false := by simpa using hn
   go_enter Tryz.func53,Tryz.ntmps53;go_wp2_with fail;go_ret;exact ⟨ret_bool (by simp [onlyB,relNZ,hn]),(Below.refl _ _).alloc (Nat.le_refl _) _⟩
theorem only_7 (n g : Int) (x : Nat) (t : List UInt8) (A A2 : Option Addr) (nk kc nl lc : Nat) (w : World) (hk : nk ≤ 1048576) (hl : nl ≤ 1048576) :
 Calls Tryz.prog 53 #[.agg #[.int .i64 7,.int .i64 n,.int .i64 g,.float .f64 x,S t,.slice A nk kc,.slice A2 nl lc]] w fun e w' => e = .returned (.bool (onlyB 7 n g x t nk nl)) ∧ Below w.heap.size w w' := by
 by_cases hn : n = 0
 · subst hn;by_cases hg : g = 0
   · subst hg;by_cases hx : FloatKind.f64.format.order x 0 = some Ordering.eq
     ·
      by_cases ht : t = []
      · subst ht;by_cases hk0 : nk = 0
        · subst hk0;by_cases hl0 : nl = 0
          · subst hl0;go_enter Tryz.func53,Tryz.ntmps53;go_wp2_with fail;go_ret;exact ⟨ret_bool (by simp [onlyB,relNZ,hx]),(Below.refl _ _).alloc (Nat.le_refl _) _⟩
          have hl1 : ((nl : Int) == 0) = false := by rw [beq_eq_false_iff_ne];omega
          go_enter Tryz.func53,Tryz.ntmps53;go_wp2_with fail;go_ret;exact ⟨ret_bool (by simp [onlyB,relNZ,hx,hl0]),(Below.refl _ _).alloc (Nat.le_refl _) _⟩
        have hk1 : ((nk : Int) == 0) = false := by rw [beq_eq_false_iff_ne];omega
        go_enter Tryz.func53,Tryz.ntmps53;go_wp2_with fail;go_ret;exact ⟨ret_bool (by simp [onlyB,relNZ,hx,hk0]),(Below.refl _ _).alloc (Nat.le_refl _) _⟩
      · have ht1 : t.isEmpty = false := by simpa using ht
        go_enter Tryz.func53,Tryz.ntmps53;go_wp2_with fail;go_ret;exact ⟨ret_bool (by simp [onlyB,relNZ,hx,ht]),(Below.refl _ _).alloc (Nat.le_refl _) _⟩
     ·
      have hx1 : (FloatKind.f64.format.order x 0 != some Ordering.eq) = true := by simpa using hx
      go_enter Tryz.func53,Tryz.ntmps53;go_wp2_with fail;go_ret;exact ⟨ret_bool (by simp [onlyB,relNZ,hx]),(Below.refl _ _).alloc (Nat.le_refl _) _⟩
   have hg1 : (g != 0) = true := by simpa using hg
   have hg2 : (g == 0) = false := by simpa using hg
   go_enter Tryz.func53,Tryz.ntmps53;go_wp2_with fail;go_ret;exact ⟨ret_bool (by simp [onlyB,relNZ,hg]),(Below.refl _ _).alloc (Nat.le_refl _) _⟩
 · have hn1 : (n != 0) = true := by simpa using hn
   have hn2 : (n == 0) = false := by simpa using hn
   go_enter Tryz.func53,Tryz.ntmps53;go_wp2_with fail;go_ret;exact ⟨ret_bool (by simp [onlyB,relNZ,hn]),(Below.refl _ _).alloc (Nat.le_refl _) _⟩
theorem only_8 (n g : Int) (x : Nat) (t : List UInt8) (A A2 : Option Addr) (nk kc nl lc : Nat) (w : World) (hk : nk ≤ 1048576) (hl : nl ≤ 1048576) :
 Calls Tryz.prog 53 #[.agg #[.int .i64 8,.int .i64 n,.int .i64 g,.float .f64 x,S t,.slice A nk kc,.slice A2 nl lc]] w fun e w' => e = .returned (.bool (onlyB 8 n g x t nk nl)) ∧ Below w.heap.size w w' := by
 by_cases hn : n = 0
 · subst hn;by_cases hg : g = 0
   · subst hg;by_cases hx : FloatKind.f64.format.order x 0 = some Ordering.eq
     ·
      by_cases ht : t = []
      · subst ht;by_cases hk0 : nk = 0
        · subst hk0;by_cases hl0 : nl = 0
          · subst hl0;go_enter Tryz.func53,Tryz.ntmps53;go_wp2_with fail;go_ret;exact ⟨ret_bool (by simp [onlyB,relNZ,hx]),(Below.refl _ _).alloc (Nat.le_refl _) _⟩
          have hl1 : ((nl : Int) == 0) = false := by rw [beq_eq_false_iff_ne];omega
          go_enter Tryz.func53,Tryz.ntmps53;go_wp2_with fail;go_ret;exact ⟨ret_bool (by simp [onlyB,relNZ,hx,hl0]),(Below.refl _ _).alloc (Nat.le_refl _) _⟩
        have hk1 : ((nk : Int) == 0) = false := by rw [beq_eq_false_iff_ne];omega
        by_cases hl0 : nl = 0
        · subst hl0;go_enter Tryz.func53,Tryz.ntmps53;go_wp2_with fail;go_ret;exact ⟨ret_bool (by simp [onlyB,relNZ,hx,hk0]),(Below.refl _ _).alloc (Nat.le_refl _) _⟩
        have hl1 : ((nl : Int) == 0) = false := by rw [beq_eq_false_iff_ne];omega
        go_enter Tryz.func53,Tryz.ntmps53;go_wp2_with fail;go_ret;exact ⟨ret_bool (by simp [onlyB,relNZ,hx,hk0,hl0]),(Below.refl _ _).alloc (Nat.le_refl _) _⟩
      · have ht1 : t.isEmpty = false := by simpa using ht
        go_enter Tryz.func53,Tryz.ntmps53;go_wp2_with fail;go_ret;exact ⟨ret_bool (by simp [onlyB,relNZ,hx,ht]),(Below.refl _ _).alloc (Nat.le_refl _) _⟩
     ·
      have hx1 : (FloatKind.f64.format.order x 0 != some Ordering.eq) = true := by simpa using hx
      go_enter Tryz.func53,Tryz.ntmps53;go_wp2_with fail;go_ret;exact ⟨ret_bool (by simp [onlyB,relNZ,hx]),(Below.refl _ _).alloc (Nat.le_refl _) _⟩
   have hg1 : (g != 0) = true := by simpa using hg
   have hg2 : (g == 0) = false := by simpa using hg
   go_enter Tryz.func53,Tryz.ntmps53;go_wp2_with fail;go_ret;exact ⟨ret_bool (by simp [onlyB,relNZ,hg]),(Below.refl _ _).alloc (Nat.le_refl _) _⟩
 · have hn1 : (n != 0) = true := by simpa using hn
   have hn2 : (n == 0) = false := by simpa using hn
   go_enter Tryz.func53,Tryz.ntmps53;go_wp2_with fail;go_ret;exact ⟨ret_bool (by simp [onlyB,relNZ,hn]),(Below.refl _ _).alloc (Nat.le_refl _) _⟩
end Go.Proofs.YtcpijmbdibgdmaaGreatDoor
namespace Go.Proofs.YtcpijmbdibgdmaaGreatDoor
open Go.RowKit
attribute [local go_sem] ba_get store_flt
theorem only_4 (n g : Int) (x : Nat) (t : List UInt8) (A A2 : Option Addr) (nk kc nl lc : Nat) (w : World) (hk : nk ≤ 1048576) (hl : nl ≤ 1048576) :
 Calls Tryz.prog 53 #[.agg #[.int .i64 4,.int .i64 n,.int .i64 g,.float .f64 x,S t,.slice A nk kc,.slice A2 nl lc]] w fun e w' => e = .returned (.bool (onlyB 4 n g x t nk nl)) ∧ Below w.heap.size w w' := by
 by_cases hn : n = 0
 · subst hn;by_cases hg : g = 0
   · subst hg;by_cases hx : FloatKind.f64.format.order x 0 = some Ordering.eq
     ·
      by_cases ht : t = []
      · subst ht;by_cases hk0 : nk = 0
        · subst hk0;by_cases hl0 : nl = 0
          · subst hl0;go_enter Tryz.func53,Tryz.ntmps53;go_wp2_with fail;go_ret;exact ⟨ret_bool (by simp [onlyB,relNZ,hx]),(Below.refl _ _).alloc (Nat.le_refl _) _⟩
          have hl1 : ((nl : Int) == 0) = false := by rw [beq_eq_false_iff_ne];omega
          go_enter Tryz.func53,Tryz.ntmps53;go_wp2_with fail;go_ret;exact ⟨ret_bool (by simp [onlyB,relNZ,hx,hl0]),(Below.refl _ _).alloc (Nat.le_refl _) _⟩
        have hk1 : ((nk : Int) == 0) = false := by rw [beq_eq_false_iff_ne];omega
        go_enter Tryz.func53,Tryz.ntmps53;go_wp2_with fail;go_ret;exact ⟨ret_bool (by simp [onlyB,relNZ,hx,hk0]),(Below.refl _ _).alloc (Nat.le_refl _) _⟩
      · have ht1 : t.isEmpty = false := by simpa using ht
        by_cases hk0 : nk = 0
        · subst hk0;by_cases hl0 : nl = 0
          · subst hl0;go_enter Tryz.func53,Tryz.ntmps53;go_wp2_with fail;go_ret;exact ⟨ret_bool (by simp [onlyB,relNZ,hx,ht]),(Below.refl _ _).alloc (Nat.le_refl _) _⟩
          have hl1 : ((nl : Int) == 0) = false := by rw [beq_eq_false_iff_ne];omega
          go_enter Tryz.func53,Tryz.ntmps53;go_wp2_with fail;go_ret;exact ⟨ret_bool (by simp [onlyB,relNZ,hx,ht,hl0]),(Below.refl _ _).alloc (Nat.le_refl _) _⟩
        have hk1 : ((nk : Int) == 0) = false := by rw [beq_eq_false_iff_ne];omega
        go_enter Tryz.func53,Tryz.ntmps53;go_wp2_with fail;go_ret;exact ⟨ret_bool (by simp [onlyB,relNZ,hx,ht,hk0]),(Below.refl _ _).alloc (Nat.le_refl _) _⟩
     ·
      have hx1 : (FloatKind.f64.format.order x 0 != some Ordering.eq) = true := by simpa using hx
      go_enter Tryz.func53,Tryz.ntmps53;go_wp2_with fail;go_ret;exact ⟨ret_bool (by simp [onlyB,relNZ,hx]),(Below.refl _ _).alloc (Nat.le_refl _) _⟩
   have hg1 : (g != 0) = true := by simpa using hg
   have hg2 : (g == 0) = false := by simpa using hg
   go_enter Tryz.func53,Tryz.ntmps53;go_wp2_with fail;go_ret;exact ⟨ret_bool (by simp [onlyB,relNZ,hg]),(Below.refl _ _).alloc (Nat.le_refl _) _⟩
 · have hn1 : (n != 0) = true := by simpa using hn
   have hn2 : (n == 0) = false := by simpa using hn
   go_enter Tryz.func53,Tryz.ntmps53;go_wp2_with fail;go_ret;exact ⟨ret_bool (by simp [onlyB,relNZ,hn]),(Below.refl _ _).alloc (Nat.le_refl _) _⟩
theorem only_5 (n g : Int) (x : Nat) (t : List UInt8) (A A2 : Option Addr) (nk kc nl lc : Nat) (w : World) (hk : nk ≤ 1048576) (hl : nl ≤ 1048576) :
 Calls Tryz.prog 53 #[.agg #[.int .i64 5,.int .i64 n,.int .i64 g,.float .f64 x,S t,.slice A nk kc,.slice A2 nl lc]] w fun e w' => e = .returned (.bool (onlyB 5 n g x t nk nl)) ∧ Below w.heap.size w w' := by
 by_cases hn : n = 0
 · subst hn;by_cases hg : g = 0
   · subst hg;by_cases hx : FloatKind.f64.format.order x 0 = some Ordering.eq
     ·
      by_cases ht : t = []
      · subst ht;by_cases hk0 : nk = 0
        · subst hk0;by_cases hl0 : nl = 0
          · subst hl0;go_enter Tryz.func53,Tryz.ntmps53;go_wp2_with fail;go_ret;exact ⟨ret_bool (by simp [onlyB,relNZ,hx]),(Below.refl _ _).alloc (Nat.le_refl _) _⟩
          have hl1 : ((nl : Int) == 0) = false := by rw [beq_eq_false_iff_ne];omega
          go_enter Tryz.func53,Tryz.ntmps53;go_wp2_with fail;go_ret;exact ⟨ret_bool (by simp [onlyB,relNZ,hx,hl0]),(Below.refl _ _).alloc (Nat.le_refl _) _⟩
        have hk1 : ((nk : Int) == 0) = false := by rw [beq_eq_false_iff_ne];omega
        go_enter Tryz.func53,Tryz.ntmps53;go_wp2_with fail;go_ret;exact ⟨ret_bool (by simp [onlyB,relNZ,hx,hk0]),(Below.refl _ _).alloc (Nat.le_refl _) _⟩
      · have ht1 : t.isEmpty = false := by simpa using ht
        by_cases hk0 : nk = 0
        · subst hk0;by_cases hl0 : nl = 0
          · subst hl0;go_enter Tryz.func53,Tryz.ntmps53;go_wp2_with fail;go_ret;exact ⟨ret_bool (by simp [onlyB,relNZ,hx,ht]),(Below.refl _ _).alloc (Nat.le_refl _) _⟩
          have hl1 : ((nl : Int) == 0) = false := by rw [beq_eq_false_iff_ne];omega
          go_enter Tryz.func53,Tryz.ntmps53;go_wp2_with fail;go_ret;exact ⟨ret_bool (by simp [onlyB,relNZ,hx,ht,hl0]),(Below.refl _ _).alloc (Nat.le_refl _) _⟩
        have hk1 : ((nk : Int) == 0) = false := by rw [beq_eq_false_iff_ne];omega
        go_enter Tryz.func53,Tryz.ntmps53;go_wp2_with fail;go_ret;exact ⟨ret_bool (by simp [onlyB,relNZ,hx,ht,hk0]),(Below.refl _ _).alloc (Nat.le_refl _) _⟩
     ·
      have hx1 : (FloatKind.f64.format.order x 0 != some Ordering.eq) = true := by simpa using hx
      go_enter Tryz.func53,Tryz.ntmps53;go_wp2_with fail;go_ret;exact ⟨ret_bool (by simp [onlyB,relNZ,hx]),(Below.refl _ _).alloc (Nat.le_refl _) _⟩
   have hg1 : (g != 0) = true := by simpa using hg
   have hg2 : (g == 0) = false := by simpa using hg
   go_enter Tryz.func53,Tryz.ntmps53;go_wp2_with fail;go_ret;exact ⟨ret_bool (by simp [onlyB,relNZ,hg]),(Below.refl _ _).alloc (Nat.le_refl _) _⟩
 · have hn1 : (n != 0) = true := by simpa using hn
   have hn2 : (n == 0) = false := by simpa using hn
   go_enter Tryz.func53,Tryz.ntmps53;go_wp2_with fail;go_ret;exact ⟨ret_bool (by simp [onlyB,relNZ,hn]),(Below.refl _ _).alloc (Nat.le_refl _) _⟩
theorem only_6 (n g : Int) (x : Nat) (t : List UInt8) (A A2 : Option Addr) (nk kc nl lc : Nat) (w : World) (hk : nk ≤ 1048576) (hl : nl ≤ 1048576) :
 Calls Tryz.prog 53 #[.agg #[.int .i64 6,.int .i64 n,.int .i64 g,.float .f64 x,S t,.slice A nk kc,.slice A2 nl lc]] w fun e w' => e = .returned (.bool (onlyB 6 n g x t nk nl)) ∧ Below w.heap.size w w' := by
 by_cases hn : n = 0
 · subst hn;by_cases hg : g = 0
   · subst hg;by_cases hx : FloatKind.f64.format.order x 0 = some Ordering.eq
     ·
      by_cases ht : t = []
      · subst ht;by_cases hk0 : nk = 0
        · subst hk0;by_cases hl0 : nl = 0
          · subst hl0;go_enter Tryz.func53,Tryz.ntmps53;go_wp2_with fail;go_ret;exact ⟨ret_bool (by simp [onlyB,relNZ,hx]),(Below.refl _ _).alloc (Nat.le_refl _) _⟩
          have hl1 : ((nl : Int) == 0) = false := by rw [beq_eq_false_iff_ne];omega
          go_enter Tryz.func53,Tryz.ntmps53;go_wp2_with fail;go_ret;exact ⟨ret_bool (by simp [onlyB,relNZ,hx,hl0]),(Below.refl _ _).alloc (Nat.le_refl _) _⟩
        have hk1 : ((nk : Int) == 0) = false := by rw [beq_eq_false_iff_ne];omega
        go_enter Tryz.func53,Tryz.ntmps53;go_wp2_with fail;go_ret;exact ⟨ret_bool (by simp [onlyB,relNZ,hx,hk0]),(Below.refl _ _).alloc (Nat.le_refl _) _⟩
      · have ht1 : t.isEmpty = false := by simpa using ht
        by_cases hk0 : nk = 0
        · subst hk0;by_cases hl0 : nl = 0
          · subst hl0;go_enter Tryz.func53,Tryz.ntmps53;go_wp2_with fail;go_ret;exact ⟨ret_bool (by simp [onlyB,relNZ,hx,ht]),(Below.refl _ _).alloc (Nat.le_refl _) _⟩
          have hl1 : ((nl : Int) == 0) = false := by rw [beq_eq_false_iff_ne];omega
          go_enter Tryz.func53,Tryz.ntmps53;go_wp2_with fail;go_ret;exact ⟨ret_bool (by simp [onlyB,relNZ,hx,ht,hl0]),(Below.refl _ _).alloc (Nat.le_refl _) _⟩
        have hk1 : ((nk : Int) == 0) = false := by rw [beq_eq_false_iff_ne];omega
        go_enter Tryz.func53,Tryz.ntmps53;go_wp2_with fail;go_ret;exact ⟨ret_bool (by simp [onlyB,relNZ,hx,ht,hk0]),(Below.refl _ _).alloc (Nat.le_refl _) _⟩
     ·
      have hx1 : (FloatKind.f64.format.order x 0 != some Ordering.eq) = true := by simpa using hx
      go_enter Tryz.func53,Tryz.ntmps53;go_wp2_with fail;go_ret;exact ⟨ret_bool (by simp [onlyB,relNZ,hx]),(Below.refl _ _).alloc (Nat.le_refl _) _⟩
   have hg1 : (g != 0) = true := by simpa using hg
   have hg2 : (g == 0) = false := by simpa using hg
   go_enter Tryz.func53,Tryz.ntmps53;go_wp2_with fail;go_ret;exact ⟨ret_bool (by simp [onlyB,relNZ,hg]),(Below.refl _ _).alloc (Nat.le_refl _) _⟩
 · have hn1 : (n != 0) = true := by simpa using hn
   have hn2 : (n == 0) = false := by simpa using hn
   go_enter Tryz.func53,Tryz.ntmps53;go_wp2_with fail;go_ret;exact ⟨ret_bool (by simp [onlyB,relNZ,hn]),(Below.refl _ _).alloc (Nat.le_refl _) _⟩
end Go.Proofs.YtcpijmbdibgdmaaGreatDoor
