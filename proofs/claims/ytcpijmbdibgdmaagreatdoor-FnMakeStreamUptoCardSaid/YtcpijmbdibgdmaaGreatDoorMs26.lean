/-
  Values that are read back: how they compare with what was written; their levels and their number.
  spec.Same: what was read is what was written.
  spec.Same of dictionaries: what was read is what was written.
-/
import Derived.Test.YtcpijmbdibgdmaaGreatDoorMs25
set_option linter.all false
set_option maxHeartbeats 16000000
set_option maxRecDepth 100000
namespace Go.Proofs.YtcpijmbdibgdmaaGreatDoor
open Go.RowKit
mutual
def SameP (rf : Nat → Nat) : PObj → Prop
 | .real x => FloatKind.f64.format.order (rf x) x = some .eq
 | .arr l => SameL rf l
 | .dict ks l => ks.length = l.length ∧ ks.Pairwise (· ≠ ·) ∧ SameL rf l
 | _ => True
def SameL (rf : Nat → Nat) : List PObj → Prop
 | [] => True
 | p :: l => SameP rf p ∧ SameL rf l
end
theorem SameL.at_ {rf : Nat → Nat} : ∀ {l : List PObj},SameL rf l → ∀ (i : Nat) (h : i < l.length),SameP rf l[i]
 | [],_,i,h => by simp at h
 | o :: l,hl,0,_ => by unfold SameL at hl;exact hl.1
 | o :: l,hl,i + 1,h => by unfold SameL at hl;exact SameL.at_ hl.2 i (by simpa using h)
section
variable {FF : Nat → List UInt8} {tw : Nat → Bool} {rf : Nat → Nat}
mutual
theorem same_of (hT : ∀ x,tw x = true → FloatKind.f64.format.order (rf x) x = some .eq) : ∀ (p : PObj),PGood FF p → PTw tw p → SameP rf p
 | .null,_,_ => by simp only [SameP]
 | .bool b,_,_ => by simp only [SameP]
 | .int n,_,_ => by simp only [SameP]
 | .real x,_,h => by rw [PTw] at h;rw [SameP];exact hT x h
 | .lit t,_,_ => by simp only [SameP]
 | .hex t,_,_ => by simp only [SameP]
 | .name t,_,_ => by simp only [SameP]
 | .ref n g,_,_ => by simp only [SameP]
 | .arr l,hg,h => by rw [PGood] at hg;rw [PTw] at h;rw [SameP];exact same_ofL hT l hg h
 | .dict ks l,hg,h => by rw [PGood] at hg;rw [PTw] at h;rw [SameP];exact ⟨hg.1,hg.2.2.1,same_ofL hT l hg.2.2.2 h⟩
theorem same_ofL (hT : ∀ x,tw x = true → FloatKind.f64.format.order (rf x) x = some .eq) : ∀ (l : List PObj),LGood FF l → LTw tw l → SameL rf l
 | [],_,_ => by rw [SameL];trivial
 | p :: l,hg,h => by rw [LGood] at hg;rw [LTw] at h;rw [SameL];exact ⟨same_of hT p hg.1 h.1,same_ofL hT l hg.2 h.2⟩
end
end
theorem valL_len (rf : Nat → Nat) : ∀ l : List PObj,(valL rf l).length = l.length
 | [] => by rw [valL];rfl
 | p :: l => by rw [valL,List.length_cons,List.length_cons,valL_len rf l]
theorem valL_at (rf : Nat → Nat) : ∀ (l : List PObj) (i : Nat) (h : i < (valL rf l).length) (h' : i < l.length),(valL rf l)[i] = valP rf l[i]
 | [],i,_,h => by simp at h
 | p :: l,0,h,_ => by simp only [valL];rfl
 | p :: l,i + 1,h,h' => by
   have := valL_at rf l i (by rw [valL_len];simpa using h') (by simpa using h');simp only [valL];exact this
mutual
theorem lev_val (rf : Nat → Nat) : ∀ p : PObj,levS (valP rf p) = levP p
 | .null => by simp [valP,levS,levP]
 | .bool b => by simp [valP,levS,levP]
 | .int n => by simp [valP,levS,levP]
 | .real x => by simp [valP,levS,levP]
 | .lit t => by simp [valP,levS,levP]
 | .hex t => by simp [valP,levS,levP]
 | .name t => by simp [valP,levS,levP]
 | .ref n g => by simp [valP,levS,levP]
 | .arr l => by rw [valP,levS,levP,lev_valL rf l]
 | .dict ks l => by rw [valP,levS,levP,lev_valL rf l]
theorem lev_valL (rf : Nat → Nat) : ∀ l : List PObj,levSL (valL rf l) = levL l
 | [] => by rw [valL,levSL,levL]
 | p :: l => by rw [valL,levSL,levL,lev_val rf p,lev_valL rf l]
end
mutual
theorem cnt_val (rf : Nat → Nat) : ∀ p : PObj,cntS (valP rf p) ≤ szP p
 | .null => by simp [valP,cntS,szP]
 | .bool b => by simp [valP,cntS,szP]
 | .int n => by simp [valP,cntS,szP]
 | .real x => by simp [valP,cntS,szP]
 | .lit t => by simp [valP,cntS,szP]
 | .hex t => by simp [valP,cntS,szP]
 | .name t => by simp [valP,cntS,szP]
 | .ref n g => by simp [valP,cntS,szP]
 | .arr l => by rw [valP,cntS,szP];have := cnt_valL rf l;omega
 | .dict ks l => by rw [valP,cntS,szP];have := cnt_valL rf l;omega
theorem cnt_valL (rf : Nat → Nat) : ∀ l : List PObj,cntSL (valL rf l) ≤ szL l
 | [] => by rw [valL,cntSL,szL];exact Nat.le_refl _
 | p :: l => by rw [valL,cntSL,szL];have := cnt_val rf p;have := cnt_valL rf l;omega
end
theorem kind_val (rf : Nat → Nat) (p : PObj) : kindS (valP rf p) = kindS (valP id p) := by cases p <;> simp only [valP,kindS]
theorem num_val (rf : Nat → Nat) (p : PObj) : numS (valP rf p) = numS (valP id p) := by cases p <;> simp only [valP,numS]
theorem gen_val (rf : Nat → Nat) (p : PObj) : genS (valP rf p) = genS (valP id p) := by cases p <;> simp only [valP,genS]
theorem text_val (rf : Nat → Nat) (p : PObj) : textS (valP rf p) = textS (valP id p) := by cases p <;> simp only [valP,textS]
theorem real_val {rf : Nat → Nat} {p : PObj} (h : SameP rf p) : FloatKind.f64.format.order (realS (valP rf p)) (realS (valP id p)) = some .eq := by
 cases p with
 | real x => rw [SameP] at h;simpa only [valP,realS,id] using h
 | _ => simp only [valP,realS];decide +kernel
def kidsP : PObj → List PObj
 | .arr l => l
 | .dict _ l => l
 | _ => []
theorem kids_val (rf : Nat → Nat) (p : PObj) : kidsS (valP rf p) = valL rf (kidsP p) := by cases p <;> simp [valP,kidsS,kidsP,valL]
theorem kids_same {rf : Nat → Nat} {p : PObj} (h : SameP rf p) : SameL rf (kidsP p) := by
 cases p with
 | arr l => rw [SameP] at h;exact h
 | dict ks l => rw [SameP] at h;exact h.2.2
 | _ => simp [kidsP,SameL]
theorem kidsP_size {p : PObj} {i : Nat} (h : i < (kidsP p).length) : SizeOf.sizeOf (kidsP p)[i] < SizeOf.sizeOf p := by
 have hu := List.getElem_mem h;generalize (kidsP p)[i] = u at hu;cases p <;> simp only [kidsP,List.not_mem_nil] at hu
 all_goals
  have := List.sizeOf_lt_of_mem hu;simp;omega
end Go.Proofs.YtcpijmbdibgdmaaGreatDoor
namespace Go.Proofs.YtcpijmbdibgdmaaGreatDoor
open Go.RowKit
attribute [local go_sem] ba_get store_flt
structure SmS (w wr : World) (b b2 : Nat) (C D : Array Value) : Prop where
 box : Blk wr b 34 C
 box2 : Blk wr b2 34 D
 below : Below w.heap.size w wr
 hb : w.heap.size ≤ b
 e2 : w.heap.size ≤ b2
theorem SmS.keep {w wr w' : World} {b b2 : Nat} {C D : Array Value} (h : SmS w wr b b2 C D) (hB : Below wr.heap.size wr w') : SmS w w' b b2 C D := ⟨h.box.below hB h.box.lt,h.box2.below hB h.box2.lt,h.below.trans (hB.mono h.below.size),h.hb,h.e2⟩
theorem SmS.alloc {w wr : World} {b b2 : Nat} {C D : Array Value} (h : SmS w wr b b2 C D) (o : Obj) : SmS w (wr.alloc o) b b2 C D := h.keep ((Below.refl _ wr).alloc (Nat.le_refl _) _)
theorem SmS.drew {w wr : World} {b b2 : Nat} {C D : Array Value} (h : SmS w wr b b2 C D) : SmS w wr.drew b b2 C D := h.keep (Below.refl _ wr).drew
def SameSaid (rf : Nat → Nat) (n : Nat) : Prop := ∀ (p : PObj) (c1 c2 : List Value) (F1 F2 : Nat → Prop) (w : World),SizeOf.sizeOf p ≤ n → SameP rf p → VRep w F1 (valP rf p) c1 → VRep w F2 (valP id p) c2 →
 Calls Tryz.prog 16 #[.agg c1.toArray,.agg c2.toArray] w fun e w' => e = .returned (.bool true) ∧ Below w.heap.size w w'
theorem same_else (rf : Nat → Nat) (n : Nat) (ih : SameSaid rf n) (l : List PObj) (hl : ∀ p ∈ l,SizeOf.sizeOf p ≤ n) (hsl : SameL rf l) (a0 a1 a2 : Int) (h7 : a0 ≠ 7) (x1 x2 : Nat) (hx : FloatKind.f64.format.order x1 x2 = some .eq) (a4 : List UInt8) (kp1 kp2 vp1 vp2 : Option Addr) (kl1 kb1 kl2 kb2 nl vb1 vb2 : Nat) (F1 F2 : Nat → Prop) (w : World) (hnl : nl = l.length) (hnm : nl ≤ 9223372036854775807)
 (hr1 : RowOf w F1 vp1 (valL rf l)) (hr2 : RowOf w F2 vp2 (valL id l)) :
 Calls Tryz.prog 16 #[.agg #[.int .i64 a0,.int .i64 a1,.int .i64 a2,.float .f64 x1,S a4,.slice kp1 kl1 kb1,.slice vp1 nl vb1],.agg #[.int .i64 a0,.int .i64 a1,.int .i64 a2,.float .f64 x2,S a4,.slice kp2 kl2 kb2,.slice vp2 nl vb2]] w fun e w' => e = .returned (.bool true) ∧ Below w.heap.size w w' := by
 have t7 : (a0 == 7) = false := by simp [h7]
 have Hr1 := Lib.hid hr1;have Hr2 := Lib.hid hr2;have Hih := Lib.hid ih;have Hl := Lib.hid hl;have Hsl := Lib.hid hsl;have Hnl := Lib.hid hnl;clear hr1 hr2 ih hl hsl hnl h7;obtain ⟨C,hC⟩ : ∃ C : Array Value,C = #[.int .i64 a0,.int .i64 a1,.int .i64 a2,.float .f64 x1,S a4,.slice kp1 kl1 kb1,.slice vp1 nl vb1] := ⟨_,rfl⟩;have HC := Lib.hid hC;obtain ⟨D,hD⟩ : ∃ C : Array Value,C = #[.int .i64 a0,.int .i64 a1,.int .i64 a2,.float .f64 x2,S a4,.slice kp2 kl2 kb2,.slice vp2 nl vb2] := ⟨_,rfl⟩;have HD := Lib.hid hD;clear hC hD;go_enter Tryz.func16,Tryz.ntmps16;go_wp2_with fail;refine wp_gen (fun wr => SmS w wr w.heap.size (w.heap.size + 1) C D) ?_ ?_
 · rw [HC.out,HD.out];exact ⟨Blk.alloc (Blk.newAt _ 34 _ _ rfl) _,Blk.newAt _ 34 _ _ (by simp),((Below.refl _ w).alloc (Nat.le_refl _) _).alloc (by simp) _,Nat.le_refl _,by omega⟩
 obtain ⟨b2,hb2⟩ : ∃ b,b = w.heap.size + 1 := ⟨_,rfl⟩;rw [← hb2];obtain ⟨b,hb⟩ : ∃ b,b = w.heap.size := ⟨_,rfl⟩;rw [← hb];clear hb hb2;intro w1 hS1
 go_loopg [95] nl (fun g j wr => ∃ (k : Nat),j = .int .i64 k ∧ k + g = nl ∧ SmS w wr b b2 C D)
 case atStart => exact ⟨0,by go_num,by omega,hS1⟩
 case round =>
  clear hS1;obtain ⟨k,rfl,hg,hS⟩ := hrel;have f6 : wr.cell? ⟨b,6,none⟩ = some (.slice vp1 nl vb1) := by rw [hS.box.cell 6,HC.out];rfl
  have e6 : wr.cell? ⟨b2,6,none⟩ = some (.slice vp2 nl vb2) := by rw [hS.box2.cell 6,HD.out];rfl
  by_cases hk : k < nl
  · have tk : k < nl := hk;have hkl : k < l.length := by have := Hnl.out;omega
    obtain ⟨g1,rfl,_,hg1,hat1⟩ := Hr1.out (by rw [valL_len];omega);obtain ⟨g2,rfl,_,hg2,hat2⟩ := Hr2.out (by rw [valL_len];omega);obtain ⟨c1,hc1,hrep1,hcells1⟩ := hat1 k (by rw [valL_len];omega);obtain ⟨c2,hc2,hrep2,hcells2⟩ := hat2 k (by rw [valL_len];omega);rw [valL_at rf l k _ hkl] at hrep1;rw [valL_at id l k _ hkl] at hrep2;have hsz := Hl.out _ (List.getElem_mem hkl);have hsp := Hsl.out.at_ k hkl;obtain ⟨p,hp⟩ : ∃ p,p = l[k] := ⟨_,rfl⟩;rw [← hp] at hrep1 hrep2 hsz hsp;obtain ⟨kpA,kbA,vpA,vbA,hceA,d0,d1,d2,d3,d4,d5,d6⟩ := row_cells hg1 hS.below hrep1 hcells1;obtain ⟨kpB,kbB,vpB,vbB,hceB,q0,q1,q2,q3,q4,q5,q6⟩ := row_cells hg2 hS.below hrep2 hcells2;have hcall0 := Hih.out p c1 c2 F1 F2 wr.drew hsz hsp (hrep1.below hS.drew.below) (hrep2.below hS.drew.below);obtain ⟨n5A,hn5A⟩ : ∃ n,n = (keysS (valP rf p)).length := ⟨_,rfl⟩;obtain ⟨n6A,hn6A⟩ : ∃ n,n = (kidsS (valP rf p)).length := ⟨_,rfl⟩;obtain ⟨y0A,hy0A⟩ : ∃ a,a = kindS (valP rf p) := ⟨_,rfl⟩;obtain ⟨y1A,hy1A⟩ : ∃ a,a = numS (valP rf p) := ⟨_,rfl⟩;obtain ⟨y2A,hy2A⟩ : ∃ a,a = genS (valP rf p) := ⟨_,rfl⟩;obtain ⟨y3A,hy3A⟩ : ∃ a,a = realS (valP rf p) := ⟨_,rfl⟩;obtain ⟨y4A,hy4A⟩ : ∃ a,a = textS (valP rf p) := ⟨_,rfl⟩;rw [← hn5A] at d5 hceA;rw [← hn6A] at d6 hceA;rw [← hy0A] at d0 hceA;rw [← hy1A] at d1 hceA;rw [← hy2A] at d2 hceA;rw [← hy3A] at d3 hceA;rw [← hy4A] at d4 hceA;clear hn5A hn6A hy1A hy2A hy3A hy4A;obtain ⟨n5B,hn5B⟩ : ∃ n,n = (keysS (valP id p)).length := ⟨_,rfl⟩;obtain ⟨n6B,hn6B⟩ : ∃ n,n = (kidsS (valP id p)).length := ⟨_,rfl⟩;obtain ⟨y0B,hy0B⟩ : ∃ a,a = kindS (valP id p) := ⟨_,rfl⟩;obtain ⟨y1B,hy1B⟩ : ∃ a,a = numS (valP id p) := ⟨_,rfl⟩;obtain ⟨y2B,hy2B⟩ : ∃ a,a = genS (valP id p) := ⟨_,rfl⟩;obtain ⟨y3B,hy3B⟩ : ∃ a,a = realS (valP id p) := ⟨_,rfl⟩;obtain ⟨y4B,hy4B⟩ : ∃ a,a = textS (valP id p) := ⟨_,rfl⟩;rw [← hn5B] at q5 hceB;rw [← hn6B] at q6 hceB;rw [← hy0B] at q0 hceB;rw [← hy1B] at q1 hceB;rw [← hy2B] at q2 hceB;rw [← hy3B] at q3 hceB;rw [← hy4B] at q4 hceB;clear hn5B hn6B hy1B hy2B hy3B hy4B;rw [hceA,hceB] at hcall0;have hcall : Calls Tryz.prog 16 #[.agg #[.int .i64 y0A,.int .i64 y1A,.int .i64 y2A,.float .f64 y3A,S y4A,.slice kpA n5A kbA,.slice vpA n6A vbA],.agg #[.int .i64 y0B,.int .i64 y1B,.int .i64 y2B,.float .f64 y3B,S y4B,.slice kpB n5B kbB,.slice vpB n6B vbB]] wr.drew fun e w' => e = .returned (.bool true) ∧ Below wr.drew.heap.size wr.drew w' := hcall0
    have Hcall := Lib.hid hcall;clear hcall hcall0 hcells1 hcells2 hat1 hat2 hrep1 hrep2 hceA hceB hsz hsp hp hy0A hy0B;go_wp2_with fail
    go_region_with (go_simp;go_at_call 16;refine Hcall.out.mono ?_;rintro e w2 ⟨rfl,hB2⟩;have hS2 := hS.drew.keep hB2;dsimp only)
    all_goals
     go_wp2_with fail
     go_roundg (nl - (k + 1))
     case measure => omega
     case rel => exact ⟨k + 1,by go_num,by omega,hS2⟩
  have tk : ¬ k < nl := hk;go_wp2_with fail;go_ret;exact ⟨rfl,hS.below⟩
end Go.Proofs.YtcpijmbdibgdmaaGreatDoor
namespace Go.Proofs.YtcpijmbdibgdmaaGreatDoor
open Go.RowKit
attribute [local go_sem] ba_get store_flt
theorem nn_val (rf : Nat → Nat) : ∀ l : List PObj,nnS (valL rf l) = nnS (valL id l)
 | [] => by rw [valL,valL]
 | p :: l => by rw [valL,valL,nnS,nnS,kind_val rf p,nn_val rf l]
theorem same_dict (rf : Nat → Nat) (n : Nat) (ih : SameSaid rf n) (ks : List (List UInt8)) (l : List PObj) (hl : ∀ p ∈ l,SizeOf.sizeOf p ≤ n) (hkl : ks.length = l.length) (hpw : ks.Pairwise (· ≠ ·)) (hsl : SameL rf l) (kp1 kp2 vp1 vp2 : Option Addr) (kb1 kb2 vb1 vb2 : Nat) (F1 F2 : Nat → Prop) (w : World) (nl : Nat) (hnl : nl = l.length) (hnk : nl = ks.length) (hnm : nl ≤ 9223372036854775807)
 (hk1 : 0 < ks.length → ∃ b off,kp1 = some ⟨b,off,none⟩ ∧ F1 b ∧ b < w.heap.size ∧ ∀ j u,(ks.map S)[j]? = some u → w.cell? ⟨b,off + j,none⟩ = some u) (hr1 : RowOf w F1 vp1 (valL rf l))
 (hv1 : VRep w F1 (.dict ks (valL rf l)) [.int .i64 7,.int .i64 0,.int .i64 0,.float .f64 0,S [],.slice kp1 nl kb1,.slice vp1 nl vb1]) (hv2 : VRep w F2 (.dict ks (valL id l)) [.int .i64 7,.int .i64 0,.int .i64 0,.float .f64 0,S [],.slice kp2 nl kb2,.slice vp2 nl vb2]) :
 Calls Tryz.prog 16 #[.agg #[.int .i64 7,.int .i64 0,.int .i64 0,.float .f64 0,S [],.slice kp1 nl kb1,.slice vp1 nl vb1],.agg #[.int .i64 7,.int .i64 0,.int .i64 0,.float .f64 0,S [],.slice kp2 nl kb2,.slice vp2 nl vb2]] w fun e w' => e = .returned (.bool true) ∧ Below w.heap.size w w' := by
 have hx : FloatKind.f64.format.order 0 0 = some .eq := by decide +kernel
 have hnn : nnS (valL rf l) = nnS (valL id l) := nn_val rf l
 have H1 : Hid (∀ w2,Below w.heap.size w w2 → Calls Tryz.prog 36 #[.agg #[.int .i64 7,.int .i64 0,.int .i64 0,.float .f64 0,S [],.slice kp1 nl kb1,.slice vp1 nl vb1]] w2 fun e w' => e = .returned (.int .i64 (nnS (valL id l) : Nat)) ∧ Below w2.heap.size w2 w') := Lib.hid (fun w2 h => by
  have := entries_any _ _ F1 w2 (hv1.below h)
  rw [show kidsS (.dict ks (valL rf l)) = valL rf l from rfl,hnn] at this
  exact this)
 have H2 : Hid (∀ w2,Below w.heap.size w w2 → Calls Tryz.prog 36 #[.agg #[.int .i64 7,.int .i64 0,.int .i64 0,.float .f64 0,S [],.slice kp2 nl kb2,.slice vp2 nl vb2]] w2 fun e w' => e = .returned (.int .i64 (nnS (valL id l) : Nat)) ∧ Below w2.heap.size w2 w') := Lib.hid (fun w2 h => entries_any _ _ F2 w2 (hv2.below h))
 have H3 : Hid (∀ (p : Nat) (hp : p < ks.length) (hp' : p < l.length) w2,Below w.heap.size w w2 → Calls Tryz.prog 37 #[.agg #[.int .i64 7,.int .i64 0,.int .i64 0,.float .f64 0,S [],.slice kp2 nl kb2,.slice vp2 nl vb2],S ks[p]] w2 fun e w' => ∃ c' : List Value,e = .returned (.tuple #[.agg c'.toArray,.bool (kindS (valP id l[p]) != 0)]) ∧ VRep w2 F2 (valP id l[p]) c' ∧ Below w2.heap.size w2 w') := Lib.hid (fun p hp hp' w2 h => by
  have := entry_any (.dict ks (valL id l)) _ F2 w2 (hv2.below h) (by simp only [keysS,kidsS,valL_len];exact hkl) (by simpa only [keysS] using hpw) p (by simpa only [keysS] using hp) (by simp only [kidsS,valL_len];exact hp')
  simp only [kidsS,keysS,valL_at id l p _ hp'] at this
  exact this)
 have Hk1 := Lib.hid hk1;have Hr1 := Lib.hid hr1;have Hih := Lib.hid ih;have Hl := Lib.hid hl;have Hsl := Lib.hid hsl;have Hnl := Lib.hid hnl;have Hnk := Lib.hid hnk;obtain ⟨nn,hnn2⟩ : ∃ n,n = nnS (valL id l) := ⟨_,rfl⟩;have hnnl : nn ≤ nl := by rw [hnn2];have := nnS_le (valL id l);rw [valL_len] at this;omega
 rw [← hnn2] at H1 H2;clear hk1 hr1 hv1 hv2 ih hl hsl hnl hnk hpw hkl hnn hnn2;obtain ⟨C,hC⟩ : ∃ C : Array Value,C = #[.int .i64 7,.int .i64 0,.int .i64 0,.float .f64 0,S [],.slice kp1 nl kb1,.slice vp1 nl vb1] := ⟨_,rfl⟩;have HC := Lib.hid hC;obtain ⟨D,hD⟩ : ∃ C : Array Value,C = #[.int .i64 7,.int .i64 0,.int .i64 0,.float .f64 0,S [],.slice kp2 nl kb2,.slice vp2 nl vb2] := ⟨_,rfl⟩;have HD := Lib.hid hD;clear hC hD;go_enter Tryz.func16,Tryz.ntmps16;go_wp2_with fail;refine wp_gen (fun wr => SmS w wr w.heap.size (w.heap.size + 1) C D) ?_ ?_
 · rw [HC.out,HD.out];exact ⟨Blk.alloc (Blk.newAt _ 34 _ _ rfl) _,Blk.newAt _ 34 _ _ (by simp),((Below.refl _ w).alloc (Nat.le_refl _) _).alloc (by simp) _,Nat.le_refl _,by omega⟩
 obtain ⟨b2,hb2⟩ : ∃ b,b = w.heap.size + 1 := ⟨_,rfl⟩;rw [← hb2];obtain ⟨b,hb⟩ : ∃ b,b = w.heap.size := ⟨_,rfl⟩;rw [← hb];clear hb hb2;intro w1 hS;have f0 : w1.cell? ⟨b,0,none⟩ = some (Value.int .i64 7) := by rw [hS.box.cell 0,HC.out];rfl
 have f1 : w1.cell? ⟨b,1,none⟩ = some (Value.int .i64 0) := by rw [hS.box.cell 1,HC.out];rfl
 have f2 : w1.cell? ⟨b,2,none⟩ = some (Value.int .i64 0) := by rw [hS.box.cell 2,HC.out];rfl
 have f3 : w1.cell? ⟨b,3,none⟩ = some (Value.float .f64 0) := by rw [hS.box.cell 3,HC.out];rfl
 have f4 : w1.cell? ⟨b,4,none⟩ = some (S []) := by rw [hS.box.cell 4,HC.out];rfl
 have f5 : w1.cell? ⟨b,5,none⟩ = some (.slice kp1 nl kb1) := by rw [hS.box.cell 5,HC.out];rfl
 have f6 : w1.cell? ⟨b,6,none⟩ = some (.slice vp1 nl vb1) := by rw [hS.box.cell 6,HC.out];rfl
 have e0 : w1.cell? ⟨b2,0,none⟩ = some (Value.int .i64 7) := by rw [hS.box2.cell 0,HD.out];rfl
 have e1 : w1.cell? ⟨b2,1,none⟩ = some (Value.int .i64 0) := by rw [hS.box2.cell 1,HD.out];rfl
 have e2 : w1.cell? ⟨b2,2,none⟩ = some (Value.int .i64 0) := by rw [hS.box2.cell 2,HD.out];rfl
 have e3 : w1.cell? ⟨b2,3,none⟩ = some (Value.float .f64 0) := by rw [hS.box2.cell 3,HD.out];rfl
 have e4 : w1.cell? ⟨b2,4,none⟩ = some (S []) := by rw [hS.box2.cell 4,HD.out];rfl
 have e5 : w1.cell? ⟨b2,5,none⟩ = some (.slice kp2 nl kb2) := by rw [hS.box2.cell 5,HD.out];rfl
 have e6 : w1.cell? ⟨b2,6,none⟩ = some (.slice vp2 nl vb2) := by rw [hS.box2.cell 6,HD.out];rfl
 go_upto_region 4 with fail
 go_cut [50] from 46 to 50 (fun v50 wc => v50 = .bool false ∧ SmS w wc b b2 C D)
 case first =>
  go_region_with (go_simp;go_at_call 36;first
   | (refine (H2.out _ hSA.below).mono ?_;rintro e w3 ⟨rfl,hB3⟩;have hSB := hSA.keep hB3;dsimp only)
   | (refine (H1.out _ hS.drew.below).mono ?_;rintro e w2 ⟨rfl,hB2⟩;have hSA := hS.drew.keep hB2;have f0 : w2.cell? ⟨b,0,none⟩ = some (Value.int .i64 7) := (by rw [hSA.box.cell 0,HC.out];rfl);have f1 : w2.cell? ⟨b,1,none⟩ = some (Value.int .i64 0) := (by rw [hSA.box.cell 1,HC.out];rfl);have f2 : w2.cell? ⟨b,2,none⟩ = some (Value.int .i64 0) := (by rw [hSA.box.cell 2,HC.out];rfl);have f3 : w2.cell? ⟨b,3,none⟩ = some (Value.float .f64 0) := (by rw [hSA.box.cell 3,HC.out];rfl);have f4 : w2.cell? ⟨b,4,none⟩ = some (S []) := (by rw [hSA.box.cell 4,HC.out];rfl);have f5 : w2.cell? ⟨b,5,none⟩ = some (.slice kp1 nl kb1) := (by rw [hSA.box.cell 5,HC.out];rfl);have f6 : w2.cell? ⟨b,6,none⟩ = some (.slice vp1 nl vb1) := (by rw [hSA.box.cell 6,HC.out];rfl);have e0 : w2.cell? ⟨b2,0,none⟩ = some (Value.int .i64 7) := (by rw [hSA.box2.cell 0,HD.out];rfl);have e1 : w2.cell? ⟨b2,1,none⟩ = some (Value.int .i64 0) := (by rw [hSA.box2.cell 1,HD.out];rfl);have e2 : w2.cell? ⟨b2,2,none⟩ = some (Value.int .i64 0) := (by rw [hSA.box2.cell 2,HD.out];rfl);have e3 : w2.cell? ⟨b2,3,none⟩ = some (Value.float .f64 0) := (by rw [hSA.box2.cell 3,HD.out];rfl);have e4 : w2.cell? ⟨b2,4,none⟩ = some (S []) := (by rw [hSA.box2.cell 4,HD.out];rfl);have e5 : w2.cell? ⟨b2,5,none⟩ = some (.slice kp2 nl kb2) := (by rw [hSA.box2.cell 5,HD.out];rfl);have e6 : w2.cell? ⟨b2,6,none⟩ = some (.slice vp2 nl vb2) := (by rw [hSA.box2.cell 6,HD.out];rfl);dsimp only))
  all_goals
   go_wp2_with fail
   go_meet
   exact ⟨by simp,hSB⟩
 case rest =>
  obtain ⟨rfl,hS1⟩ := hcut;clear hS f0 f1 f2 f3 f4 f5 f6 e0 e1 e2 e3 e4 e5 e6;have f0 : wc.cell? ⟨b,0,none⟩ = some (Value.int .i64 7) := by rw [hS1.box.cell 0,HC.out];rfl
  have f1 : wc.cell? ⟨b,1,none⟩ = some (Value.int .i64 0) := by rw [hS1.box.cell 1,HC.out];rfl
  have f2 : wc.cell? ⟨b,2,none⟩ = some (Value.int .i64 0) := by rw [hS1.box.cell 2,HC.out];rfl
  have f3 : wc.cell? ⟨b,3,none⟩ = some (Value.float .f64 0) := by rw [hS1.box.cell 3,HC.out];rfl
  have f4 : wc.cell? ⟨b,4,none⟩ = some (S []) := by rw [hS1.box.cell 4,HC.out];rfl
  have f5 : wc.cell? ⟨b,5,none⟩ = some (.slice kp1 nl kb1) := by rw [hS1.box.cell 5,HC.out];rfl
  have f6 : wc.cell? ⟨b,6,none⟩ = some (.slice vp1 nl vb1) := by rw [hS1.box.cell 6,HC.out];rfl
  have e0 : wc.cell? ⟨b2,0,none⟩ = some (Value.int .i64 7) := by rw [hS1.box2.cell 0,HD.out];rfl
  have e1 : wc.cell? ⟨b2,1,none⟩ = some (Value.int .i64 0) := by rw [hS1.box2.cell 1,HD.out];rfl
  have e2 : wc.cell? ⟨b2,2,none⟩ = some (Value.int .i64 0) := by rw [hS1.box2.cell 2,HD.out];rfl
  have e3 : wc.cell? ⟨b2,3,none⟩ = some (Value.float .f64 0) := by rw [hS1.box2.cell 3,HD.out];rfl
  have e4 : wc.cell? ⟨b2,4,none⟩ = some (S []) := by rw [hS1.box2.cell 4,HD.out];rfl
  have e5 : wc.cell? ⟨b2,5,none⟩ = some (.slice kp2 nl kb2) := by rw [hS1.box2.cell 5,HD.out];rfl
  have e6 : wc.cell? ⟨b2,6,none⟩ = some (.slice vp2 nl vb2) := by rw [hS1.box2.cell 6,HD.out];rfl
  go_wp2_with fail
  go_loopg [54] nl (fun g j wr => ∃ (k : Nat),j = .int .i64 k ∧ k + g = nl ∧ SmS w wr b b2 C D)
  case atStart => exact ⟨0,by go_num,by omega,hS1⟩
  case round =>
   clear hS1 f0 f1 f2 f3 f4 f5 f6 e0 e1 e2 e3 e4 e5 e6;obtain ⟨k,rfl,hg,hS⟩ := hrel;have f0 : wr.cell? ⟨b,0,none⟩ = some (Value.int .i64 7) := by rw [hS.box.cell 0,HC.out];rfl
   have f1 : wr.cell? ⟨b,1,none⟩ = some (Value.int .i64 0) := by rw [hS.box.cell 1,HC.out];rfl
   have f2 : wr.cell? ⟨b,2,none⟩ = some (Value.int .i64 0) := by rw [hS.box.cell 2,HC.out];rfl
   have f3 : wr.cell? ⟨b,3,none⟩ = some (Value.float .f64 0) := by rw [hS.box.cell 3,HC.out];rfl
   have f4 : wr.cell? ⟨b,4,none⟩ = some (S []) := by rw [hS.box.cell 4,HC.out];rfl
   have f5 : wr.cell? ⟨b,5,none⟩ = some (.slice kp1 nl kb1) := by rw [hS.box.cell 5,HC.out];rfl
   have f6 : wr.cell? ⟨b,6,none⟩ = some (.slice vp1 nl vb1) := by rw [hS.box.cell 6,HC.out];rfl
   have e0 : wr.cell? ⟨b2,0,none⟩ = some (Value.int .i64 7) := by rw [hS.box2.cell 0,HD.out];rfl
   have e1 : wr.cell? ⟨b2,1,none⟩ = some (Value.int .i64 0) := by rw [hS.box2.cell 1,HD.out];rfl
   have e2 : wr.cell? ⟨b2,2,none⟩ = some (Value.int .i64 0) := by rw [hS.box2.cell 2,HD.out];rfl
   have e3 : wr.cell? ⟨b2,3,none⟩ = some (Value.float .f64 0) := by rw [hS.box2.cell 3,HD.out];rfl
   have e4 : wr.cell? ⟨b2,4,none⟩ = some (S []) := by rw [hS.box2.cell 4,HD.out];rfl
   have e5 : wr.cell? ⟨b2,5,none⟩ = some (.slice kp2 nl kb2) := by rw [hS.box2.cell 5,HD.out];rfl
   have e6 : wr.cell? ⟨b2,6,none⟩ = some (.slice vp2 nl vb2) := by rw [hS.box2.cell 6,HD.out];rfl
   by_cases hk : k < nl
   · have tk : k < nl := hk;have hkl : k < l.length := by have := Hnl.out;omega
     have hkk : k < ks.length := by have := Hnk.out;omega
     obtain ⟨bk,ok,rfl,_,hbk,hkc⟩ := Hk1.out (by omega);have ck : wr.cell? ⟨bk,ok + k,none⟩ = some (S ks[k]) := (hS.below.cell (p := ⟨bk,ok + k,none⟩) hbk).trans (hkc k _ (by simp [hkk]));obtain ⟨g1,rfl,_,hg1,hat1⟩ := Hr1.out (by rw [valL_len];omega);obtain ⟨c1,hc1,hrep1,hcells1⟩ := hat1 k (by rw [valL_len];omega);rw [valL_at rf l k _ hkl] at hrep1;have hsz := Hl.out _ (List.getElem_mem hkl);have hsp := Hsl.out.at_ k hkl;have H3k := Lib.hid (fun w2 h => H3.out k hkk hkl w2 h);obtain ⟨key,hkey⟩ : ∃ key,key = ks[k] := ⟨_,rfl⟩;rw [← hkey] at ck H3k;obtain ⟨p,hp⟩ : ∃ p,p = l[k] := ⟨_,rfl⟩;rw [← hp] at hrep1 hsz hsp H3k;have hkd := kind_val rf p;obtain ⟨kpA,kbA,vpA,vbA,hceA,d0,d1,d2,d3,d4,d5,d6⟩ := row_cells hg1 hS.below hrep1 hcells1;rw [hkd] at d0;obtain ⟨kd,hkdd⟩ : ∃ a,a = kindS (valP id p) := ⟨_,rfl⟩;rw [← hkdd] at d0 hkd H3k;have Hcells1 := Lib.hid hcells1;clear hkc hkey hcells1 hat1 hp;by_cases hz : kd = 0
     · have tz : (kd == 0) = true := by simp [hz]
       clear H3k hceA hrep1 hsz hsp;go_wp2_with fail
       go_roundg (nl - (k + 1))
       case measure => omega
       case rel => exact ⟨k + 1,by go_num,by omega,hS⟩
     have tz : (kd == 0) = false := by simp [hz]
     have tz2 : (kd != 0) = true := by simp [hz]
     have Hsp := Lib.hid hsp;have Hsz := Lib.hid hsz;have Hrep1 := Lib.hid hrep1;have HceA := Lib.hid hceA;have Hkd := Lib.hid hkd;have Hkdd := Lib.hid hkdd;clear hsp hsz hrep1 hceA hkd hkdd hz;go_wp2_with fail;refine (H3k.out _ hS.below).mono ?_;rintro e w2 ⟨c2,rfl,hrep2,hB2⟩;rw [tz2];have Hrep2 := Lib.hid hrep2;obtain ⟨kB,kvB,hc2,⟨kpB,kbB,rfl,_⟩,vpB,vbB,rfl,_⟩ := hrep2.open_;rw [← Hkdd.out] at hc2;obtain ⟨n5B,hn5B⟩ : ∃ n,n = (keysS (valP id p)).length := ⟨_,rfl⟩;obtain ⟨n6B,hn6B⟩ : ∃ n,n = (kidsS (valP id p)).length := ⟨_,rfl⟩;obtain ⟨y1B,hy1B⟩ : ∃ a,a = numS (valP id p) := ⟨_,rfl⟩;obtain ⟨y2B,hy2B⟩ : ∃ a,a = genS (valP id p) := ⟨_,rfl⟩;obtain ⟨y3B,hy3B⟩ : ∃ a,a = realS (valP id p) := ⟨_,rfl⟩;obtain ⟨y4B,hy4B⟩ : ∃ a,a = textS (valP id p) := ⟨_,rfl⟩;rw [← hn5B,← hn6B,← hy1B,← hy2B,← hy3B,← hy4B] at hc2;clear hn5B hn6B hy1B hy2B hy3B hy4B;subst hc2;have hS2 := hS.keep hB2;have hB2K := Lib.hid hB2;unfold sv7;clear d0 d1 d2 d3 d4 d5 d6 hB2 hrep2 ck hS H3k f0 f1 f2 f3 f4 f5 f6 e0 e1 e2 e3 e4 e5 e6;go_wp2_with fail;refine wp_gen (fun wq => SmS w wq b b2 C D ∧ Blk wq w2.heap.size 34 #[.int .i64 kd,.int .i64 y1B,.int .i64 y2B,.float .f64 y3B,S y4B,.slice kpB n5B kbB,.slice vpB n6B vbB] ∧ VRep wq F2 (valP id p) [.int .i64 kd,.int .i64 y1B,.int .i64 y2B,.float .f64 y3B,S y4B,.slice kpB n5B kbB,.slice vpB n6B vbB]) ⟨hS2.alloc _,Blk.newAt _ 34 _ _ rfl,(Hrep2.out.below hB2K.out).below ((Below.refl _ w2).alloc (Nat.le_refl _) _)⟩ ?_;obtain ⟨q,hq⟩ : ∃ q,q = w2.heap.size := ⟨_,rfl⟩;rw [← hq];clear hS2 hq Hrep2;rintro wq ⟨hS3,hbq,hrep2⟩;have r0 : wq.cell? ⟨q,0,none⟩ = some (.int .i64 kd) := hbq.cell 0;have r1 : wq.cell? ⟨q,1,none⟩ = some (.int .i64 y1B) := hbq.cell 1;have r2 : wq.cell? ⟨q,2,none⟩ = some (.int .i64 y2B) := hbq.cell 2;have r3 : wq.cell? ⟨q,3,none⟩ = some (.float .f64 y3B) := hbq.cell 3;have r4 : wq.cell? ⟨q,4,none⟩ = some (S y4B) := hbq.cell 4;have r5 : wq.cell? ⟨q,5,none⟩ = some (.slice kpB n5B kbB) := hbq.cell 5;have r6 : wq.cell? ⟨q,6,none⟩ = some (.slice vpB n6B vbB) := hbq.cell 6;have f6 : wq.cell? ⟨b,6,none⟩ = some (.slice (some ⟨g1,0,none⟩) nl vb1) := by rw [hS3.box.cell 6,HC.out];rfl
     obtain ⟨kpA2,kbA2,vpA2,vbA2,hceA2,d0,d1,d2,d3,d4,d5,d6⟩ := row_cells hg1 hS3.below Hrep1.out Hcells1.out;rw [Hkd.out] at d0 hceA2;have hcall0 := Hih.out p c1 _ F1 F2 wq.drew Hsz.out Hsp.out (Hrep1.out.below hS3.drew.below) (hrep2.below (Below.refl _ wq).drew);rw [hceA2] at hcall0;obtain ⟨n5A,hn5A⟩ : ∃ n,n = (keysS (valP rf p)).length := ⟨_,rfl⟩;obtain ⟨n6A,hn6A⟩ : ∃ n,n = (kidsS (valP rf p)).length := ⟨_,rfl⟩;obtain ⟨y1A,hy1A⟩ : ∃ a,a = numS (valP rf p) := ⟨_,rfl⟩;obtain ⟨y2A,hy2A⟩ : ∃ a,a = genS (valP rf p) := ⟨_,rfl⟩;obtain ⟨y3A,hy3A⟩ : ∃ a,a = realS (valP rf p) := ⟨_,rfl⟩;obtain ⟨y4A,hy4A⟩ : ∃ a,a = textS (valP rf p) := ⟨_,rfl⟩;rw [← hn5A,← hn6A,← hy1A,← hy2A,← hy3A,← hy4A] at hcall0;rw [← hy1A] at d1;rw [← hy2A] at d2;rw [← hy3A] at d3;rw [← hy4A] at d4;rw [← hn5A] at d5;rw [← hn6A] at d6;have hcall : Calls Tryz.prog 16 #[.agg #[.int .i64 kd,.int .i64 y1A,.int .i64 y2A,.float .f64 y3A,S y4A,.slice kpA2 n5A kbA2,.slice vpA2 n6A vbA2],.agg #[.int .i64 kd,.int .i64 y1B,.int .i64 y2B,.float .f64 y3B,S y4B,.slice kpB n5B kbB,.slice vpB n6B vbB]] wq.drew fun e w' => e = .returned (.bool true) ∧ Below wq.drew.heap.size wq.drew w' := hcall0
     have Hcall := Lib.hid hcall;clear hcall hcall0 hceA2 hn5A hn6A hy1A hy2A hy3A hy4A hrep2 hbq
     go_region_with (go_simp;go_at_call 16;refine Hcall.out.mono ?_;rintro e w5 ⟨rfl,hB5⟩;have hS5 := hS3.drew.keep hB5;dsimp only)
     all_goals
      go_wp2_with fail
      go_roundg (nl - (k + 1))
      case measure => omega
      case rel => exact ⟨k + 1,by go_num,by omega,hS5⟩
   have tk : ¬ k < nl := hk;go_wp2_with fail;go_ret;exact ⟨rfl,hS.below⟩
theorem same_any (rf : Nat → Nat) : ∀ n,SameSaid rf n
 | 0 => fun p c1 c2 F1 F2 w hn _ _ _ => by cases p <;> simp at hn
 | n + 1 => fun p c1 c2 F1 F2 w hn hs h1 h2 => by
   have ih := same_any rf n;by_cases hd : ∃ ks l,p = .dict ks l
   · obtain ⟨ks,l,rfl⟩ := hd;rw [SameP] at hs;rw [valP] at h1 h2;have h1' := h1;have h2' := h2;obtain ⟨k1,kv1,hc1,⟨kp1,kb1,hk1e,_,hkr1⟩,vp1,vb1,hv1e,_,hvm1,hr1⟩ := h1.open_;obtain ⟨k2,kv2,hc2,⟨kp2,kb2,hk2e,_,hkr2⟩,vp2,vb2,hv2e,hvb2,hvm2,hr2⟩ := h2.open_;simp only [keysS,kidsS,kindS,numS,genS,realS,textS,valL_len] at hc1 hk1e hkr1 hv1e hr1 hc2 hk2e hkr2 hv2e hr2 hvb2;rw [hs.1] at hk1e hk2e;subst hk1e hv1e hk2e hv2e hc1 hc2;refine same_dict rf n ih ks l (fun q hq => ?_) hs.1 hs.2.1 hs.2.2 kp1 kp2 vp1 vp2 kb1 kb2 vb1 vb2 F1 F2 w l.length rfl hs.1.symm (by unfold maxLen at hvm2;omega) hkr1 hr1 h1' h2';have := List.sizeOf_lt_of_mem hq;simp at hn;omega
   have h7 : kindS (valP id p) ≠ 7 := by
    cases p with
    | dict ks l => exact absurd ⟨ks,l,rfl⟩ hd
    | _ => simp [valP,kindS]
   obtain ⟨k1,kv1,hc1,⟨kp1,kb1,hk1e,_,hkr1⟩,vp1,vb1,hv1e,_,hvm1,hr1⟩ := h1.open_;obtain ⟨k2,kv2,hc2,⟨kp2,kb2,hk2e,_,hkr2⟩,vp2,vb2,hv2e,hvb2,hvm2,hr2⟩ := h2.open_;rw [kids_val rf p] at hr1 hv1e;rw [kids_val id p] at hr2 hv2e hvb2;rw [valL_len] at hv1e hv2e hvb2;rw [kind_val rf p,num_val rf p,gen_val rf p,text_val rf p] at hc1;subst hk1e hv1e hk2e hv2e hc1 hc2;refine same_else rf n ih (kidsP p) (fun q hq => ?_) (kids_same hs) _ _ _ h7 _ _ (real_val hs) _ kp1 kp2 vp1 vp2 _ kb1 _ kb2 (kidsP p).length vb1 vb2 F1 F2 w rfl (by unfold maxLen at hvm2;omega) hr1 hr2;obtain ⟨i,hi,rfl⟩ := List.getElem_of_mem hq;have := kidsP_size hi;omega
end Go.Proofs.YtcpijmbdibgdmaaGreatDoor
