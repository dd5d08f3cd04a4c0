/-
  spec.fromObject, kind by kind.
  spec.fromObject, kind by kind.
  spec.fromObject, of every object.
  spec.FromObject.
  spec.Levels, spec.Modest.
-/
import Derived.Test.YtcpijmbdibgdmaaGreatDoorMs29
set_option linter.all false
set_option maxHeartbeats 16000000
set_option maxRecDepth 100000
namespace Go.Proofs.YtcpijmbdibgdmaaGreatDoor
open Go.RowKit
attribute [local go_sem] ba_get store_flt
theorem valL_length (rf : Nat → Nat) : ∀ q : List PObj,(valL rf q).length = q.length
 | [] => by rw [valL];rfl
 | p :: q => by rw [valL,List.length_cons,List.length_cons,valL_length rf q]
theorem FO.le {w wr : World} {b b2 : Nat} {C V : Array Value} (h : FO w wr b b2 C V) : w.heap.size ≤ b2 := by have := h.hb;have := h.e2;omega
theorem kids_put {W0 w w2 w3 w' : World} {b2 : Nat} {v : Value} {xs : List Value} {q : List PObj} (hO : Only w3 w' b2) (hb : w.heap.size ≤ b2) (h0 : W0.heap.size ≤ w.heap.size) (hlt : b2 < w2.heap.size) (hw : w.heap.size ≤ w2.heap.size)
 (hrow : w3.ownsRow 0 34 7 v q.length xs) (hown : ∀ g,v.ownBlock = some g → w2.heap.size ≤ g) (hk : KRep w3 (fun i => i < W0.heap.size ∨ w2.heap.size ≤ i) (valL id q) xs) :
 w'.ownsRow 0 34 7 v (valL id q).length xs ∧ (∀ g,v.ownBlock = some g → (g < W0.heap.size ∨ w.heap.size ≤ g)) ∧ KRep w' (fun i => i < W0.heap.size ∨ w.heap.size ≤ i) (valL id q) xs := by
 refine ⟨?_,fun g hg => .inr (by have := hown g hg;omega),?_⟩
 · rw [valL_length];exact ownsRow_keepB hrow (fun g hg => hO.block g (World.ownsRow.lt hrow g hg).2 (fun e => by have := hown g hg;injection e with e;omega))
 · refine KRep.mono (fun i hi hlt2 => ⟨hO.block i hlt2 (fun e => by injection e with e;omega),?_⟩) _ xs hk;rcases hi with h1 | h1
   · exact .inl h1
   exact .inr (by omega)
theorem keys_put {W0 w w' : World} {A : Option Addr} {kc : Nat} {ks : List (List UInt8)} (hR : 0 < ks.length → ∃ b off,A = some ⟨b,off,none⟩ ∧ b < W0.heap.size ∧ RowAt W0 b off (ks.map fun k => .string ⟨k.toArray⟩)) (hW : Below W0.heap.size W0 w) (hB : Below w.heap.size w w') (hkc : ks.length ≤ kc) :
 KeysAt w' (fun i => i < W0.heap.size ∨ w.heap.size ≤ i) (.slice A ks.length kc) ks := by
 refine ⟨A,kc,rfl,hkc,fun h => ?_⟩;obtain ⟨b,off,h1,h2,h3⟩ := hR h;have hWr := hW.trans (hB.mono hW.size);exact ⟨b,off,h1,.inl h2,Nat.lt_of_lt_of_le h2 hWr.size,fun j u hu => (hWr.cell (p := ⟨b,off + j,none⟩) h2).trans (h3 j u hu)⟩
def chk : Option (List UInt8) → List (List UInt8) → Bool
 | _,[] => true
 | p,k :: l => nameOk k && signOk k && (match p with | none => true | some a => ltB a k) && chk (some k) l
theorem chk_some : ∀ (l : List (List UInt8)) (a : List UInt8),chk (some a) l = (l.all nameOk && l.all signOk && upB (a :: l))
 | [],a => rfl
 | k :: l,a => by
   rw [chk,chk_some l k,upB,List.all_cons,List.all_cons];cases nameOk k <;> cases signOk k <;> cases ltB a k <;> cases l.all nameOk <;> cases l.all signOk <;> cases upB (k :: l) <;> rfl
theorem chk_all (ks : List (List UInt8)) : chk none (ks.drop 0) = keysOk ks := by
 rw [List.drop_zero]
 cases ks with
 | nil => rfl
 | cons k l =>
   rw [chk,chk_some l k];unfold keysOk;rw [List.all_cons,List.all_cons];cases nameOk k <;> cases signOk k <;> cases l.all nameOk <;> cases l.all signOk <;> cases upB (k :: l) <;> rfl
theorem chk_cons (p : Option (List UInt8)) (k : List UInt8) (l : List (List UInt8)) : chk p (k :: l) = (nameOk k && signOk k && (match p with | none => true | some a => ltB a k) && chk (some k) l) := by cases p <;> rfl
def pk (ks : List (List UInt8)) : Nat → Option (List UInt8)
 | 0 => none
 | k + 1 => ks[k]?
theorem pk_next {ks : List (List UInt8)} {k : Nat} (h : k < ks.length) : pk ks (k + 1) = some ks[k] := by
 unfold pk;simp [h]
theorem pk_at {ks : List (List UInt8)} {k : Nat} (h0 : 0 < k) (h : k < ks.length) : pk ks k = some ks[k - 1] := by
 cases k with
 | zero => omega
 | succ k => exact pk_next (by omega)
theorem bytesLess_ltB : ∀ a b : List UInt8,Op.bytesLess a b = ltB a b
 | _,[] => by rw [Op.bytesLess.eq_def,ltB.eq_def]
 | [],_ :: _ => rfl
 | a :: l,b :: r => by
   rw [Op.bytesLess,ltB,bytesLess_ltB l r];rfl
theorem from_7 (tw : Nat → Bool) (W0 : World) (n g : Int) (x : Nat) (t : List UInt8) (ks : List (List UInt8)) (l : List OObj) (A A2 : Option Addr) (kc lc : Nat) (w : World) (hk : ks.length ≤ 1048576) (hl : l.length ≤ 1048576) (hW : Below W0.heap.size W0 w) (hKd : ∀ w3 : World,Below W0.heap.size W0 w3 → Calls Tryz.prog 58 #[.agg #[.int .i64 6,.int .i64 0,.int .i64 0,.float .f64 0,S [],.slice none 0 0,.slice none 0 0],.agg #[.int .i64 7,.int .i64 n,.int .i64 g,.float .f64 x,S t,.slice A ks.length kc,.slice A2 l.length lc]] w3 (KidsPost tw W0 w3 6 (.slice none 0 0) l)) :
 Calls Tryz.prog 24 #[.agg #[.int .i64 7,.int .i64 n,.int .i64 g,.float .f64 x,S t,.slice A ks.length kc,.slice A2 l.length lc]] w (FromPost tw W0 w (.mk 7 n g x t ks l)) := by
 have HW := Lib.hid hW;have HK := Lib.hid hKd;clear hW hKd;obtain ⟨C,hC⟩ : ∃ C,C = (ov7 7 n g x t (.slice A ks.length kc) (.slice A2 l.length lc)).toArray := ⟨_,rfl⟩;have HC := Lib.hid hC;clear hC;go_enter Tryz.func24,Tryz.ntmps24;go_wp2_with fail;refine (only_any _ _ _ _ _ _ _ _ _ _ _ _ hk hl).mono ?_;rintro e w2 ⟨rfl,hB⟩;have hS := FO.start (C := C) (by rw [HC.out];exact hB);obtain ⟨b2,hb2⟩ : ∃ b,b = w.heap.size + 1 := ⟨_,rfl⟩;rw [← hb2] at hS ⊢;obtain ⟨b,hb⟩ : ∃ b,b = w.heap.size := ⟨_,rfl⟩;rw [← hb] at hS ⊢;clear hb hb2 hB;obtain ⟨oo,hoo⟩ : ∃ o,o = onlyB 7 n g x t ks.length l.length := ⟨_,rfl⟩;rw [← hoo];have Hoo := Lib.hid hoo;clear hoo;obtain ⟨z0,z1,z2,z3,z4,z5,z6⟩ := res_cells hS.out rfl;have y0 := hS.out.frozen 0;have y1 := hS.out.frozen 1;have y2 := hS.out.frozen 2;have y3 := hS.out.frozen 3;have y4 := hS.out.frozen 4;have y5 := hS.out.frozen 5;have y6 := hS.out.frozen 6
 cases oo with
 | false =>
   go_wp2_with fail;have hP := hS.put (.int .i64 0) (.int .i64 0) (.int .i64 0) (.float .f64 0) (S []) (.slice none 0 0) (.slice none 0 0);refine bodyPost_ret (res_cell2 Tryz.results24 hP.out (by simp) rfl) rfl ?_;exact fo_no hP.below ⟨_,_,_,_,_,_,_,_,_,_,_,rfl⟩ (objM_no Hoo.out.symm)
 | true =>
   have f0 : w2.cell? ⟨b,0,none⟩ = some (.int .i64 7) := (hS.box.cell 0).trans (by rw [HC.out];rfl);have q3 := hS.e2;have nb1 : ¬ b = b2 := by omega
   have nb2 : ¬ b2 = b := by omega
   clear q3;have hbx : ∀ i,w2.cell? ⟨b,i,none⟩ = C[i]? := fun i => hS.box.cell i
   rw [HC.out] at hbx;have f1 : w2.cell? ⟨b,1,none⟩ = some (.int .i64 n) := hbx 1;have f2 : w2.cell? ⟨b,2,none⟩ = some (.int .i64 g) := hbx 2;have f3 : w2.cell? ⟨b,3,none⟩ = some (.float .f64 x) := hbx 3;have f4 : w2.cell? ⟨b,4,none⟩ = some (S t) := hbx 4;have f5 : w2.cell? ⟨b,5,none⟩ = some (.slice A ks.length kc) := hbx 5;have f6 : w2.cell? ⟨b,6,none⟩ = some (.slice A2 l.length lc) := hbx 6;clear hbx;go_wp2_with fail;refine (HK.out _ (HW.out.trans (hS.below.mono HW.out.size))).mono ?_;have hs2 := hS.out.lt;rintro e w3 ⟨hB3,⟨q,v,xs,hq,rfl,hrow,hown,hkids⟩ | ⟨hq,rfl⟩⟩
   · obtain ⟨vp,va,vb,rfl⟩ := ownsRow_slice hrow;have hS3 := hS.keep hB3;have Hq := Lib.hid hq;have Hrow := Lib.hid hrow;have Hown := Lib.hid hown;have Hkids := Lib.hid hkids;clear hq hrow hown hkids z0 z1 z2 z3 z4 z5 z6 y0 y1 y2 y3 y4 y5 y6;obtain ⟨z0,z1,z2,z3,z4,z5,z6⟩ := res_cells hS3.out rfl;have y0 := hS3.out.frozen 0;have y1 := hS3.out.frozen 1;have y2 := hS3.out.frozen 2;have y3 := hS3.out.frozen 3;have y4 := hS3.out.frozen 4;have y5 := hS3.out.frozen 5;have y6 := hS3.out.frozen 6;simp only [outC];go_wp2_with fail;have hP := hS3.put (.int .i64 6) (.int .i64 0) (.int .i64 0) (.float .f64 0) (S []) (.slice none 0 0) (.slice vp va vb);obtain ⟨k1,k2,k3⟩ := kids_put (w' := ((((((w3.setCell ⟨b2,0,none⟩ (.int .i64 6)).setCell ⟨b2,1,none⟩ (.int .i64 0)).setCell ⟨b2,2,none⟩ (.int .i64 0)).setCell ⟨b2,3,none⟩ (.float .f64 0)).setCell ⟨b2,4,none⟩ (S [])).setCell ⟨b2,5,none⟩ (.slice none 0 0)).setCell ⟨b2,6,none⟩ (.slice vp va vb)) (b2 := b2) (by repeat first | with_reducible exact only_refl _ _ | with_reducible refine only_set ?_ _ _) hS3.le HW.out.size hs2 hS.below.size Hrow.out Hown.out Hkids.out;refine bodyPost_ret (res_cell2 Tryz.results24 hP.out (by simp) rfl) rfl ?_;exact fo_yes (p := (.arr q)) hP.below ⟨_,_,_,_,_,_,_,_,_,_,_,rfl⟩ (by rw [objM,← Hoo.out];simp [Hq.out]) (by unfold valP VRep;exact ⟨_,xs,rfl,k1,k2,k3⟩)
   have hS3 := hS.keep hB3;have Hq := Lib.hid hq;clear hq z0 z1 z2 z3 z4 z5 z6 y0 y1 y2 y3 y4 y5 y6;obtain ⟨z0,z1,z2,z3,z4,z5,z6⟩ := res_cells hS3.out rfl;have y0 := hS3.out.frozen 0;have y1 := hS3.out.frozen 1;have y2 := hS3.out.frozen 2;have y3 := hS3.out.frozen 3;have y4 := hS3.out.frozen 4;have y5 := hS3.out.frozen 5;have y6 := hS3.out.frozen 6;simp only [vZero];go_wp2_with fail;have hP := hS3.put (.int .i64 0) (.int .i64 0) (.int .i64 0) (.float .f64 0) (S []) (.slice none 0 0) (.slice none 0 0);refine bodyPost_ret (res_cell2 Tryz.results24 hP.out (by simp) rfl) rfl ?_;exact fo_no hP.below ⟨_,_,_,_,_,_,_,_,_,_,_,rfl⟩ (by rw [objM,← Hoo.out];simp [Hq.out])
end Go.Proofs.YtcpijmbdibgdmaaGreatDoor
namespace Go.Proofs.YtcpijmbdibgdmaaGreatDoor
open Go.RowKit
attribute [local go_sem] ba_get store_flt
theorem from_8 (tw : Nat → Bool) (W0 : World) (n g : Int) (x : Nat) (t : List UInt8) (ks : List (List UInt8)) (l : List OObj) (A A2 : Option Addr) (kc lc : Nat) (w : World) (hk : ks.length ≤ 1048576) (hl : l.length ≤ 1048576) (hW : Below W0.heap.size W0 w) (hKd : ∀ w3 : World,Below W0.heap.size W0 w3 → Calls Tryz.prog 58 #[.agg #[.int .i64 7,.int .i64 0,.int .i64 0,.float .f64 0,S [],.slice A ks.length kc,.slice none 0 0],.agg #[.int .i64 8,.int .i64 n,.int .i64 g,.float .f64 x,S t,.slice A ks.length kc,.slice A2 l.length lc]] w3 (KidsPost tw W0 w3 7 (.slice A ks.length kc) l)) (hkc : ks.length ≤ kc) (hR : 0 < ks.length → ∃ b off,A = some ⟨b,off,none⟩ ∧ b < W0.heap.size ∧ RowAt W0 b off (ks.map fun k => .string ⟨k.toArray⟩)) (hQ : ∀ k ∈ ks,k.length ≤ 1048576) :
 Calls Tryz.prog 24 #[.agg #[.int .i64 8,.int .i64 n,.int .i64 g,.float .f64 x,S t,.slice A ks.length kc,.slice A2 l.length lc]] w (FromPost tw W0 w (.mk 8 n g x t ks l)) := by
 have HW := Lib.hid hW;have HK := Lib.hid hKd;clear hW hKd;have HR := Lib.hid hR;have HQ := Lib.hid hQ;clear hR hQ;obtain ⟨C,hC⟩ : ∃ C,C = (ov7 8 n g x t (.slice A ks.length kc) (.slice A2 l.length lc)).toArray := ⟨_,rfl⟩;have HC := Lib.hid hC;clear hC;go_enter Tryz.func24,Tryz.ntmps24;go_wp2_with fail;refine (only_any _ _ _ _ _ _ _ _ _ _ _ _ hk hl).mono ?_;rintro e w2 ⟨rfl,hB⟩;have hS := FO.start (C := C) (by rw [HC.out];exact hB);obtain ⟨b2,hb2⟩ : ∃ b,b = w.heap.size + 1 := ⟨_,rfl⟩;rw [← hb2] at hS ⊢;obtain ⟨b,hb⟩ : ∃ b,b = w.heap.size := ⟨_,rfl⟩;rw [← hb] at hS ⊢;clear hb hb2 hB;obtain ⟨oo,hoo⟩ : ∃ o,o = onlyB 8 n g x t ks.length l.length := ⟨_,rfl⟩;rw [← hoo];have Hoo := Lib.hid hoo;clear hoo;obtain ⟨z0,z1,z2,z3,z4,z5,z6⟩ := res_cells hS.out rfl;have y0 := hS.out.frozen 0;have y1 := hS.out.frozen 1;have y2 := hS.out.frozen 2;have y3 := hS.out.frozen 3;have y4 := hS.out.frozen 4;have y5 := hS.out.frozen 5;have y6 := hS.out.frozen 6
 cases oo with
 | false =>
   go_wp2_with fail;have hP := hS.put (.int .i64 0) (.int .i64 0) (.int .i64 0) (.float .f64 0) (S []) (.slice none 0 0) (.slice none 0 0);refine bodyPost_ret (res_cell2 Tryz.results24 hP.out (by simp) rfl) rfl ?_;exact fo_no hP.below ⟨_,_,_,_,_,_,_,_,_,_,_,rfl⟩ (objM_no Hoo.out.symm)
 | true =>
   have f0 : w2.cell? ⟨b,0,none⟩ = some (.int .i64 8) := (hS.box.cell 0).trans (by rw [HC.out];rfl);have q3 := hS.e2;have nb1 : ¬ b = b2 := by omega
   have nb2 : ¬ b2 = b := by omega
   clear q3;have hbx : ∀ i,w2.cell? ⟨b,i,none⟩ = C[i]? := fun i => hS.box.cell i
   rw [HC.out] at hbx;have f1 : w2.cell? ⟨b,1,none⟩ = some (.int .i64 n) := hbx 1;have f2 : w2.cell? ⟨b,2,none⟩ = some (.int .i64 g) := hbx 2;have f3 : w2.cell? ⟨b,3,none⟩ = some (.float .f64 x) := hbx 3;have f4 : w2.cell? ⟨b,4,none⟩ = some (S t) := hbx 4;have f5 : w2.cell? ⟨b,5,none⟩ = some (.slice A ks.length kc) := hbx 5;have f6 : w2.cell? ⟨b,6,none⟩ = some (.slice A2 l.length lc) := hbx 6;clear hbx;by_cases hkl : ks.length = l.length
   · have hkl' : ((ks.length : Int) != (l.length : Int)) = false := by simp [hkl]
     have Hkl := Lib.hid hkl;clear hkl;obtain ⟨fin,hfin⟩ : ∃ fin,fin = keysOk ks := ⟨_,rfl⟩;have HF : Hid (fin = chk (pk ks 0) (ks.drop 0)) := Lib.hid (by rw [hfin];exact (chk_all ks).symm);have Hfin := Lib.hid hfin;clear hfin;go_wp2_with fail
     go_loopg [128] ks.length (fun g i wr => ∃ k : Nat,i = .int .i64 k ∧ k + g = ks.length ∧ Hid (fin = chk (pk ks k) (ks.drop k)) ∧ w2 = wr)
     case atStart => exact ⟨0,rfl,by omega,HF,rfl⟩
     case round =>
      clear HF;obtain ⟨k,rfl,hg,HF,rfl⟩ := hrel;by_cases hk : k < ks.length
      · have tk : k < ks.length := hk;obtain ⟨bk,off,rfl,hbk,hrow⟩ := HR.out (by omega);have hWr := HW.out.trans (hS.below.mono HW.out.size);have hku : ∀ j (h : j < ks.length),w2.cell? ⟨bk,off + j,none⟩ = some (S ks[j]) := fun j h => (hWr.cell (p := ⟨bk,off + j,none⟩) hbk).trans (hrow j _ (by simp [h]))
        have ck := hku k hk;have Hku := Lib.hid hku;clear hku;have hdk := List.drop_eq_getElem_cons hk;obtain ⟨q,hq⟩ : ∃ q,q = ks[k] := ⟨_,rfl⟩;rw [← hq] at ck hdk;have hql : q.length ≤ 1048576 := HQ.out q (by rw [hq];exact List.getElem_mem hk);have Hdk := Lib.hid hdk;have hpn := pk_next hk;rw [← hq] at hpn;have Hpn := Lib.hid hpn;clear hq hdk hrow hWr hpn;go_wp2_with fail;refine (nameable_any q _ (by omega)).mono ?_;rintro e w3 ⟨rfl,rfl⟩;obtain ⟨o1,ho1⟩ : ∃ o,o = nameOk q := ⟨_,rfl⟩;rw [← ho1];have Ho1 := Lib.hid ho1;clear ho1
        cases o1 with
        | false =>
          clear Hku ck;go_wp2_with fail;have hP := hS.put (.int .i64 0) (.int .i64 0) (.int .i64 0) (.float .f64 0) (S []) (.slice none 0 0) (.slice none 0 0);refine bodyPost_ret (res_cell2 Tryz.results24 hP.out (by simp) rfl) rfl ?_;exact fo_no hP.below ⟨_,_,_,_,_,_,_,_,_,_,_,rfl⟩ (by rw [objM,← Hoo.out,← Hfin.out,HF.out,Hdk.out,chk_cons,← Ho1.out];simp)
        | true =>
          go_wp2_with fail;refine (signed_any q _ (by omega)).mono ?_;rintro e w3 ⟨rfl,rfl⟩;obtain ⟨o2,ho2⟩ : ∃ o,o = signOk q := ⟨_,rfl⟩;rw [← ho2];have Ho2 := Lib.hid ho2;clear ho2
          cases o2 with
          | false =>
            clear Hku ck;go_wp2_with fail;have hP := hS.put (.int .i64 0) (.int .i64 0) (.int .i64 0) (.float .f64 0) (S []) (.slice none 0 0) (.slice none 0 0);refine bodyPost_ret (res_cell2 Tryz.results24 hP.out (by simp) rfl) rfl ?_;exact fo_no hP.below ⟨_,_,_,_,_,_,_,_,_,_,_,rfl⟩ (by rw [objM,← Hoo.out,← Hfin.out,HF.out,Hdk.out,chk_cons,← Ho1.out,← Ho2.out];simp)
          | true =>
            by_cases hk0 : k = 0
            · subst hk0;clear Hku ck;go_wp2_with fail
              go_roundg (ks.length - 1)
              case measure => omega
              case rel => exact ⟨1,rfl,by omega,Lib.hid (by rw [HF.out,Hdk.out,chk_cons,← Ho1.out,← Ho2.out,Hpn.out];rfl),rfl⟩
            have tk0 : decide (0 < (k : Int)) = true := by rw [decide_eq_true_eq];omega
            have tk1 : ((k : Int) - 1) = ((k - 1 : Nat) : Int) := by omega
            have cp := Hku.out (k - 1) (by omega);have hpk := pk_at (ks := ks) (k := k) (by omega) hk;obtain ⟨q0,hq0⟩ : ∃ q,q = ks[k - 1] := ⟨_,rfl⟩;rw [← hq0] at cp hpk;have Hpk := Lib.hid hpk;clear hq0 Hku hpk;obtain ⟨o3,ho3⟩ : ∃ o,o = Op.bytesLess q0 q := ⟨_,rfl⟩;have Ho3 : Hid (o3 = ltB q0 q) := Lib.hid (by rw [ho3,bytesLess_ltB]);have t3 := ho3.symm;clear ho3
            cases o3 with
            | true =>
              go_wp2_with fail
              go_roundg (ks.length - (k + 1))
              case measure => omega
              case rel => exact ⟨k + 1,by go_num,by omega,Lib.hid (by rw [HF.out,Hdk.out,chk_cons,← Ho1.out,← Ho2.out,Hpn.out,Hpk.out];simp [← Ho3.out]),rfl⟩
            | false =>
              go_wp2_with fail;have hP := hS.put (.int .i64 0) (.int .i64 0) (.int .i64 0) (.float .f64 0) (S []) (.slice none 0 0) (.slice none 0 0);refine bodyPost_ret (res_cell2 Tryz.results24 hP.out (by simp) rfl) rfl ?_;exact fo_no hP.below ⟨_,_,_,_,_,_,_,_,_,_,_,rfl⟩ (by rw [objM,← Hoo.out,← Hfin.out,HF.out,Hdk.out,chk_cons,← Ho1.out,← Ho2.out,Hpk.out];simp [← Ho3.out])
      have tk : ¬ k < ks.length := hk;have he : ks.drop k = [] := List.drop_eq_nil_of_le (by omega);have hyes : fin = true := by rw [HF.out,he];rfl
      have Hok : Hid (keysOk ks = true) := Lib.hid (by rw [← Hfin.out,hyes]);clear HF he hyes Hfin;go_wp2_with fail;refine (HK.out _ (HW.out.trans (hS.below.mono HW.out.size))).mono ?_;have hs2 := hS.out.lt;rintro e w3 ⟨hB3,⟨q,v,xs,hq,rfl,hrow,hown,hkids⟩ | ⟨hq,rfl⟩⟩
      · obtain ⟨vp,va,vb,rfl⟩ := ownsRow_slice hrow;have hS3 := hS.keep hB3;have Hq := Lib.hid hq;have Hrow := Lib.hid hrow;have Hown := Lib.hid hown;have Hkids := Lib.hid hkids;clear hq hrow hown hkids z0 z1 z2 z3 z4 z5 z6 y0 y1 y2 y3 y4 y5 y6;obtain ⟨z0,z1,z2,z3,z4,z5,z6⟩ := res_cells hS3.out rfl;have y0 := hS3.out.frozen 0;have y1 := hS3.out.frozen 1;have y2 := hS3.out.frozen 2;have y3 := hS3.out.frozen 3;have y4 := hS3.out.frozen 4;have y5 := hS3.out.frozen 5;have y6 := hS3.out.frozen 6;simp only [outC];go_wp2_with fail;have hP := hS3.put (.int .i64 7) (.int .i64 0) (.int .i64 0) (.float .f64 0) (S []) (.slice A ks.length kc) (.slice vp va vb);obtain ⟨k1,k2,k3⟩ := kids_put (w' := ((((((w3.setCell ⟨b2,0,none⟩ (.int .i64 7)).setCell ⟨b2,1,none⟩ (.int .i64 0)).setCell ⟨b2,2,none⟩ (.int .i64 0)).setCell ⟨b2,3,none⟩ (.float .f64 0)).setCell ⟨b2,4,none⟩ (S [])).setCell ⟨b2,5,none⟩ (.slice A ks.length kc)).setCell ⟨b2,6,none⟩ (.slice vp va vb)) (b2 := b2) (by repeat first | with_reducible exact only_refl _ _ | with_reducible refine only_set ?_ _ _) hS3.le HW.out.size hs2 hS.below.size Hrow.out Hown.out Hkids.out;refine bodyPost_ret (res_cell2 Tryz.results24 hP.out (by simp) rfl) rfl ?_;exact fo_yes (p := (.dict ks q)) hP.below ⟨_,_,_,_,_,_,_,_,_,_,_,rfl⟩ (by rw [objM,← Hoo.out];simp [Hq.out,Hkl.out,Hok.out]) (by unfold valP VRep;exact ⟨_,_,xs,rfl,keys_put HR.out HW.out hP.below hkc,k1,k2,k3⟩)
      have hS3 := hS.keep hB3;have Hq := Lib.hid hq;clear hq z0 z1 z2 z3 z4 z5 z6 y0 y1 y2 y3 y4 y5 y6;obtain ⟨z0,z1,z2,z3,z4,z5,z6⟩ := res_cells hS3.out rfl;have y0 := hS3.out.frozen 0;have y1 := hS3.out.frozen 1;have y2 := hS3.out.frozen 2;have y3 := hS3.out.frozen 3;have y4 := hS3.out.frozen 4;have y5 := hS3.out.frozen 5;have y6 := hS3.out.frozen 6;simp only [vZero];go_wp2_with fail;have hP := hS3.put (.int .i64 0) (.int .i64 0) (.int .i64 0) (.float .f64 0) (S []) (.slice none 0 0) (.slice none 0 0);refine bodyPost_ret (res_cell2 Tryz.results24 hP.out (by simp) rfl) rfl ?_;exact fo_no hP.below ⟨_,_,_,_,_,_,_,_,_,_,_,rfl⟩ (by rw [objM,← Hoo.out];simp [Hq.out,Hkl.out,Hok.out])
   have hkl' : ((ks.length : Int) != (l.length : Int)) = true := by simp;omega
   go_wp2_with fail;have hP := hS.put (.int .i64 0) (.int .i64 0) (.int .i64 0) (.float .f64 0) (S []) (.slice none 0 0) (.slice none 0 0);refine bodyPost_ret (res_cell2 Tryz.results24 hP.out (by simp) rfl) rfl ?_;exact fo_no hP.below ⟨_,_,_,_,_,_,_,_,_,_,_,rfl⟩ (by rw [objM,← Hoo.out];simp [hkl])
end Go.Proofs.YtcpijmbdibgdmaaGreatDoor
namespace Go.Proofs.YtcpijmbdibgdmaaGreatDoor
open Go.RowKit
def TwSaid (tw : Nat → Bool) (W0 : World) : Prop := ∀ (x : Nat) (w : World),Below W0.heap.size W0 w → x < 18446744073709551616 → Calls Tryz.prog 54 #[.float .f64 x] w fun e w' => e = .returned (.bool (tw x)) ∧ Below w.heap.size w w'
theorem from_any (tw : Nat → Bool) (W0 : World) (hTw : TwSaid tw W0) : ∀ m : Nat,FromSaid tw W0 m
 | 0 => fun o c w hn _ _ _ _ => by cases o;simp at hn
 | m + 1 => fun o c w hn hR hI hb hW => by
   have ih := from_any tw W0 hTw m;obtain ⟨kd,n,g,x,t,ks,l⟩ := o;have hR2 := hR;unfold ORep at hR;obtain ⟨kv,lv,xs,rfl,hk,hl,hkids⟩ := hR;obtain ⟨A,kc,rfl,hkc1,hkc2,hkl,hkr⟩ := hk;obtain ⟨A2,lc,rfl,hlc1,hlc2,hll,hlr⟩ := hl;have hb2 := hb;rw [bulkO] at hb;have hsl := sum_len ks;have hbl := bulkL_len l;have hI2 := hI;unfold OInt at hI;obtain ⟨_,_,_,hx,hIl⟩ := hI;have hks : ks.length ≤ 1048576 := by omega
   have hls : l.length ≤ 1048576 := by omega
   have ht : t.length ≤ 1048576 := by omega
   change Calls Tryz.prog 24 #[.agg #[.int .i64 kd,.int .i64 n,.int .i64 g,.float .f64 x,S t,.slice A ks.length kc,.slice A2 l.length lc]] w _;by_cases h : kd = 0
   · subst h;exact from_0 tw W0 n g x t ks l A A2 kc lc w hks hls
   by_cases h1 : kd = 1
   · subst h1;exact from_1 tw W0 n g x t ks l A A2 kc lc w hks hls
   by_cases h2 : kd = 2
   · subst h2;exact from_2 tw W0 n g x t ks l A A2 kc lc w hks hls
   by_cases h3 : kd = 3
   · subst h3;exact from_3 tw W0 n g x t ks l A A2 kc lc w hks hls hW hTw hx
   by_cases h4 : kd = 4
   · subst h4;exact from_4 tw W0 n g x t ks l A A2 kc lc w hks hls ht
   by_cases h5 : kd = 5
   · subst h5;exact from_5 tw W0 n g x t ks l A A2 kc lc w hks hls ht
   by_cases h6 : kd = 6
   · subst h6;exact from_6 tw W0 n g x t ks l A A2 kc lc w hks hls ht
   by_cases h7 : kd = 7
   · subst h7;exact from_7 tw W0 n g x t ks l A A2 kc lc w hks hls hW (fun w3 h3 => kids_any tw W0 m ih 6 7 n g x t ks l _ none 0 0 w3 hn hR2 hIl (by omega) h3)
   by_cases h8 : kd = 8
   · subst h8;exact from_8 tw W0 n g x t ks l A A2 kc lc w hks hls hW (fun w3 h3 => kids_any tw W0 m ih 7 8 n g x t ks l _ A ks.length kc w3 hn hR2 hIl (by omega) h3) hkc1 hkr (fun k hk => by have := sum_at hk;omega)
   by_cases h9 : kd = 9
   · subst h9;exact from_9 tw W0 n g x t ks l A A2 kc lc w hks hls
   exact from_x tw W0 kd ⟨h,h1,h2,h3,h4,h5,h6,h7,h8,h9⟩ n g x t ks l A A2 kc lc w hks hls
end Go.Proofs.YtcpijmbdibgdmaaGreatDoor
namespace Go.Proofs.YtcpijmbdibgdmaaGreatDoor
open Go.RowKit
attribute [local go_sem] ba_get store_flt
def TopPost (tw : Nat → Bool) (W0 w : World) (o : OObj) (e : Ending) (w' : World) : Prop :=
 ∃ (cs : Array Value) (b : Bool),e = .returned (.tuple #[.agg cs,.bool b]) ∧ Shp cs ∧ Below w.heap.size w w' ∧
   ((∃ p,objM tw o = some p ∧ wtO o ≤ 20000 ∧ b = true ∧ VRep w' (fun i => i < W0.heap.size ∨ w.heap.size ≤ i) (valP id p) cs.toList) ∨ ((objM tw o = none ∨ 20000 < wtO o) ∧ b = false))
theorem FO.few {w w2 w3 : World} {b b2 p : Nat} {C V : Array Value} (h : FO w w2 b b2 C V) (hO : Only w2 w3 p) (hp : b2 < p) : FO w w3 b b2 C V := by
 have hb := h.hb;have e2 := h.e2;exact ⟨Blk.grown h.box hO (fun e => by injection e with e;omega),Blk.grown h.out hO (fun e => by injection e with e;omega),only_new hO (by omega) h.below,hb,e2⟩
def TopIn (w : World) (few : Bool) (R : World → Ending → World → Prop) (e : Ending) (w' : World) : Prop :=
 ∃ (cs : Array Value) (b : Bool),e = .returned (.tuple #[.agg cs,.bool b]) ∧ Shp cs ∧ Below w.heap.size w w' ∧ ((few = false ∧ b = false) ∨ (few = true ∧ ∃ b2 w2 w3,Below w.heap.size w w2 ∧ R w2 (.returned (.tuple #[.agg cs,.bool b])) w3 ∧ Only w3 w' b2 ∧ w.heap.size < b2 ∧ b2 < w2.heap.size))
theorem top_in (W0 : World) (kd n g : Int) (x : Nat) (t : List UInt8) (A A2 : Option Addr) (nk kc nl lc : Nat) (w : World) (few : Bool) (R : World → Ending → World → Prop)
 (hfew : ∀ (p : Nat) (w2 : World),Below w.heap.size w w2 → w.heap.size ≤ p → Blk w2 p 3 #[.int .i64 20000] → Calls Tryz.prog 23 #[.agg #[.int .i64 kd,.int .i64 n,.int .i64 g,.float .f64 x,S t,.slice A nk kc,.slice A2 nl lc],.pointer (some ⟨p,0,none⟩)] w2 fun e w' => e = .returned (.bool few) ∧ Only w2 w' p)
 (hfrom : few = true → ∀ (w2 : World),Below w.heap.size w w2 → Calls Tryz.prog 24 #[.agg #[.int .i64 kd,.int .i64 n,.int .i64 g,.float .f64 x,S t,.slice A nk kc,.slice A2 nl lc]] w2 fun e w' => ∃ (cs : Array Value) (b : Bool),e = .returned (.tuple #[.agg cs,.bool b]) ∧ Shp cs ∧ Below w2.heap.size w2 w' ∧ R w2 (.returned (.tuple #[.agg cs,.bool b])) w') :
 Calls Tryz.prog 10 #[.agg #[.int .i64 kd,.int .i64 n,.int .i64 g,.float .f64 x,S t,.slice A nk kc,.slice A2 nl lc]] w (TopIn w few R) := by
 obtain ⟨C,hC⟩ : ∃ C : Array Value,C = #[.int .i64 kd,.int .i64 n,.int .i64 g,.float .f64 x,S t,.slice A nk kc,.slice A2 nl lc] := ⟨_,rfl⟩;have HC := Lib.hid hC;have Hfew := Lib.hid hfew;have Hfrom := Lib.hid hfrom;clear hC hfew hfrom;go_enter Tryz.func10,Tryz.ntmps10;go_wp2_with fail;have hS : FO w ((w.alloc (.cells C 28)).alloc (.cells vZero 34)) w.heap.size (w.heap.size + 1) C vZero := FO.start (Below.refl _ _);have hS1 := hS.keep ((Below.refl _ _).alloc (Nat.le_refl _) (.cells #[.int .i64 20000] 3));rw [HC.out] at hS1;refine (Hfew.out (w.heap.size + 1 + 1) _ hS1.below (by omega) (Blk.newAt _ 3 _ _ (by simp))).mono ?_;rintro e w2 ⟨rfl,hO⟩;have hS2 := hS1.few hO (by omega);obtain ⟨b2,hb2⟩ : ∃ b,b = w.heap.size + 1 := ⟨_,rfl⟩;rw [← hb2] at hS2 ⊢;obtain ⟨b,hb⟩ : ∃ b,b = w.heap.size := ⟨_,rfl⟩;rw [← hb] at hS2 ⊢;clear hO hS1 hS hb hb2;have f0 : w2.cell? ⟨b,0,none⟩ = some (.int .i64 kd) := hS2.box.cell 0;have f1 : w2.cell? ⟨b,1,none⟩ = some (.int .i64 n) := hS2.box.cell 1;have f2 : w2.cell? ⟨b,2,none⟩ = some (.int .i64 g) := hS2.box.cell 2;have f3 : w2.cell? ⟨b,3,none⟩ = some (.float .f64 x) := hS2.box.cell 3;have f4 : w2.cell? ⟨b,4,none⟩ = some (S t) := hS2.box.cell 4;have f5 : w2.cell? ⟨b,5,none⟩ = some (.slice A nk kc) := hS2.box.cell 5;have f6 : w2.cell? ⟨b,6,none⟩ = some (.slice A2 nl lc) := hS2.box.cell 6;obtain ⟨z0,z1,z2,z3,z4,z5,z6⟩ := res_cells hS2.out rfl;have y0 := hS2.out.frozen 0;have y1 := hS2.out.frozen 1;have y2 := hS2.out.frozen 2;have y3 := hS2.out.frozen 3;have y4 := hS2.out.frozen 4;have y5 := hS2.out.frozen 5;have y6 := hS2.out.frozen 6
 cases few with
 | false =>
   go_wp2_with fail;have hP := hS2.put (.int .i64 0) (.int .i64 0) (.int .i64 0) (.float .f64 0) (S []) (.slice none 0 0) (.slice none 0 0);refine bodyPost_ret (res_cell2 (v := .bool false) Tryz.results10 hP.out (by simp) rfl) rfl ?_;exact ⟨_,false,rfl,⟨_,_,_,_,_,_,_,_,_,_,_,rfl⟩,hP.below,.inl ⟨rfl,rfl⟩⟩
 | true =>
   go_wp2_with fail;refine (Hfrom.out (by simp) _ hS2.below).mono ?_;rintro e w3 ⟨cs,bo,rfl,⟨kd9,n9,g9,x9,t9,kp9,ka9,kb9,vp9,va9,vb9,rfl⟩,hB3,hRR⟩;have hS3 := hS2.keep hB3;have HR := Lib.hid hRR;have hl2 := hS2.out.lt;have hl1 := hS2.hb;have hl3 := hS2.e2;have hl4 : w.heap.size < b2 := by omega
   clear hRR f0 f1 f2 f3 f4 f5 f6 z0 z1 z2 z3 z4 z5 z6 y0 y1 y2 y3 y4 y5 y6 hB3 hl1 hl3;obtain ⟨z0,z1,z2,z3,z4,z5,z6⟩ := res_cells hS3.out rfl;have y0 := hS3.out.frozen 0;have y1 := hS3.out.frozen 1;have y2 := hS3.out.frozen 2;have y3 := hS3.out.frozen 3;have y4 := hS3.out.frozen 4;have y5 := hS3.out.frozen 5;have y6 := hS3.out.frozen 6;go_wp2_with fail;have hP := hS3.put (.int .i64 kd9) (.int .i64 n9) (.int .i64 g9) (.float .f64 x9) (S t9) (.slice kp9 ka9 kb9) (.slice vp9 va9 vb9);refine bodyPost_ret (res_cell2 (v := .bool bo) Tryz.results10 hP.out (by simp) rfl) rfl ?_;refine ⟨_,bo,rfl,⟨_,_,_,_,_,_,_,_,_,_,_,rfl⟩,hP.below,.inr ⟨rfl,b2,w2,w3,hS2.below,HR.out,?_,hl4,hl2⟩⟩
   repeat first | with_reducible exact only_refl _ _ | with_reducible refine only_set ?_ _ _
theorem top_any (tw : Nat → Bool) (W0 : World) (hTw : TwSaid tw W0) (o : OObj) (c : List Value) (w : World) (hR : ORep W0 W0.heap.size o c) (hI : OInt o) (hb : bulkO o ≤ 1048576) (hW : Below W0.heap.size W0 w) :
 Calls Tryz.prog 10 #[.agg c.toArray] w (TopPost tw W0 w o) := by
 have hfew := fun (p : Nat) (w2 : World) (h : Below w.heap.size w w2) (hp : w.heap.size ≤ p) (hc : Blk w2 p 3 #[.int .i64 20000]) => few_any W0 (SizeOf.sizeOf o) o c p 20000 w2 (Nat.le_refl _) hR hb (hW.trans (h.mono hW.size)) (Nat.le_trans hW.size hp) hc (Nat.le_refl _)
 have hfrom := fun (w2 : World) (h : Below w.heap.size w w2) => from_any tw W0 hTw (SizeOf.sizeOf o) o c w2 (Nat.le_refl _) hR hI hb (hW.trans (h.mono hW.size))
 obtain ⟨kd,n,g,x,t,ks,l⟩ := o;have hR2 := hR;unfold ORep at hR;obtain ⟨kv,lv,xs,rfl,hk,hl,hkids⟩ := hR;obtain ⟨A,kc,rfl,_⟩ := hk;obtain ⟨A2,lc,rfl,_⟩ := hl;refine (top_in W0 kd n g x t A A2 ks.length kc l.length lc w (decide (wtO (.mk kd n g x t ks l) ≤ 20000)) (fun w2 e w3 => FromPost tw W0 w2 (.mk kd n g x t ks l) e w3) (fun p w2 h hp hc => (hfew p w2 h hp hc).mono ?_) (fun hf w2 h => (hfrom w2 h).mono ?_)).mono ?_
 · rintro e w' ⟨h1,_,_,_,h2⟩;exact ⟨h1,h2⟩
 · rintro e w' ⟨cs,b,rfl,h2,h3,h4⟩;exact ⟨cs,b,rfl,h2,h3,cs,b,rfl,h2,h3,h4⟩
 · rintro e w' ⟨cs,b,rfl,h2,h3,h4⟩;refine ⟨cs,b,rfl,h2,h3,?_⟩;rcases h4 with ⟨h4,rfl⟩ | ⟨h4,b2,w2,w3,h5,⟨cs',b',h6,h7,h8,h9⟩,h10,h11,h12⟩
   · rw [decide_eq_false_iff_not] at h4;exact .inr ⟨.inr (by omega),rfl⟩
   rw [decide_eq_true_eq] at h4;injection h6 with h6;injection h6 with h6
   have h13 : cs = cs' ∧ b = b' := by
    have := congrArg Array.toList h6;simp at this;exact this
   obtain ⟨rfl,rfl⟩ := h13;rcases h9 with ⟨p,h14,rfl,h15⟩ | ⟨h14,rfl⟩
   · refine .inl ⟨p,h14,h4,rfl,VRep.mono (fun i hi hlt => ?_) _ _ h15⟩;have := hW.size;have := h5.size;refine ⟨h10.block i hlt (fun e => ?_),?_⟩
     · injection e with e;rcases hi with hi | hi <;> omega
     rcases hi with hi | hi
     · exact .inl hi
     exact .inr (by omega)
   exact .inr ⟨.inl h14,rfl⟩
end Go.Proofs.YtcpijmbdibgdmaaGreatDoor
namespace Go.Proofs.YtcpijmbdibgdmaaGreatDoor
open Go.RowKit
attribute [local go_sem] ba_get store_flt
theorem cntSL_le : ∀ (l : List SVal) (i : Nat),cntSL (l.drop i) ≤ cntSL l
 | [],i => by simp
 | v :: l,0 => by simp
 | v :: l,i + 1 => by
   have := cntSL_le l i;rw [List.drop_succ_cons,cntSL];omega
theorem levels_any : ∀ (n : Nat) (v : SVal) (c : List Value) (F : Nat → Prop) (w : World),SizeOf.sizeOf v ≤ n → VRep w F v c → cntS v ≤ 1048576 →
 Calls Tryz.prog 26 #[.agg c.toArray] w fun e w' => e = .returned (.int .i64 (levS v : Nat)) ∧ Below w.heap.size w w'
 | 0,v,_,_,_,hn,_,_ => by cases v <;> simp at hn
 | n + 1,v,c,F,w,hn,hR,hc => by
   have ih := levels_any n;obtain ⟨k,kv,rfl,⟨kp,kb,rfl,_⟩,vp,vb,rfl,hvb,hvm,hrow⟩ := hR.open_;obtain ⟨l,hl⟩ : ∃ l,l = kidsS v := ⟨_,rfl⟩
   have hsz : ∀ i (h : i < l.length),SizeOf.sizeOf l[i] ≤ n := by
    subst hl;intro i h;have := kids_size (v := v) h;omega
   obtain ⟨kl,hkl⟩ : ∃ kl,kl = (keysS v).length := ⟨_,rfl⟩;have hcv : cntS v = 1 + cntSL l := by rw [hl];exact cntS_eq v
   rw [← hl] at hvb hrow ⊢;rw [← hkl];have Hcv := Lib.hid hcv;have HLv := Lib.hid (show levS v = levSL l + 1 by rw [hl];exact levS_eq v);obtain ⟨LL,hLL⟩ : ∃ LL,LL = levSL l := ⟨_,rfl⟩;have HLL := Lib.hid hLL;rw [← hLL] at HLv;clear hLL;have Hc := Lib.hid hc;have Hrow := Lib.hid hrow;have Hsz := Lib.hid hsz;have Hih := Lib.hid ih;have hll : l.length ≤ 9223372036854775807 := by have := hvm;unfold maxLen at this;omega
   obtain ⟨a0,ha0⟩ : ∃ a,a = kindS v := ⟨_,rfl⟩;obtain ⟨a1,ha1⟩ : ∃ a,a = numS v := ⟨_,rfl⟩;obtain ⟨a2,ha2⟩ : ∃ a,a = genS v := ⟨_,rfl⟩;obtain ⟨a3,ha3⟩ : ∃ a,a = realS v := ⟨_,rfl⟩;obtain ⟨a4,ha4⟩ : ∃ a,a = textS v := ⟨_,rfl⟩;rw [← ha0,← ha1,← ha2,← ha3,← ha4];clear hcv hc hrow hsz ih hR ha0 ha1 ha2 ha3 ha4 hl hkl hn hvb hvm;obtain ⟨C,hC⟩ : ∃ C,C = (sv7 a0 a1 a2 a3 a4 (.slice kp kl kb) (.slice vp l.length vb)).toArray := ⟨_,rfl⟩;have HC := Lib.hid hC;clear hC;change Calls Tryz.prog 26 #[.agg #[.int .i64 a0,.int .i64 a1,.int .i64 a2,.float .f64 a3,S a4,.slice kp kl kb,.slice vp l.length vb]] w _;go_enter Tryz.func26,Tryz.ntmps26;go_wp2_with fail;have hS0 : BoxS w (w.alloc (.cells #[.int .i64 a0,.int .i64 a1,.int .i64 a2,.float .f64 a3,S a4,.slice kp kl kb,.slice vp l.length vb] 34)) w.heap.size C := by rw [HC.out];exact BoxS.start w _
   obtain ⟨b,hb⟩ : ∃ b,b = w.heap.size := ⟨_,rfl⟩;rw [← hb] at hS0 ⊢;clear hb
   go_loopg [3,9] l.length (fun g i j wr => ∃ (k : Nat) (y : Nat),i = .int .i64 (y : Nat) ∧ j = .int .i64 k ∧ k + g = l.length ∧ y ≤ 1048576 ∧ Hid (max y (levSL (l.drop k)) = LL) ∧ BoxS w wr b C)
   case atStart => exact ⟨0,0,rfl,rfl,by omega,by omega,Lib.hid (by rw [HLL.out];simp),hS0⟩
   case round =>
    clear hS0;obtain ⟨k,y,rfl,rfl,hg,hyb,Hy,hS⟩ := hrel;by_cases hk : k < l.length
    · have tk : k < l.length := hk;obtain ⟨g0,rfl,_,hg0,hat⟩ := Hrow.out (by omega);obtain ⟨c',hc7,hrep,hcells⟩ := hat k hk;have hlt := hS.box.lt;have hrep2 := hrep.below (hS.alloc (.cells c'.toArray 34)).below;have hcd := levSL_drop l k hk;have hcc := cntSL_drop l k hk;have hcs := cntSL_le l k;have hszk := Hsz.out k hk;obtain ⟨u,hu⟩ : ∃ u,u = l[k] := ⟨_,rfl⟩;rw [← hu] at hrep hrep2 hcd hszk hcc;obtain ⟨kp',kb',vp',vb',rfl,d0,d1,d2,d3,d4,d5,d6⟩ := row_cells hg0 hS.below hrep hcells;have hcu : cntS u ≤ 1048576 := by have := Hcv.out;have := Hc.out;omega
      have hlu : levS u ≤ 1048576 := Nat.le_trans (levS_le _ u (Nat.le_refl _)) hcu;have Hcd := Lib.hid hcd;clear hcd hcells hat hrep hu hcc hcs;go_wp2_with fail;refine (Hih.out u _ F _ hszk hrep2 hcu).mono ?_;rintro e w2 ⟨rfl,hB2⟩;have hS2 := (hS.alloc _).keep hB2;obtain ⟨z,hz⟩ : ∃ z,z = levS u := ⟨_,rfl⟩;rw [← hz] at hlu ⊢;have Hyn : Hid (max (max y z) (levSL (l.drop (k + 1))) = LL) := Lib.hid (by have := Hy.out;have := Hcd.out;omega);clear hz d0 d1 d2 d3 d4 d5 d6 hrep2 hB2 hS Hcd Hy;go_wp2_with fail
      go_roundg (l.length - (k + 1))
      case measure => omega
      case rel => exact ⟨k + 1,max y z,by go_num,by go_num,by omega,by omega,Hyn,hS2⟩
    have tk : ¬ k < l.length := hk;have he : l.drop k = [] := List.drop_eq_nil_of_le (by omega);have hfin : levS v = y + 1 := by rw [HLv.out,← Hy.out,he,levSL];omega
    have Hfin := Lib.hid hfin;clear hfin he Hy;go_wp2_with fail;go_ret;exact ⟨by rw [Hfin.out];simp,hS.below⟩
theorem modest_in (a0 a1 a2 : Int) (a3 : Nat) (a4 : List UInt8) (kp vp : Option Addr) (kl kb vl vb z : Nat) (hz : z ≤ 1048576) (w : World)
 (hn : ∀ w2,Below w.heap.size w w2 → Calls Tryz.prog 25 #[.agg #[.int .i64 a0,.int .i64 a1,.int .i64 a2,.float .f64 a3,S a4,.slice kp kl kb,.slice vp vl vb],.int .i64 5000] w2 fun e w' => ∃ x : Int,e = .returned (.int .i64 x) ∧ 1 ≤ x ∧ x ≤ 1048576 ∧ Below w2.heap.size w2 w')
 (hl : ∀ w2,Below w.heap.size w w2 → Calls Tryz.prog 26 #[.agg #[.int .i64 a0,.int .i64 a1,.int .i64 a2,.float .f64 a3,S a4,.slice kp kl kb,.slice vp vl vb]] w2 fun e w' => e = .returned (.int .i64 z) ∧ Below w2.heap.size w2 w') :
 Calls Tryz.prog 11 #[.agg #[.int .i64 a0,.int .i64 a1,.int .i64 a2,.float .f64 a3,S a4,.slice kp kl kb,.slice vp vl vb]] w fun e w' => ∃ bo : Bool,e = .returned (.bool bo) ∧ (bo = true → z ≤ 40) ∧ Below w.heap.size w w' := by
 have Hn := Lib.hid hn;have Hl := Lib.hid hl;clear hn hl;go_enter Tryz.func11,Tryz.ntmps11;have hS0 : BoxS w (w.alloc (.cells #[.int .i64 a0,.int .i64 a1,.int .i64 a2,.float .f64 a3,S a4,.slice kp kl kb,.slice vp vl vb] 34)) w.heap.size #[.int .i64 a0,.int .i64 a1,.int .i64 a2,.float .f64 a3,S a4,.slice kp kl kb,.slice vp vl vb] := BoxS.start w _;go_wp2_with fail;refine (Hn.out _ hS0.below).mono ?_;rintro e w2 ⟨x,rfl,hx1,hx2,hB2⟩;have hS2 := hS0.keep hB2;obtain ⟨b,hb⟩ : ∃ b,b = w.heap.size := ⟨_,rfl⟩;rw [← hb] at hS2 ⊢;clear hb hB2;have c0 : w2.cell? ⟨b,0,none⟩ = some (.int .i64 a0) := hS2.box.cell 0;have c1 : w2.cell? ⟨b,1,none⟩ = some (.int .i64 a1) := hS2.box.cell 1;have c2 : w2.cell? ⟨b,2,none⟩ = some (.int .i64 a2) := hS2.box.cell 2;have c3 : w2.cell? ⟨b,3,none⟩ = some (.float .f64 a3) := hS2.box.cell 3;have c4 : w2.cell? ⟨b,4,none⟩ = some (S a4) := hS2.box.cell 4;have c5 : w2.cell? ⟨b,5,none⟩ = some (.slice kp kl kb) := hS2.box.cell 5;have c6 : w2.cell? ⟨b,6,none⟩ = some (.slice vp vl vb) := hS2.box.cell 6;by_cases hx : x ≤ 5000
 · have tx : decide (x ≤ 5000) = true := decide_eq_true hx;go_wp2_with fail;refine (Hl.out _ hS2.below).mono ?_;rintro e w3 ⟨rfl,hB3⟩;have hS3 := hS2.keep hB3;clear hB3 c0 c1 c2 c3 c4 c5 c6;go_wp2_with fail;go_ret;exact ⟨_,rfl,fun h => by simp at h;omega,hS3.below⟩
 · have tx : decide (x ≤ 5000) = false := decide_eq_false hx;go_wp2_with fail;go_ret;exact ⟨false,rfl,fun h => by simp at h,hS2.below⟩
theorem modest_any (v : SVal) (c : List Value) (F : Nat → Prop) (w : World) (hR : VRep w F v c) (hc : cntS v ≤ 1048576) :
 Calls Tryz.prog 11 #[.agg c.toArray] w fun e w' => ∃ bo : Bool,e = .returned (.bool bo) ∧ (bo = true → levS v ≤ 40) ∧ Below w.heap.size w w' := by
 have hn := fun w2 h => nodes_any (SizeOf.sizeOf v) v c F 5000 w2 (Nat.le_refl _) (hR.below h) hc (by omega) (by omega)
 have hl := fun w2 h => levels_any (SizeOf.sizeOf v) v c F w2 (Nat.le_refl _) (hR.below h) hc
 have hlu : levS v ≤ 1048576 := Nat.le_trans (levS_le _ v (Nat.le_refl _)) hc;obtain ⟨k,kv,rfl,⟨kp,kb,rfl,_⟩,vp,vb,rfl,_⟩ := hR.open_;refine modest_in _ _ _ _ _ _ _ _ _ _ _ _ hlu w (fun w2 h => (hn w2 h).mono ?_) hl;rintro e w' ⟨x,h1,h2,h3,h4⟩;exact ⟨x,h1,h2,by omega,h4⟩
end Go.Proofs.YtcpijmbdibgdmaaGreatDoor
