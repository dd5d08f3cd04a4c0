/-
  spec.reader.literal: a literal string.
  spec.reader.hex: a hexadecimal string.
  spec.reader.word: the regular characters at the place, and the marks that it leaves.
-/
import Derived.Test.YtcpijmbdibgdmaaGreatDoorMs00
set_option linter.all false
set_option maxHeartbeats 16000000
set_option maxRecDepth 100000
namespace Go.Proofs.YtcpijmbdibgdmaaGreatDoor
open Go.RowKit
attribute [local go_sem] ba_get
theorem octM_le : ∀ (n : Nat) (l : List UInt8) (o : Nat),(octM n l o).2 ≤ l.length
 | 0,_,_ => Nat.zero_le _
 | _ + 1,[],_ => Nat.le_refl _
 | n + 1,b :: l,o => by
   rw [octM];split
   · have := octM_le n l (8 * o + (b.toNat - 48));simp;omega
   simp
theorem escF_le (l : List UInt8) : (escF l).2.2 ≤ l.length := by
 cases l with
 | nil => simp [escF]
 | cons b l =>
   rw [escF_cons];have := octM_le 2 l (b.toNat - 48)
   repeat' split
   all_goals first | (simp;done) | (simp;omega) | skip
   rename_i h
   cases l with
   | nil => simp at h
   | cons c l => simp
def litM : Nat → List UInt8 → Nat → Option (List UInt8 × Nat)
 | 0,_,_ => none
 | _ + 1,[],_ => none
 | n + 1,b :: l,o =>
   if b.toNat = 40 then (if o = 0 then (litM n l 1).map fun p => (p.1,p.2 + 1) else (litM n l (o + 1)).map fun p => (b :: p.1,p.2 + 1))
   else if b.toNat = 41 then (if o = 1 then some ([],1) else (litM n l (o - 1)).map fun p => (b :: p.1,p.2 + 1))
   else if b.toNat = 13 then (if (l.head?.map UInt8.toNat) = some 10 then (litM n (l.drop 1) o).map fun p => (10 :: p.1,p.2 + 2) else (litM n l o).map fun p => (10 :: p.1,p.2 + 1))
   else if b.toNat = 92 then (if (escF l).2.1 = true then (litM n (l.drop (escF l).2.2) o).map fun p => ((escF l).1 :: p.1,p.2 + 1 + (escF l).2.2) else (litM n (l.drop (escF l).2.2) o).map fun p => (p.1,p.2 + 1 + (escF l).2.2))
   else (litM n l o).map fun p => (b :: p.1,p.2 + 1)
theorem litM_open0 {n : Nat} {b : UInt8} {l : List UInt8} (h : b.toNat = 40) : litM (n + 1) (b :: l) 0 = (litM n l 1).map fun p => (p.1,p.2 + 1) := by rw [litM,if_pos h,if_pos rfl]
theorem litM_open {n o : Nat} {b : UInt8} {l : List UInt8} (h : b.toNat = 40) (ho : 1 ≤ o) : litM (n + 1) (b :: l) o = (litM n l (o + 1)).map fun p => (b :: p.1,p.2 + 1) := by rw [litM,if_pos h,if_neg (by omega)]
theorem litM_end {n : Nat} {b : UInt8} {l : List UInt8} (h : b.toNat = 41) : litM (n + 1) (b :: l) 1 = some ([],1) := by rw [litM,if_neg (by omega),if_pos h,if_pos rfl]
theorem litM_shut {n o : Nat} {b : UInt8} {l : List UInt8} (h : b.toNat = 41) (ho : o ≠ 1) : litM (n + 1) (b :: l) o = (litM n l (o - 1)).map fun p => (b :: p.1,p.2 + 1) := by rw [litM,if_neg (by omega),if_pos h,if_neg ho]
theorem litM_crlf {n o : Nat} {b : UInt8} {l : List UInt8} (h : b.toNat = 13) (hl : (l.head?.map UInt8.toNat) = some 10) : litM (n + 1) (b :: l) o = (litM n (l.drop 1) o).map fun p => (10 :: p.1,p.2 + 2) := by rw [litM,if_neg (by omega),if_neg (by omega),if_pos h,if_pos hl]
theorem litM_cr {n o : Nat} {b : UInt8} {l : List UInt8} (h : b.toNat = 13) (hl : (l.head?.map UInt8.toNat) ≠ some 10) : litM (n + 1) (b :: l) o = (litM n l o).map fun p => (10 :: p.1,p.2 + 1) := by rw [litM,if_neg (by omega),if_neg (by omega),if_pos h,if_neg hl]
theorem litM_esc {n o : Nat} {b : UInt8} {l : List UInt8} (h : b.toNat = 92) (hl : (escF l).2.1 = true) : litM (n + 1) (b :: l) o = (litM n (l.drop (escF l).2.2) o).map fun p => ((escF l).1 :: p.1,p.2 + 1 + (escF l).2.2) := by
 rw [litM,if_neg (by omega),if_neg (by omega),if_neg (by omega),if_pos h,if_pos hl]
theorem litM_esc0 {n o : Nat} {b : UInt8} {l : List UInt8} (h : b.toNat = 92) (hl : (escF l).2.1 = false) : litM (n + 1) (b :: l) o = (litM n (l.drop (escF l).2.2) o).map fun p => (p.1,p.2 + 1 + (escF l).2.2) := by
 rw [litM,if_neg (by omega),if_neg (by omega),if_neg (by omega),if_pos h,if_neg (by simp [hl])]
theorem litM_else {n o : Nat} {b : UInt8} {l : List UInt8} (h1 : b.toNat ≠ 40) (h2 : b.toNat ≠ 41) (h3 : b.toNat ≠ 13) (h4 : b.toNat ≠ 92) : litM (n + 1) (b :: l) o = (litM n l o).map fun p => (b :: p.1,p.2 + 1) := by
 rw [litM,if_neg h1,if_neg h2,if_neg h3,if_neg h4]
def litAt (s : List UInt8) (k : Nat) : Option (List UInt8 × Nat) := (litM (s.length + 1) (s.drop k) 0).map fun p => (p.1,p.2 + k)
def LitPost (w : World) (r : Nat) (s : List UInt8) (bad deep : Nat) (odd ends : Bool) (fin : Option (List UInt8 × Nat)) (e : Ending) (w' : World) : Prop :=
 (∃ out q,fin = some (out,q) ∧ e = .returned (S out) ∧ q ≤ s.length ∧ Rd w' r s q bad deep odd ends ∧ Only w w' r) ∨
 (fin = none ∧ e = .returned (S []) ∧ Rd w' r s s.length (if bad = 0 then 1 else bad) deep odd true ∧ Only w w' r)
def LitRel (s : List UInt8) (fin : Option (List UInt8 × Nat)) (g j o : Nat) (bs : List UInt8) : Prop :=
 fin = (litM g (s.drop j) o).map fun p => (bs ++ p.1,p.2 + j)
theorem LitRel.step {s : List UInt8} {fin : Option (List UInt8 × Nat)} {g g' j j' o o' : Nat} {bs bs' : List UInt8} (h : LitRel s fin g j o bs) (xs : List UInt8) (hb : bs' = bs ++ xs) (d : Nat) (hj : j' = j + d)
 (e : litM g (s.drop j) o = (litM g' (s.drop j') o').map fun p => (xs ++ p.1,p.2 + d)) : LitRel s fin g' j' o' bs' := by
 unfold LitRel at h ⊢;rw [h,e,Option.map_map,hb,hj];congr 1;funext p;simp [Function.comp];omega
theorem literal_any (r : Nat) (s : List UInt8) (k bad deep : Nat) (odd ends : Bool) (w : World) (hk : k < s.length) (h40 : s[k].toNat = 40) (hs : s.length ≤ 268435456) (hR0 : Rd w r s k bad deep odd ends) :
 Calls Tryz.prog 42 #[.pointer (some ⟨r,0,none⟩)] w (LitPost w r s bad deep odd ends (litAt s k)) := by
 have hrB : r < w.heap.size := Blk.lt hR0;obtain ⟨fin,hfin⟩ : ∃ fin,fin = litAt s k := ⟨_,rfl⟩;rw [← hfin];have Hf := Lib.hid hfin;clear hfin;have H40 := Lib.hid h40;clear h40;go_enter Tryz.func42,Tryz.ntmps42;go_wp2_with fail
 go_loopg [3,4] (s.length + 1) (fun g v u wr => ∃ j o bs,u = .int .i64 ((o : Nat) : Int) ∧ s.length < j + g ∧ j ≤ s.length ∧ (1 ≤ o ∨ j = k ∧ o = 0) ∧ o ≤ j ∧ bs.length ≤ j ∧ Rd wr r s j bad deep odd ends ∧ Only w wr r ∧ Own wr w.heap.size v bs ∧ LitRel s fin g j o bs)
 case atStart => exact ⟨k,0,[],rfl,by omega,by omega,.inr ⟨rfl,rfl⟩,by omega,by simp,hR0,only_refl _ _,Own.nil _ _,by unfold LitRel;rw [Hf.out];unfold litAt;simp⟩
 case round =>
  obtain ⟨j,o,bs,rfl,hg,hjl,ho,hoj,hbl,hR,hO,hown,A⟩ := hrel;have A := Lib.hid A;rename_i A0;clear A0 hR0;have ho := Lib.hid ho;rename_i ho0;clear ho0;have hsz := hO.size;obtain ⟨g,rfl⟩ : ∃ g,gk = g + 1 := ⟨gk - 1,by omega⟩;obtain ⟨c0,c1,c2,c3,c4,c5⟩ := hR.cs;obtain ⟨f1,f2,f3,f4,f5⟩ := hR.fs;by_cases hlt : j < s.length
  · have tlt : decide ((j : Int) < (s.length : Int)) = true := by rw [decide_eq_true_eq];omega
    go_wp2_with fail;go_quiet (fail);go_wp2_with fail;go_quiet (fail);by_cases h40 : s[j].toNat = 40
    · have t40 : ((s[j].toNat : Int) == 40) = true := by rw [beq_iff_eq];omega
      have G40 := Lib.hid h40;clear h40;by_cases ho0 : o = 0
      · subst ho0;go_wp2_with fail
        go_roundg g
        case measure => omega
        case rel =>
         refine ⟨j + 1,1,bs,rfl,by omega,by omega,.inl (Nat.le_refl _),by omega,by omega,hR.at_ (j + 1) rfl,(by repeat first | exact hO | refine only_drewN ?_ _ | refine only_set ?_ _ _ | refine only_drew ?_),(by repeat first | exact hown | refine Own.alloc ?_ _ | refine Own.set ?_ (by simp;exact hrB) _ | refine Own.drewN ?_ _ | refine Own.drew ?_),?_⟩;exact A.out.step [] (by simp) 1 rfl (by rw [drop_at hlt,litM_open0 G40.out];simp)
      have to1 : ((o : Int) + 1 == 1) = false := by rw [beq_eq_false_iff_ne];omega
      go_wp2_with (at_builtin;refine wp_app_byte _ rfl _ _ rfl w.heap.size _ bs rfl ?c0 (s[j]) _ rfl ?c1 ?c2 ?c3 ?_)
      case c0 => exact (by repeat first | exact hown | refine Own.alloc ?_ _ | refine Own.set ?_ (by simp;exact hrB) _ | refine Own.drewN ?_ _ | refine Own.drew ?_)
      case c1 => exact cell_new_byte _ _ _ (by simp)
      case c2 => omega
      case c3 => first | (simp;omega) | omega
      intro v1 w1 hown1 hg1;have hR1 : Rd w1 r s (j + 1) bad deep odd ends := Blk.grown (Blk.alloc ((hR.dr _).at_ (j + 1) rfl) _) hg1 (fun e => by have := (hown.lt r e.symm).1;omega);have hO1 : Only w w1 r := only_grown (only_alloc (by repeat first | exact hO | refine only_drewN ?_ _ | refine only_set ?_ _ _ | refine only_drew ?_) _) hg1 (fun q e => (hown.lt q e).1);clear c0 c1 c2 c3 c4 c5 f1 f2 f3 f4 f5 hR hO hown hg1;go_wp2_with fail
      go_roundg g
      case measure => omega
      case rel =>
       refine ⟨j + 1,o + 1,bs ++ [s[j]],?_,by omega,by omega,.inl (by omega),by omega,by simp;omega,hR1,hO1,hown1,?_⟩
       · first | rfl | go_num | (congr 1;omega)
       exact A.out.step [s[j]] rfl 1 rfl (by rw [drop_at hlt,litM_open G40.out (by omega)];simp)
    have t40 : ((s[j].toNat : Int) == 40) = false := by rw [beq_eq_false_iff_ne];omega
    have ho1 : 1 ≤ o := by
     rcases ho.out with h | ⟨h,_⟩
     · exact h
     subst h;exact absurd H40.out h40
    by_cases h41 : s[j].toNat = 41
    · have t41 : ((s[j].toNat : Int) == 41) = true := by rw [beq_iff_eq];omega
      have G41 := Lib.hid h41;clear h41;by_cases ho2 : o = 1
      · subst ho2;have hcv : ∀ n x,(convert 40 9 u3).run Tryz.prog ((wr.drewN n).setCell ⟨r,1,none⟩ x) = .ok (S bs) ((wr.drewN n).setCell ⟨r,1,none⟩ x) := fun n x => run_str_own (Own.set (Own.drewN hown n) hrB x)
        go_wp2_with fail;go_ret;refine .inl ⟨bs,j + 1,?_,rfl,by omega,hR.at_ (j + 1) rfl,(by repeat first | exact hO | refine only_drewN ?_ _ | refine only_set ?_ _ _ | refine only_drew ?_)⟩;have A1 := A.out;unfold LitRel at A1;rw [A1,drop_at hlt,litM_end G41.out];simp [Nat.add_comm]
      have to1 : ((o : Int) - 1 == 0) = false := by rw [beq_eq_false_iff_ne];omega
      go_wp2_with (at_builtin;refine wp_app_byte _ rfl _ _ rfl w.heap.size _ bs rfl ?c0 (s[j]) _ rfl ?c1 ?c2 ?c3 ?_)
      case c0 => exact (by repeat first | exact hown | refine Own.alloc ?_ _ | refine Own.set ?_ (by simp;exact hrB) _ | refine Own.drewN ?_ _ | refine Own.drew ?_)
      case c1 => exact cell_new_byte _ _ _ (by simp)
      case c2 => omega
      case c3 => first | (simp;omega) | omega
      intro v1 w1 hown1 hg1;have hR1 : Rd w1 r s (j + 1) bad deep odd ends := Blk.grown (Blk.alloc ((hR.dr _).at_ (j + 1) rfl) _) hg1 (fun e => by have := (hown.lt r e.symm).1;omega);have hO1 : Only w w1 r := only_grown (only_alloc (by repeat first | exact hO | refine only_drewN ?_ _ | refine only_set ?_ _ _ | refine only_drew ?_) _) hg1 (fun q e => (hown.lt q e).1);clear c0 c1 c2 c3 c4 c5 f1 f2 f3 f4 f5 hR hO hown hg1;go_wp2_with fail
      go_roundg g
      case measure => omega
      case rel =>
       refine ⟨j + 1,o - 1,bs ++ [s[j]],?_,by omega,by omega,.inl (by omega),by omega,by simp;omega,hR1,hO1,hown1,?_⟩
       · first | rfl | go_num | (congr 1;omega)
       exact A.out.step [s[j]] rfl 1 rfl (by rw [drop_at hlt,litM_shut G41.out ho2];simp)
    have t41 : ((s[j].toNat : Int) == 41) = false := by rw [beq_eq_false_iff_ne];omega
    by_cases h13 : s[j].toNat = 13
    · have t13 : ((s[j].toNat : Int) == 13) = true := by rw [beq_iff_eq];omega
      have G13 := Lib.hid h13;clear h13;obtain ⟨m,hm⟩ : ∃ m,m = j + 1 := ⟨_,rfl⟩;have hm1 : j < m := by omega
      have hm2 : m ≤ s.length := by omega
      have Hm := Lib.hid hm;clear hm;go_wp2_with fail;refine wp_gen (fun wo => Rd wo r s m bad deep odd ends ∧ Only w wo r ∧ Own wo w.heap.size u3 bs) ⟨(hR.dr _).at_ m (by rw [Hm.out];rfl),(by repeat first | exact hO | refine only_drewN ?_ _ | refine only_set ?_ _ _ | refine only_drew ?_),(by repeat first | exact hown | refine Own.alloc ?_ _ | refine Own.set ?_ (by simp;exact hrB) _ | refine Own.drewN ?_ _ | refine Own.drew ?_)⟩ ?_;rintro w2 ⟨hR2,hO2,hown2⟩;clear c0 c1 c2 c3 c4 c5 f1 f2 f3 f4 f5 hR hO hown;have hR := hR2;have hO := hO2;have hown := hown2;clear hR2 hO2 hown2;obtain ⟨c0,c1,c2,c3,c4,c5⟩ := hR.cs;obtain ⟨f1,f2,f3,f4,f5⟩ := hR.fs;by_cases hl2 : m < s.length
      · have tl2 : decide ((m : Int) < (s.length : Int)) = true := by rw [decide_eq_true_eq];omega
        by_cases h10 : s[m].toNat = 10
        · have t10 : ((s[m].toNat : Int) == 10) = true := by rw [beq_iff_eq];omega
          have G10 := Lib.hid h10;clear h10;go_quiet (fail);go_wp2_with (at_builtin;refine wp_app_byte _ rfl _ _ rfl w.heap.size _ bs rfl ?c0 (10) _ rfl ?c1 ?c2 ?c3 ?_)
          case c0 => exact (by repeat first | exact hown | refine Own.alloc ?_ _ | refine Own.set ?_ (by simp;exact hrB) _ | refine Own.drewN ?_ _ | refine Own.drew ?_)
          case c1 => exact cell_new_byte _ (10) _ (by simp)
          case c2 => omega
          case c3 => have := hO.size;first | (simp;omega) | omega
          intro v1 w1 hown1 hg1;have hR1 : Rd w1 r s (m + 1) bad deep odd ends := Blk.grown (Blk.alloc ((hR.dr _).at_ (m + 1) rfl) _) hg1 (fun e => by have := (hown.lt r e.symm).1;omega);have hO1 : Only w w1 r := only_grown (only_alloc (by repeat first | exact hO | refine only_drewN ?_ _ | refine only_set ?_ _ _ | refine only_drew ?_) _) hg1 (fun q e => (hown.lt q e).1);clear c0 c1 c2 c3 c4 c5 f1 f2 f3 f4 f5 hR hO hown hg1;go_wp2_with fail
          go_roundg g
          case measure => omega
          case rel =>
           have hmj := Hm.out;have ho1' := ho1;refine ⟨m + 1,o,bs ++ [10],rfl,by omega,by omega,.inl ho1,by omega,by simp;omega,hR1,hO1,hown1,?_⟩;exact A.out.step [10] rfl 2 (by omega) (by rw [drop_at hlt,litM_crlf G13.out (by rw [← Hm.out,drop_at hl2];simp [List.getElem?_eq_getElem hl2,G10.out])];simp [List.drop_drop,← Hm.out])
        have t10 : ((s[m].toNat : Int) == 10) = false := by rw [beq_eq_false_iff_ne];omega
        go_quiet (fail);go_wp2_with (at_builtin;refine wp_app_byte _ rfl _ _ rfl w.heap.size _ bs rfl ?c0 (10) _ rfl ?c1 ?c2 ?c3 ?_)
        case c0 => exact (by repeat first | exact hown | refine Own.alloc ?_ _ | refine Own.set ?_ (by simp;exact hrB) _ | refine Own.drewN ?_ _ | refine Own.drew ?_)
        case c1 => exact cell_new_byte _ (10) _ (by simp)
        case c2 => omega
        case c3 => have := hO.size;first | (simp;omega) | omega
        intro v1 w1 hown1 hg1;have hR1 : Rd w1 r s (m) bad deep odd ends := Blk.grown (Blk.alloc (hR.dr _) _) hg1 (fun e => by have := (hown.lt r e.symm).1;omega);have hO1 : Only w w1 r := only_grown (only_alloc (by repeat first | exact hO | refine only_drewN ?_ _ | refine only_set ?_ _ _ | refine only_drew ?_) _) hg1 (fun q e => (hown.lt q e).1);clear c0 c1 c2 c3 c4 c5 f1 f2 f3 f4 f5 hR hO hown hg1;go_wp2_with fail
        go_roundg g
        case measure => omega
        case rel =>
         have hmj := Hm.out;have ho1' := ho1;refine ⟨m,o,bs ++ [10],rfl,by omega,by omega,.inl ho1,by omega,by simp;omega,hR1,hO1,hown1,?_⟩;exact A.out.step [10] rfl 1 (by omega) (by rw [drop_at hlt,litM_cr G13.out (by rw [← Hm.out,drop_at hl2];simp [List.getElem?_eq_getElem hl2,h10])];simp [← Hm.out])
      have tl2 : decide ((m : Int) < (s.length : Int)) = false := by rw [decide_eq_false_iff_not];omega
      go_quiet (fail);go_wp2_with (at_builtin;refine wp_app_byte _ rfl _ _ rfl w.heap.size _ bs rfl ?c0 (10) _ rfl ?c1 ?c2 ?c3 ?_)
      case c0 => exact (by repeat first | exact hown | refine Own.alloc ?_ _ | refine Own.set ?_ (by simp;exact hrB) _ | refine Own.drewN ?_ _ | refine Own.drew ?_)
      case c1 => exact cell_new_byte _ (10) _ (by simp)
      case c2 => omega
      case c3 => have := hO.size;first | (simp;omega) | omega
      intro v1 w1 hown1 hg1;have hR1 : Rd w1 r s (m) bad deep odd ends := Blk.grown (Blk.alloc (hR.dr _) _) hg1 (fun e => by have := (hown.lt r e.symm).1;omega);have hO1 : Only w w1 r := only_grown (only_alloc (by repeat first | exact hO | refine only_drewN ?_ _ | refine only_set ?_ _ _ | refine only_drew ?_) _) hg1 (fun q e => (hown.lt q e).1);clear c0 c1 c2 c3 c4 c5 f1 f2 f3 f4 f5 hR hO hown hg1;go_wp2_with fail
      go_roundg g
      case measure => omega
      case rel =>
       have hmj := Hm.out;have ho1' := ho1;refine ⟨m,o,bs ++ [10],rfl,by omega,by omega,.inl ho1,by omega,by simp;omega,hR1,hO1,hown1,?_⟩;exact A.out.step [10] rfl 1 (by omega) (by rw [drop_at hlt,litM_cr G13.out (by rw [← Hm.out,List.drop_eq_nil_of_le (by omega)];simp)];simp [← Hm.out])
    have t13 : ((s[j].toNat : Int) == 13) = false := by rw [beq_eq_false_iff_ne];omega
    by_cases h92 : s[j].toNat = 92
    · have t92 : ((s[j].toNat : Int) == 92) = true := by rw [beq_iff_eq];omega
      have G92 := Lib.hid h92;clear h92;go_wp2_with fail;refine (escape_any r s (j + 1) bad deep odd ends _ (by omega) hs ((hR.dr _).at_ (j + 1) rfl)).mono ?_;rintro e w1 ⟨rfl,hR1,hO1⟩;have hO2 : Only w w1 r := only_trans (by repeat first | exact hO | refine only_drewN ?_ _ | refine only_set ?_ _ _ | refine only_drew ?_) hO1;have hown2 : Own w1 w.heap.size u3 bs := Own.kept (by repeat first | exact hown | refine Own.alloc ?_ _ | refine Own.set ?_ (by simp;exact hrB) _ | refine Own.drewN ?_ _ | refine Own.drew ?_) hO1 (fun q e => by injection e with e;omega);have hle := escF_le (s.drop (j + 1));rw [List.length_drop] at hle;obtain ⟨ef,hef⟩ : ∃ ef,ef = escF (s.drop (j + 1)) := ⟨_,rfl⟩;rw [← hef] at hR1 hle ⊢;have He := Lib.hid hef;clear hef;obtain ⟨x,is,c⟩ := ef;simp only at hR1 hle ⊢;clear c0 c1 c2 c3 c4 c5 f1 f2 f3 f4 f5 hR hO hown;have hR := hR1;have hO := hO2;have hown := hown2;clear hR1 hO1 hO2 hown2
      cases is with
      | true =>
        go_wp2_with (at_builtin;refine wp_app_byte _ rfl _ _ rfl w.heap.size _ bs rfl ?c0 x _ rfl ?c1 ?c2 ?c3 ?_)
        case c0 => exact (by repeat first | exact hown | refine Own.alloc ?_ _ | refine Own.set ?_ (by simp;exact hrB) _ | refine Own.drewN ?_ _ | refine Own.drew ?_)
        case c1 => exact cell_new_byte _ _ _ (by simp)
        case c2 => omega
        case c3 => have := hO.size;first | (simp;omega) | omega
        intro v1 w1 hown1 hg1;have hR1 : Rd w1 r s (j + 1 + c) bad deep odd ends := Blk.grown (Blk.alloc hR _) hg1 (fun e => by have := (hown.lt r e.symm).1;omega);have hO1 : Only w w1 r := only_grown (only_alloc (by repeat first | exact hO | refine only_drewN ?_ _ | refine only_set ?_ _ _ | refine only_drew ?_) _) hg1 (fun q e => (hown.lt q e).1);clear hR hO hown hg1;go_wp2_with fail
        go_roundg g
        case measure => omega
        case rel =>
         refine ⟨j + 1 + c,o,bs ++ [x],rfl,by omega,by omega,.inl ho1,by omega,by simp;omega,hR1,hO1,hown1,?_⟩;refine A.out.step [x] rfl (1 + c) (by omega) ?_;rw [drop_at hlt,litM_esc G92.out (by rw [← He.out]),← He.out];simp [List.drop_drop,Nat.add_assoc]
      | false =>
        go_wp2_with fail
        go_roundg g
        case measure => omega
        case rel =>
         refine ⟨j + 1 + c,o,bs,rfl,by omega,by omega,.inl ho1,by omega,by omega,hR,hO,hown,?_⟩;refine A.out.step [] (by simp) (1 + c) (by omega) ?_;rw [drop_at hlt,litM_esc0 G92.out (by rw [← He.out]),← He.out];simp [List.drop_drop,Nat.add_assoc]
    have t92 : ((s[j].toNat : Int) == 92) = false := by rw [beq_eq_false_iff_ne];omega
    go_wp2_with (at_builtin;refine wp_app_byte _ rfl _ _ rfl w.heap.size _ bs rfl ?c0 (s[j]) _ rfl ?c1 ?c2 ?c3 ?_)
    case c0 => exact (by repeat first | exact hown | refine Own.alloc ?_ _ | refine Own.set ?_ (by simp;exact hrB) _ | refine Own.drewN ?_ _ | refine Own.drew ?_)
    case c1 => exact cell_new_byte _ _ _ (by simp)
    case c2 => omega
    case c3 => first | (simp;omega) | omega
    intro v1 w1 hown1 hg1;have hR1 : Rd w1 r s (j + 1) bad deep odd ends := Blk.grown (Blk.alloc ((hR.dr _).at_ (j + 1) rfl) _) hg1 (fun e => by have := (hown.lt r e.symm).1;omega);have hO1 : Only w w1 r := only_grown (only_alloc (by repeat first | exact hO | refine only_drewN ?_ _ | refine only_set ?_ _ _ | refine only_drew ?_) _) hg1 (fun q e => (hown.lt q e).1);clear c0 c1 c2 c3 c4 c5 f1 f2 f3 f4 f5 hR hO hown hg1;go_wp2_with fail
    go_roundg g
    case measure => omega
    case rel =>
     refine ⟨j + 1,o,bs ++ [s[j]],?_,by omega,by omega,.inl (by omega),by omega,by simp;omega,hR1,hO1,hown1,?_⟩
     · first | rfl | go_num | (congr 1;omega)
     exact A.out.step [s[j]] rfl 1 rfl (by rw [drop_at hlt,litM_else h40 h41 h13 h92];simp)
  have tlt : decide ((j : Int) < (s.length : Int)) = false := by rw [decide_eq_false_iff_not];omega
  have hfin : fin = none := by
   have A1 := A.out;unfold LitRel at A1;rw [A1,List.drop_eq_nil_of_le (by omega)];rfl
  have hje : j = s.length := by omega
  clear ho;go_wp2_with fail;go_quiet (fail);go_wp2_with fail;refine (fail_any r s j bad deep 1 odd true _ ((hR.dr _).ends_ true rfl)).mono ?_;rintro e w1 ⟨rfl,hR1,hO1⟩;have hO2 : Only w w1 r := only_trans (by repeat first | exact hO | refine only_drewN ?_ _ | refine only_set ?_ _ _ | refine only_drew ?_) hO1;go_wp2_with fail;go_ret;exact .inr ⟨hfin,rfl,hje ▸ hR1,hO2⟩
end Go.Proofs.YtcpijmbdibgdmaaGreatDoor
namespace Go.Proofs.YtcpijmbdibgdmaaGreatDoor
open Go.RowKit
attribute [local go_sem] ba_get
def hexM : List UInt8 → Nat → Bool → Bool → Nat × List UInt8 × Nat × Bool
 | [],_,_,o => (1,[],0,o)
 | b :: l,h,d,o =>
   if b.toNat = 62 then (0,if d = true then [UInt8.ofNat (h * 16)] else [],1,o)
   else if whiteB b = true then ((hexM l h d (o || d || b.toNat == 0)).1,(hexM l h d (o || d || b.toNat == 0)).2.1,(hexM l h d (o || d || b.toNat == 0)).2.2.1 + 1,(hexM l h d (o || d || b.toNat == 0)).2.2.2)
   else if hexV b < 0 then (2,[],1,o)
   else if d = true then ((hexM l h false o).1,UInt8.ofNat (h * 16 + (hexV b).toNat) :: (hexM l h false o).2.1,(hexM l h false o).2.2.1 + 1,(hexM l h false o).2.2.2)
   else ((hexM l (hexV b).toNat true o).1,(hexM l (hexV b).toNat true o).2.1,(hexM l (hexV b).toNat true o).2.2.1 + 1,(hexM l (hexV b).toNat true o).2.2.2)
def hexAt (s : List UInt8) (k : Nat) (odd : Bool) : Nat × List UInt8 × Nat × Bool :=
 ((hexM (s.drop (k + 1)) 0 false odd).1,(hexM (s.drop (k + 1)) 0 false odd).2.1,(hexM (s.drop (k + 1)) 0 false odd).2.2.1 + (k + 1),(hexM (s.drop (k + 1)) 0 false odd).2.2.2)
def HexRel (s : List UInt8) (fin : Nat × List UInt8 × Nat × Bool) (j h : Nat) (d o : Bool) (bs : List UInt8) : Prop :=
 fin = ((hexM (s.drop j) h d o).1,bs ++ (hexM (s.drop j) h d o).2.1,(hexM (s.drop j) h d o).2.2.1 + j,(hexM (s.drop j) h d o).2.2.2)
def HexPost (w : World) (r : Nat) (s : List UInt8) (bad deep : Nat) (ends : Bool) (fin : Nat × List UInt8 × Nat × Bool) (e : Ending) (w' : World) : Prop :=
 e = .returned (S (if fin.1 = 0 then fin.2.1 else [])) ∧ fin.2.2.1 ≤ s.length ∧ Rd w' r s fin.2.2.1 (if fin.1 = 0 then bad else if bad = 0 then fin.1 else bad) deep fin.2.2.2 ends ∧ Only w w' r
theorem hexV_rng (b : UInt8) : -1 ≤ hexV b ∧ hexV b ≤ 15 := by unfold hexV;(repeat' split) <;> omega
theorem u8_val {n : Int} {m : Nat} (h : n = m) (hm : m < 256) : Value.int .u8 n = bcell (UInt8.ofNat m) := by
 subst h;simp [bcell,Nat.mod_eq_of_lt hm]
theorem cell_new_val (w : World) (v : Value) (c : UInt8) (g : Nat) (hg : g = w.heap.size) (hv : v = bcell c) : (w.alloc (.cells #[v] 5)).cell? ⟨g,0,none⟩ = some (bcell c) := by
 subst hg hv;exact Blk.cell (Blk.new w 5 #[bcell c]) 0
theorem hex_read (r : Nat) (s : List UInt8) (k bad deep : Nat) (odd ends : Bool) (w : World) (hk : k < s.length) (hs : s.length ≤ 268435456) (hR0 : Rd w r s k bad deep odd ends) :
 Calls Tryz.prog 45 #[.pointer (some ⟨r,0,none⟩)] w (HexPost w r s bad deep ends (hexAt s k odd)) := by
 have hrB : r < w.heap.size := Blk.lt hR0;obtain ⟨fin,hfin⟩ : ∃ fin,fin = hexAt s k odd := ⟨_,rfl⟩;rw [← hfin];have Hf := Lib.hid hfin;clear hfin;obtain ⟨c0,c1,c2,c3,c4,c5⟩ := hR0.cs;obtain ⟨f1,f2,f3,f4,f5⟩ := hR0.fs;go_enter Tryz.func45,Tryz.ntmps45;go_wp2_with fail
 go_loopg [3,4,5] (s.length - (k + 1)) (fun g v u x wr => ∃ j h bs d o,u = .int .i64 ((h : Nat) : Int) ∧ x = .bool d ∧ h ≤ 15 ∧ g + j = s.length ∧ bs.length ≤ j ∧ Rd wr r s j bad deep o ends ∧ Only w wr r ∧ Own wr w.heap.size v bs ∧ HexRel s fin j h d o bs)
 case atStart => exact ⟨k + 1,0,[],false,odd,rfl,rfl,by omega,by omega,by simp,hR0.at_ (k + 1) rfl,only_set (only_refl _ _) _ _,Own.nil _ _,by unfold HexRel;rw [Hf.out];unfold hexAt;simp⟩
 case round =>
  obtain ⟨j,h,bs,d,o,rfl,rfl,hh,hg,hbl,hR,hO,hown,A⟩ := hrel;have A := Lib.hid A;rename_i A0;clear A0 hR0 c0 c1 c2 c3 c4 c5 f1 f2 f3 f4 f5;have hsz := hO.size;have hjl : j ≤ s.length := by omega
  have hg := Lib.hid hg;rename_i hg0;clear hg0;obtain ⟨c0,c1,c2,c3,c4,c5⟩ := hR.cs;obtain ⟨f1,f2,f3,f4,f5⟩ := hR.fs;by_cases hlt : j < s.length
  · have tlt : decide ((j : Int) < (s.length : Int)) = true := by rw [decide_eq_true_eq];omega
    go_wp2_with fail;go_quiet (fail);go_wp2_with fail;go_quiet (fail);by_cases h62 : s[j].toNat = 62
    · have t62 : ((s[j].toNat : Int) == 62) = true := by rw [beq_iff_eq];omega
      have G62 := Lib.hid h62;clear h62
      have E : Hid (fin = (0,bs ++ (if d = true then [UInt8.ofNat (h * 16)] else []),1 + j,o)) := Lib.hid (by
       have A1 := A.out
       unfold HexRel at A1
       rw [A1,drop_at hlt,hexM,if_pos G62.out])
      cases d with
      | false =>
        have hcv : ∀ n x,(convert 40 9 u3).run Tryz.prog ((wr.drewN n).setCell ⟨r,1,none⟩ x) = .ok (S bs) ((wr.drewN n).setCell ⟨r,1,none⟩ x) := fun n x => run_str_own (Own.set (Own.drewN hown n) hrB x)
        go_wp2_with fail;go_ret;unfold HexPost;rw [E.out];exact ⟨by simp,by simp only;omega,by rw [if_pos rfl,Nat.add_comm 1 j];exact hR.at_ (j + 1) rfl,(by repeat first | exact hO | refine only_drewN ?_ _ | refine only_set ?_ _ _ | refine only_drew ?_)⟩
      | true =>
        obtain ⟨x,hx⟩ : ∃ x,x = UInt8.ofNat (h * 16) := ⟨_,rfl⟩;have HX := Lib.hid hx;rw [if_pos rfl,← hx] at E;clear hx;go_wp2_with (at_builtin;refine wp_app_byte _ rfl _ _ rfl w.heap.size _ bs rfl ?c0 x _ rfl ?c1 ?c2 ?c3 ?_)
        case c0 => exact (by repeat first | exact hown | refine Own.alloc ?_ _ | refine Own.set ?_ (by simp;exact hrB) _ | refine Own.drewN ?_ _ | refine Own.drew ?_)
        case c1 =>
         refine cell_new_val _ _ x _ (by simp) ?_;rw [HX.out];exact u8_val (by omega) (by omega)
        case c2 => omega
        case c3 => first | (simp;omega) | omega
        intro v1 w1 hown1 hg1;have hR1 : Rd w1 r s (j + 1) bad deep o ends := Blk.grown (Blk.alloc ((hR.dr _).at_ (j + 1) rfl) _) hg1 (fun e => by have := (hown.lt r e.symm).1;omega);have hO1 : Only w w1 r := only_grown (only_alloc (by repeat first | exact hO | refine only_drewN ?_ _ | refine only_set ?_ _ _ | refine only_drew ?_) _) hg1 (fun q e => (hown.lt q e).1);have hcv : (convert 40 9 v1).run Tryz.prog w1 = .ok (S (bs ++ [x])) w1 := run_str_own hown1;clear c0 c1 c2 c3 c4 c5 f1 f2 f3 f4 f5 hR hO hown;go_wp2_with fail;go_ret;unfold HexPost;rw [E.out];exact ⟨by simp,by simp only;omega,by rw [if_pos rfl,Nat.add_comm 1 j];exact hR1,hO1⟩
    have t62 : ((s[j].toNat : Int) == 62) = false := by rw [beq_eq_false_iff_ne];omega
    cases hw : whiteB s[j] with
    | true =>
      have HW := Lib.hid hw;clear hw
      have E : Hid (HexRel s fin (j + 1) h d (o || d || s[j].toNat == 0) bs) := Lib.hid (by
       have A1 := A.out
       unfold HexRel at A1 ⊢
       rw [A1,drop_at hlt,hexM,if_neg h62,if_pos HW.out]
       simp [Nat.add_assoc,Nat.add_comm 1])
      cases o with
      | true =>
        cases d
        all_goals
         go_wp2_with (go_at_call 67;refine (white_any s[j] _).mono ?_;rintro e w5 ⟨rfl,rfl⟩;simp only [HW.out])
         go_roundg (gk - 1)
         case measure => have := hg.out;omega
         case rel =>
          refine ⟨j + 1,h,bs,_,_,rfl,rfl,hh,by have := hg.out;omega,by omega,Rd.odd_ (((hR.dr _).at_ (j + 1) rfl)) true rfl,(by repeat first | exact hO | refine only_drewN ?_ _ | refine only_set ?_ _ _ | refine only_drew ?_),(by repeat first | exact hown | refine Own.alloc ?_ _ | refine Own.set ?_ (by simp;exact hrB) _ | refine Own.drewN ?_ _ | refine Own.drew ?_),?_⟩;simpa using E.out
      | false =>
        cases d with
        | true =>
          go_wp2_with (go_at_call 67;refine (white_any s[j] _).mono ?_;rintro e w5 ⟨rfl,rfl⟩;simp only [HW.out])
          go_roundg (gk - 1)
          case measure => have := hg.out;omega
          case rel =>
           refine ⟨j + 1,h,bs,_,_,rfl,rfl,hh,by have := hg.out;omega,by omega,Rd.odd_ (((hR.dr _).at_ (j + 1) rfl)) true rfl,(by repeat first | exact hO | refine only_drewN ?_ _ | refine only_set ?_ _ _ | refine only_drew ?_),(by repeat first | exact hown | refine Own.alloc ?_ _ | refine Own.set ?_ (by simp;exact hrB) _ | refine Own.drewN ?_ _ | refine Own.drew ?_),?_⟩;simpa using E.out
        | false =>
          by_cases h0 : s[j].toNat = 0
          · have t0 : ((s[j].toNat : Int) == 0) = true := by rw [beq_iff_eq];omega
            rw [show (s[j].toNat == 0) = true by rw [beq_iff_eq];exact h0] at E;clear h0;go_wp2_with (go_at_call 67;refine (white_any s[j] _).mono ?_;rintro e w5 ⟨rfl,rfl⟩;simp only [HW.out])
            go_roundg (gk - 1)
            case measure => have := hg.out;omega
            case rel =>
             refine ⟨j + 1,h,bs,_,_,rfl,rfl,hh,by have := hg.out;omega,by omega,Rd.odd_ (((hR.dr _).at_ (j + 1) rfl)) true rfl,(by repeat first | exact hO | refine only_drewN ?_ _ | refine only_set ?_ _ _ | refine only_drew ?_),(by repeat first | exact hown | refine Own.alloc ?_ _ | refine Own.set ?_ (by simp;exact hrB) _ | refine Own.drewN ?_ _ | refine Own.drew ?_),?_⟩;simpa using E.out
          have t0 : ((s[j].toNat : Int) == 0) = false := by rw [beq_eq_false_iff_ne];omega
          rw [show (s[j].toNat == 0) = false by rw [beq_eq_false_iff_ne];exact h0] at E;go_wp2_with (go_at_call 67;refine (white_any s[j] _).mono ?_;rintro e w5 ⟨rfl,rfl⟩;simp only [HW.out])
          go_roundg (gk - 1)
          case measure => have := hg.out;omega
          case rel =>
           refine ⟨j + 1,h,bs,_,_,rfl,rfl,hh,by have := hg.out;omega,by omega,Rd.odd_ (((hR.dr _).at_ (j + 1) rfl)) false rfl,(by repeat first | exact hO | refine only_drewN ?_ _ | refine only_set ?_ _ _ | refine only_drew ?_),(by repeat first | exact hown | refine Own.alloc ?_ _ | refine Own.set ?_ (by simp;exact hrB) _ | refine Own.drewN ?_ _ | refine Own.drew ?_),?_⟩;simpa using E.out
    | false =>
      have HW := Lib.hid hw;clear hw;have hv1 := hexV_rng s[j];by_cases hneg : hexV s[j] < 0
      · have tn : decide (hexV s[j] < 0) = true := by rw [decide_eq_true_eq];exact hneg
        have E : Hid (fin = (2,bs ++ [],1 + j,o)) := Lib.hid (by
         have A1 := A.out
         unfold HexRel at A1
         rw [A1,drop_at hlt,hexM,if_neg h62,if_neg (by simp [HW.out]),if_pos hneg])
        go_wp2_with (first | (go_at_call 67;refine (white_any s[j] _).mono ?_;rintro e w5 ⟨rfl,rfl⟩;simp only [HW.out]) | (go_at_call 73;refine (hex_any s[j] _).mono ?_;rintro e w6 ⟨rfl,rfl⟩));refine (fail_any r s (j + 1) bad deep 2 o ends _ ((hR.dr _).at_ (j + 1) rfl)).mono ?_;rintro e w1 ⟨rfl,hR1,hO1⟩;have hO2 : Only w w1 r := only_trans (by repeat first | exact hO | refine only_drewN ?_ _ | refine only_set ?_ _ _ | refine only_drew ?_) hO1;clear c0 c1 c2 c3 c4 c5 f1 f2 f3 f4 f5 hR hO hown;go_wp2_with fail;go_ret;unfold HexPost;rw [E.out];exact ⟨rfl,by simp only;omega,by rw [Nat.add_comm 1 j];exact hR1,hO2⟩
      have tn : decide (hexV s[j] < 0) = false := by rw [decide_eq_false_iff_not];exact hneg
      obtain ⟨q,hq⟩ : ∃ q : Nat,hexV s[j] = q := ⟨(hexV s[j]).toNat,by omega⟩;have HQ := Lib.hid hq;have hq15 : q ≤ 15 := by omega
      clear hq tn hv1 hneg
      cases d with
      | true =>
        obtain ⟨x,hx⟩ : ∃ x,x = UInt8.ofNat (h * 16 + q) := ⟨_,rfl⟩;have HX := Lib.hid hx;clear hx
        have E : Hid (HexRel s fin (j + 1) h false o (bs ++ [x])) := Lib.hid (by
         have A1 := A.out
         unfold HexRel at A1 ⊢
         rw [A1,drop_at hlt,hexM,if_neg h62,if_neg (by simp [HW.out]),if_neg (by rw [HQ.out];omega),if_pos rfl,HQ.out,HX.out]
         simp [Nat.add_assoc,Nat.add_comm 1])
        go_wp2_with (first | (go_at_call 67;refine (white_any s[j] _).mono ?_;rintro e w5 ⟨rfl,rfl⟩;simp only [HW.out]) | (go_at_call 73;refine (hex_any s[j] _).mono ?_;rintro e w6 ⟨rfl,rfl⟩;simp only [HQ.out]) | (at_builtin;refine wp_app_byte _ rfl _ _ rfl w.heap.size _ bs rfl ?c0 x _ rfl ?c1 ?c2 ?c3 ?_))
        case c0 => exact (by repeat first | exact hown | refine Own.alloc ?_ _ | refine Own.set ?_ (by simp;exact hrB) _ | refine Own.drewN ?_ _ | refine Own.drew ?_)
        case c1 =>
         refine cell_new_val _ _ x _ (by simp) ?_;rw [HX.out];exact u8_val (by omega) (by omega)
        case c2 => omega
        case c3 => first | (simp;omega) | omega
        intro v1 w1 hown1 hg1;have hR1 : Rd w1 r s (j + 1) bad deep o ends := Blk.grown (Blk.alloc ((hR.dr _).at_ (j + 1) rfl) _) hg1 (fun e => by have := (hown.lt r e.symm).1;omega);have hO1 : Only w w1 r := only_grown (only_alloc (by repeat first | exact hO | refine only_drewN ?_ _ | refine only_set ?_ _ _ | refine only_drew ?_) _) hg1 (fun q e => (hown.lt q e).1);clear c0 c1 c2 c3 c4 c5 f1 f2 f3 f4 f5 hR hO hown;go_wp2_with fail
        go_roundg (gk - 1)
        case measure => have := hg.out;omega
        case rel =>
         exact ⟨j + 1,h,_,_,_,rfl,rfl,hh,by have := hg.out;omega,by simp;omega,hR1,hO1,hown1,E.out⟩
      | false =>
        have E : Hid (HexRel s fin (j + 1) q true o bs) := Lib.hid (by
         have A1 := A.out
         unfold HexRel at A1 ⊢
         rw [A1,drop_at hlt,hexM,if_neg h62,if_neg (by simp [HW.out]),if_neg (by rw [HQ.out];omega),if_neg (by simp),HQ.out]
         simp [Nat.add_assoc,Nat.add_comm 1])
        go_wp2_with (first | (go_at_call 67;refine (white_any s[j] _).mono ?_;rintro e w5 ⟨rfl,rfl⟩;simp only [HW.out]) | (go_at_call 73;refine (hex_any s[j] _).mono ?_;rintro e w6 ⟨rfl,rfl⟩;simp only [HQ.out]))
        go_roundg (gk - 1)
        case measure => have := hg.out;omega
        case rel =>
         exact ⟨j + 1,q,bs,_,_,rfl,rfl,hq15,by have := hg.out;omega,by omega,(hR.dr _).at_ (j + 1) rfl,(by repeat first | exact hO | refine only_drewN ?_ _ | refine only_set ?_ _ _ | refine only_drew ?_),(by repeat first | exact hown | refine Own.alloc ?_ _ | refine Own.set ?_ (by simp;exact hrB) _ | refine Own.drewN ?_ _ | refine Own.drew ?_),E.out⟩
  have tlt : decide ((j : Int) < (s.length : Int)) = false := by rw [decide_eq_false_iff_not];omega
  have E : Hid (fin = (1,bs ++ [],0 + j,o)) := Lib.hid (by
   have A1 := A.out
   unfold HexRel at A1
   rw [A1,List.drop_eq_nil_of_le (by omega),hexM])
  go_wp2_with fail;go_quiet (fail);go_wp2_with fail;refine (fail_any r s j bad deep 1 o ends _ (hR.dr _)).mono ?_;rintro e w1 ⟨rfl,hR1,hO1⟩;have hO2 : Only w w1 r := only_trans (by repeat first | exact hO | refine only_drewN ?_ _ | refine only_set ?_ _ _ | refine only_drew ?_) hO1;clear c0 c1 c2 c3 c4 c5 f1 f2 f3 f4 f5 hR hO hown;go_wp2_with fail;go_ret;unfold HexPost;rw [E.out];exact ⟨rfl,by simp only;omega,by rw [Nat.zero_add];exact hR1,hO2⟩
end Go.Proofs.YtcpijmbdibgdmaaGreatDoor
namespace Go.Proofs.YtcpijmbdibgdmaaGreatDoor
open Go.RowKit
def wordR : List UInt8 → Bool → Nat × Bool
 | [],o => (0,o)
 | b :: l,o => if regB b = true then ((wordR l (o || !plainB b)).1 + 1,(wordR l (o || !plainB b)).2) else (0,o)
theorem wordR_cons_pos {b : UInt8} {l : List UInt8} {o : Bool} (h : regB b = true) : wordR (b :: l) o = ((wordR l (o || !plainB b)).1 + 1,(wordR l (o || !plainB b)).2) := by rw [wordR,if_pos h]
theorem wordR_cons_neg {b : UInt8} {l : List UInt8} {o : Bool} (h : regB b = false) : wordR (b :: l) o = (0,o) := by rw [wordR,if_neg (by simp [h])]
def shutB (b : UInt8) : Bool := decide (b.toNat = 123 ∨ b.toNat = 125 ∨ b.toNat = 41)
def shutAt : List UInt8 → Bool
 | [] => false
 | b :: _ => shutB b
attribute [local go_sem] ba_get
theorem word_any (r : Nat) (s : List UInt8) (k bad deep : Nat) (odd ends : Bool) (w : World) (hk : k ≤ s.length) (hs : s.length ≤ 268435456) (h : Rd w r s k bad deep odd ends) :
 Calls Tryz.prog 35 #[.pointer (some ⟨r,0,none⟩)] w fun e w' => e = .returned (S ((s.drop k).take (wordR (s.drop k) odd).1)) ∧
  Rd w' r s (k + (wordR (s.drop k) odd).1) bad deep ((wordR (s.drop k) odd).2 || shutAt (s.drop (k + (wordR (s.drop k) odd).1))) ends ∧ Only w w' r := by
 have c1 := h.c1;go_enter Tryz.func35,Tryz.ntmps35;go_wp2_with fail
 go_loopg [] (s.length - k) (fun g wr => ∃ j o,g + j = s.length ∧ k ≤ j ∧ Rd wr r s j bad deep o ends ∧ Only w wr r ∧ j + (wordR (s.drop j) o).1 = k + (wordR (s.drop k) odd).1 ∧ (wordR (s.drop j) o).2 = (wordR (s.drop k) odd).2)
 case atStart => exact ⟨k,odd,by omega,Nat.le_refl _,h,only_refl _ _,rfl,rfl⟩
 case round =>
  obtain ⟨j,o,hg,hkj,hR,hO,A⟩ := hrel;have A := Lib.hid A;rename_i A0;clear A0 c1 h;have hjl : j ≤ s.length := by omega
  have hg := Lib.hid hg;rename_i hg0;clear hg0;have c0 := hR.c0;have c1 := hR.c1;have c4 := hR.c4;have f1 := hR.fz 1;have f4 := hR.fz 4;by_cases hlt : j < s.length
  · go_wp2_with fail;go_quiet ((go_at_call 71;exact Calls.quiet_of_same ((reg_any s[j] _).mono fun _ _ ⟨a,b⟩ => ⟨a,b.symm⟩)))
    cases hr : regB s[j] with
    | true =>
      go_wp2_with fail;refine region_tailq 18 (by kernel_rfl) (by kernel_rfl) ?_;intro w2 e2;have hR2 : Rd w2 r s j bad deep o ends := by rw [e2];exact hR
      have hO2 : Only w w2 r := by rw [e2];exact only_drew (only_drewN hO _)
      clear e2 c0 c1 c4 f1 f4 hR hO;have hR := hR2;have hO := hO2;clear hR2 hO2;have c0 := hR.c0;have c1 := hR.c1;have c4 := hR.c4;have f1 := hR.fz 1;have f4 := hR.fz 4;simp only [List.take_succ_cons,List.take_zero,List.drop_succ_cons,List.drop_zero]
      cases o with
      | false =>
        repeat (go_big_quiet_step (fail))
        go_big_quiet_want;go_big_quiet_op
        refine ⟨_,(plain_any s[j] _).mono fun _ _ ⟨a,b⟩ => ⟨a,b.symm⟩,?_⟩
        go_big_quiet_on
        repeat (go_big_quiet_step (fail))
        refine wpQuiet_nil ?_;go_wp2_with fail
        go_roundg (gk - 1)
        case measure => have := hg.out;omega
        case rel =>
         have A1 := A.out;rw [drop_at hlt,wordR_cons_pos hr] at A1;refine ⟨j + 1,!plainB s[j],by have := hg.out;omega,by omega,(hR.odd_ _ rfl).at_ _ rfl,only_set (only_set hO _ _) _ _,?_⟩;simpa [Nat.add_assoc,Nat.add_comm 1] using A1
      | true =>
        repeat (go_big_quiet_step (fail))
        refine wpQuiet_nil ?_;go_wp2_with fail
        go_roundg (gk - 1)
        case measure => have := hg.out;omega
        case rel =>
         have A1 := A.out;rw [drop_at hlt,wordR_cons_pos hr] at A1;refine ⟨j + 1,true,by have := hg.out;omega,by omega,(hR.odd_ _ rfl).at_ _ rfl,only_set (only_set hO _ _) _ _,?_⟩;simpa [Nat.add_assoc,Nat.add_comm 1] using A1
    | false =>
      have e0 : wordR (s.drop j) o = (0,o) := by rw [drop_at hlt];exact wordR_cons_neg hr
      have hj : j = k + (wordR (s.drop k) odd).1 := by have A1 := A.out.1;rw [e0] at A1;exact A1
      have ho : (wordR (s.drop k) odd).2 = o := by have A1 := A.out.2;rw [e0] at A1;exact A1.symm
      have hfin : Hid (∀ b,(o || shutB s[j]) = b → ∀ w',Rd w' r s j bad deep b ends → Rd w' r s (k + (wordR (s.drop k) odd).1) bad deep ((wordR (s.drop k) odd).2 || shutAt (s.drop (k + (wordR (s.drop k) odd).1))) ends) := by
       intro b hb w' hw;rw [← hj,ho,drop_at hlt];show Rd w' r s j bad deep (o || shutB s[j]) ends;rw [hb];exact hw
      have hres : Hid ((s.drop k).take (j - k) = (s.drop k).take (wordR (s.drop k) odd).1) := Lib.hid (by rw [hj];simp);clear e0 hj ho hr A;go_wp2_with fail
      cases o with
      | true =>
        refine region_tailq 53 (by kernel_rfl) (by kernel_rfl) ?_;intro w2 e2;have hR2 : Rd w2 r s j bad deep true ends := by rw [e2];exact hR
        have hO2 : Only w w2 r := by rw [e2];exact only_drew (only_drewN hO _)
        clear e2 c0 c1 c4 f1 f4 hR hO;have hR := hR2;have hO := hO2;clear hR2 hO2;have c0 := hR.c0;have c1 := hR.c1;have c4 := hR.c4;have f1 := hR.fz 1;have f4 := hR.fz 4;simp only [List.take_succ_cons,List.take_zero,List.drop_succ_cons,List.drop_zero]
        repeat (go_big_quiet_step (fail))
        refine wpQuiet_nil ?_;go_wp2_with fail;have hR3 := hR.odd_ true rfl;have hO3 := only_set hO 4 (.bool true);generalize w2.setCell ⟨r,4,none⟩ (.bool true) = w3 at hR3 hO3 ⊢;clear c0 c1 c4 f1 f4 hR hO;have hR := hR3;have hO := hO3;clear hR3 hO3;have c0 := hR.c0;have c1 := hR.c1;have c4 := hR.c4;have f1 := hR.fz 1;have f4 := hR.fz 4;go_quiet (fail);go_wp2_with fail;go_ret;exact ⟨ret_ext hres.out,hfin.out true (by simp [shutB];try omega) _ hR,only_drewN hO _⟩
      | false =>
        by_cases q123 : s[j].toNat = 123
        · have t123 : ((s[j].toNat : Int) == 123) = true := by rw [beq_iff_eq];omega
          refine region_tailq 53 (by kernel_rfl) (by kernel_rfl) ?_;intro w2 e2;have hR2 : Rd w2 r s j bad deep false ends := by rw [e2];exact hR
          have hO2 : Only w w2 r := by rw [e2];exact only_drew (only_drewN hO _)
          clear e2 c0 c1 c4 f1 f4 hR hO;have hR := hR2;have hO := hO2;clear hR2 hO2;have c0 := hR.c0;have c1 := hR.c1;have c4 := hR.c4;have f1 := hR.fz 1;have f4 := hR.fz 4;simp only [List.take_succ_cons,List.take_zero,List.drop_succ_cons,List.drop_zero]
          repeat (go_big_quiet_step (fail))
          refine wpQuiet_nil ?_;go_wp2_with fail;have hR3 := hR.odd_ true rfl;have hO3 := only_set hO 4 (.bool true);generalize w2.setCell ⟨r,4,none⟩ (.bool true) = w3 at hR3 hO3 ⊢;clear c0 c1 c4 f1 f4 hR hO;have hR := hR3;have hO := hO3;clear hR3 hO3;have c0 := hR.c0;have c1 := hR.c1;have c4 := hR.c4;have f1 := hR.fz 1;have f4 := hR.fz 4;go_quiet (fail);go_wp2_with fail;go_ret;exact ⟨ret_ext hres.out,hfin.out true (by simp [shutB];try omega) _ hR,only_drewN hO _⟩
        have t123 : ((s[j].toNat : Int) == 123) = false := by rw [beq_eq_false_iff_ne];omega
        by_cases q125 : s[j].toNat = 125
        · have t125 : ((s[j].toNat : Int) == 125) = true := by rw [beq_iff_eq];omega
          refine region_tailq 53 (by kernel_rfl) (by kernel_rfl) ?_;intro w2 e2;have hR2 : Rd w2 r s j bad deep false ends := by rw [e2];exact hR
          have hO2 : Only w w2 r := by rw [e2];exact only_drew (only_drewN hO _)
          clear e2 c0 c1 c4 f1 f4 hR hO;have hR := hR2;have hO := hO2;clear hR2 hO2;have c0 := hR.c0;have c1 := hR.c1;have c4 := hR.c4;have f1 := hR.fz 1;have f4 := hR.fz 4;simp only [List.take_succ_cons,List.take_zero,List.drop_succ_cons,List.drop_zero]
          repeat (go_big_quiet_step (fail))
          refine wpQuiet_nil ?_;go_wp2_with fail;have hR3 := hR.odd_ true rfl;have hO3 := only_set hO 4 (.bool true);generalize w2.setCell ⟨r,4,none⟩ (.bool true) = w3 at hR3 hO3 ⊢;clear c0 c1 c4 f1 f4 hR hO;have hR := hR3;have hO := hO3;clear hR3 hO3;have c0 := hR.c0;have c1 := hR.c1;have c4 := hR.c4;have f1 := hR.fz 1;have f4 := hR.fz 4;go_quiet (fail);go_wp2_with fail;go_ret;exact ⟨ret_ext hres.out,hfin.out true (by simp [shutB];try omega) _ hR,only_drewN hO _⟩
        have t125 : ((s[j].toNat : Int) == 125) = false := by rw [beq_eq_false_iff_ne];omega
        by_cases q41 : s[j].toNat = 41
        · have t41 : ((s[j].toNat : Int) == 41) = true := by rw [beq_iff_eq];omega
          refine region_tailq 53 (by kernel_rfl) (by kernel_rfl) ?_;intro w2 e2;have hR2 : Rd w2 r s j bad deep false ends := by rw [e2];exact hR
          have hO2 : Only w w2 r := by rw [e2];exact only_drew (only_drewN hO _)
          clear e2 c0 c1 c4 f1 f4 hR hO;have hR := hR2;have hO := hO2;clear hR2 hO2;have c0 := hR.c0;have c1 := hR.c1;have c4 := hR.c4;have f1 := hR.fz 1;have f4 := hR.fz 4;simp only [List.take_succ_cons,List.take_zero,List.drop_succ_cons,List.drop_zero]
          repeat (go_big_quiet_step (fail))
          refine wpQuiet_nil ?_;go_wp2_with fail;have hR3 := hR.odd_ true rfl;have hO3 := only_set hO 4 (.bool true);generalize w2.setCell ⟨r,4,none⟩ (.bool true) = w3 at hR3 hO3 ⊢;clear c0 c1 c4 f1 f4 hR hO;have hR := hR3;have hO := hO3;clear hR3 hO3;have c0 := hR.c0;have c1 := hR.c1;have c4 := hR.c4;have f1 := hR.fz 1;have f4 := hR.fz 4;go_quiet (fail);go_wp2_with fail;go_ret;exact ⟨ret_ext hres.out,hfin.out true (by simp [shutB];try omega) _ hR,only_drewN hO _⟩
        have t41 : ((s[j].toNat : Int) == 41) = false := by rw [beq_eq_false_iff_ne];omega
        refine region_tailq 53 (by kernel_rfl) (by kernel_rfl) ?_;intro w2 e2;have hR2 : Rd w2 r s j bad deep false ends := by rw [e2];exact hR
        have hO2 : Only w w2 r := by rw [e2];exact only_drew (only_drewN hO _)
        clear e2 c0 c1 c4 f1 f4 hR hO;have hR := hR2;have hO := hO2;clear hR2 hO2;have c0 := hR.c0;have c1 := hR.c1;have c4 := hR.c4;have f1 := hR.fz 1;have f4 := hR.fz 4;simp only [List.take_succ_cons,List.take_zero,List.drop_succ_cons,List.drop_zero]
        repeat (go_big_quiet_step (fail))
        refine wpQuiet_nil ?_;go_wp2_with fail;have hR3 := hR.odd_ false rfl;have hO3 := only_set hO 4 (.bool false);generalize w2.setCell ⟨r,4,none⟩ (.bool false) = w3 at hR3 hO3 ⊢;clear c0 c1 c4 f1 f4 hR hO;have hR := hR3;have hO := hO3;clear hR3 hO3;have c0 := hR.c0;have c1 := hR.c1;have c4 := hR.c4;have f1 := hR.fz 1;have f4 := hR.fz 4;go_quiet (fail);go_wp2_with fail;go_ret;exact ⟨ret_ext hres.out,hfin.out false (by simp [shutB];try omega) _ hR,only_drewN hO _⟩
  have e0 : wordR (s.drop j) o = (0,o) := by rw [List.drop_eq_nil_of_le (by omega)];rfl
  have hj : j = k + (wordR (s.drop k) odd).1 := by have A1 := A.out.1;rw [e0] at A1;exact A1
  have ho : (wordR (s.drop k) odd).2 = o := by have A1 := A.out.2;rw [e0] at A1;exact A1.symm
  have hfin : Hid (∀ b,(o || false) = b → ∀ w',Rd w' r s j bad deep b ends → Rd w' r s (k + (wordR (s.drop k) odd).1) bad deep ((wordR (s.drop k) odd).2 || shutAt (s.drop (k + (wordR (s.drop k) odd).1))) ends) := by
   intro b hb w' hw;rw [← hj,ho,List.drop_eq_nil_of_le (by omega)];show Rd w' r s j bad deep (o || false) ends;rw [hb];exact hw
  have hres : Hid ((s.drop k).take (j - k) = (s.drop k).take (wordR (s.drop k) odd).1) := Lib.hid (by rw [hj];simp);clear e0 hj ho A;go_wp2_with fail;go_quiet (fail);go_wp2_with fail
  cases o with
  | true =>
    refine region_tailq 53 (by kernel_rfl) (by kernel_rfl) ?_;intro w2 e2;have hR2 : Rd w2 r s j bad deep true ends := by rw [e2];exact hR
    have hO2 : Only w w2 r := by rw [e2];exact only_drew (only_drewN hO _)
    clear e2 c0 c1 c4 f1 f4 hR hO;have hR := hR2;have hO := hO2;clear hR2 hO2;have c0 := hR.c0;have c1 := hR.c1;have c4 := hR.c4;have f1 := hR.fz 1;have f4 := hR.fz 4;simp only [List.take_succ_cons,List.take_zero,List.drop_succ_cons,List.drop_zero]
    repeat (go_big_quiet_step (fail))
    refine wpQuiet_nil ?_;go_wp2_with fail;have hR3 := hR.odd_ true rfl;have hO3 := only_set hO 4 (.bool true);generalize w2.setCell ⟨r,4,none⟩ (.bool true) = w3 at hR3 hO3 ⊢;clear c0 c1 c4 f1 f4 hR hO;have hR := hR3;have hO := hO3;clear hR3 hO3;have c0 := hR.c0;have c1 := hR.c1;have c4 := hR.c4;have f1 := hR.fz 1;have f4 := hR.fz 4;go_quiet (fail);go_wp2_with fail;go_ret;exact ⟨ret_ext hres.out,hfin.out true (by simp [shutB];try omega) _ hR,only_drewN hO _⟩
  | false =>
    refine region_tailq 53 (by kernel_rfl) (by kernel_rfl) ?_;intro w2 e2;have hR2 : Rd w2 r s j bad deep false ends := by rw [e2];exact hR
    have hO2 : Only w w2 r := by rw [e2];exact only_drew (only_drewN hO _)
    clear e2 c0 c1 c4 f1 f4 hR hO;have hR := hR2;have hO := hO2;clear hR2 hO2;have c0 := hR.c0;have c1 := hR.c1;have c4 := hR.c4;have f1 := hR.fz 1;have f4 := hR.fz 4;simp only [List.take_succ_cons,List.take_zero,List.drop_succ_cons,List.drop_zero]
    repeat (go_big_quiet_step (fail))
    refine wpQuiet_nil ?_;go_wp2_with fail;have hR3 := hR.odd_ false rfl;have hO3 := only_set hO 4 (.bool false);generalize w2.setCell ⟨r,4,none⟩ (.bool false) = w3 at hR3 hO3 ⊢;clear c0 c1 c4 f1 f4 hR hO;have hR := hR3;have hO := hO3;clear hR3 hO3;have c0 := hR.c0;have c1 := hR.c1;have c4 := hR.c4;have f1 := hR.fz 1;have f4 := hR.fz 4;go_quiet (fail);go_wp2_with fail;go_ret;exact ⟨ret_ext hres.out,hfin.out false (by simp [shutB];try omega) _ hR,only_drewN hO _⟩
end Go.Proofs.YtcpijmbdibgdmaaGreatDoor
