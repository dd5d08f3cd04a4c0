/-
  spec.reader.pass: white space and comments are gone over.
-/
import Derived.Test.YtcpijmbdibgdmaaGreatDoorMs00
set_option linter.all false
set_option maxHeartbeats 16000000
set_option maxRecDepth 100000
namespace Go.Proofs.YtcpijmbdibgdmaaGreatDoor
open Go.RowKit
attribute [local go_sem] ba_get
def passM : Bool → List UInt8 → Bool → Nat × Bool
 | _,[],o => (0,o)
 | true,b :: l,o => if b.toNat = 10 ∨ b.toNat = 13 then ((passM false l o).1 + 1,(passM false l o).2) else ((passM true l (o || !plainB b)).1 + 1,(passM true l (o || !plainB b)).2)
 | false,b :: l,o => if whiteB b = true then ((passM false l o).1 + 1,(passM false l o).2) else if b.toNat = 37 then ((passM true l o).1 + 1,(passM true l o).2) else (0,o)
theorem passM_white {b : UInt8} {l : List UInt8} {o : Bool} (h : whiteB b = true) : passM false (b :: l) o = ((passM false l o).1 + 1,(passM false l o).2) := by rw [passM,if_pos h]
theorem passM_stop {b : UInt8} {l : List UInt8} {o : Bool} (h : whiteB b = false) (h' : b.toNat ≠ 37) : passM false (b :: l) o = (0,o) := by rw [passM,if_neg (by simp [h]),if_neg h']
theorem passM_in {b : UInt8} {l : List UInt8} {o : Bool} (h : b.toNat ≠ 10) (h' : b.toNat ≠ 13) : passM true (b :: l) o = ((passM true l (o || !plainB b)).1 + 1,(passM true l (o || !plainB b)).2) := by rw [passM,if_neg (by omega)]
theorem passM_open {b : UInt8} {l : List UInt8} {o : Bool} (h' : b.toNat = 37) : passM false (b :: l) o = passM true (b :: l) o := by
 have h : whiteB b = false := by simp [whiteB,h']
 have hp : plainB b = true := by simp [plainB,h']
 have e1 : passM false (b :: l) o = ((passM true l o).1 + 1,(passM true l o).2) := by rw [passM,if_neg (by simp [h]),if_pos h']
 have e2 : passM true (b :: l) o = ((passM true l o).1 + 1,(passM true l o).2) := by rw [passM_in (by omega) (by omega),hp];simp
 rw [e1,e2]
theorem passM_shut {b : UInt8} {l : List UInt8} {o : Bool} (h : b.toNat = 10 ∨ b.toNat = 13) : passM true (b :: l) o = passM false (b :: l) o := by
 have hw : whiteB b = true := by simp [whiteB];omega
 rw [passM,if_pos h,passM,if_pos hw]
theorem pass_any (r : Nat) (s : List UInt8) (k bad deep : Nat) (odd ends : Bool) (w : World) (hk : k ≤ s.length) (hs : s.length ≤ 268435456) (h : Rd w r s k bad deep odd ends) :
 Calls Tryz.prog 33 #[.pointer (some ⟨r,0,none⟩)] w fun e w' => e = .returned (.tuple #[]) ∧
  Rd w' r s (k + (passM false (s.drop k) odd).1) bad deep (passM false (s.drop k) odd).2 ends ∧ Only w w' r := by
 go_enter Tryz.func33,Tryz.ntmps33;go_wp2_with fail
 go_loopg [] (s.length - k) (fun g wr => ∃ j o,g + j = s.length ∧ k ≤ j ∧ Rd wr r s j bad deep o ends ∧ Only w wr r ∧ j + (passM false (s.drop j) o).1 = k + (passM false (s.drop k) odd).1 ∧ (passM false (s.drop j) o).2 = (passM false (s.drop k) odd).2)
 case atStart => exact ⟨k,odd,by omega,Nat.le_refl _,h,only_refl _ _,rfl,rfl⟩
 case round =>
  obtain ⟨j,o,hg,hkj,hR,hO,A⟩ := hrel;have A := Lib.hid A;rename_i A0;clear A0 h;have hjl : j ≤ s.length := by omega
  have hg := Lib.hid hg;rename_i hg0;clear hg0;obtain ⟨c0,c1,c2,c3,c4,c5⟩ := hR.cs;obtain ⟨f1,f2,f3,f4,f5⟩ := hR.fs;by_cases hlt : j < s.length
  · go_wp2_with fail;go_quiet (fail);go_wp2_with fail;go_quiet ((go_at_call 67;first | exact quiet_add_left (white_any s[j] _) | exact quiet_left (white_any s[j] _)))
    cases hr : whiteB s[j] with
    | true =>
      go_wp2_with fail
      go_roundg (gk - 1)
      case measure => have := hg.out;omega
      case rel =>
       have A1 := A.out;rw [drop_at hlt,passM_white hr] at A1;refine ⟨j + 1,o,by have := hg.out;omega,by omega,hR.at_ _ rfl,(by repeat first | exact hO | refine only_drewN ?_ _ | refine only_set ?_ _ _ | refine only_drew ?_),?_⟩;simpa [Nat.add_assoc,Nat.add_comm 1] using A1
    | false =>
      by_cases h37 : s[j].toNat = 37
      · have t37 : ((s[j].toNat : Int) == 37) = true := by rw [beq_iff_eq];omega
        go_wp2_with fail;go_quiet (fail);go_wp2_with fail;refine wp_gen (fun wo => Rd wo r s j bad deep o ends ∧ Only w wo r) ⟨hR,(by repeat first | exact hO | refine only_drewN ?_ _ | refine only_set ?_ _ _ | refine only_drew ?_)⟩ ?_;rintro wo ⟨hR2,hO2⟩;clear c0 c1 c2 c3 c4 c5 f1 f2 f3 f4 f5 hR hO;have hR := hR2;have hO := hO2;clear hR2 hO2;obtain ⟨c0,c1,c2,c3,c4,c5⟩ := hR.cs;obtain ⟨f1,f2,f3,f4,f5⟩ := hR.fs;have tx : s[j].toNat ≠ 10 ∧ s[j].toNat ≠ 13 := by omega
        have A2 : Hid (j + (passM true (s.drop j) o).1 = k + (passM false (s.drop k) odd).1 ∧ (passM true (s.drop j) o).2 = (passM false (s.drop k) odd).2) := by
         have A1 := A.out;rw [drop_at hlt,passM_open h37,← drop_at hlt] at A1;exact A1
        clear A t37
        go_loopg [] (s.length - j) (fun g wr => ∃ i o,g + i = s.length ∧ (j < i ∨ i = j) ∧ Rd wr r s i bad deep o ends ∧ Only w wr r ∧ i + (passM true (s.drop i) o).1 = k + (passM false (s.drop k) odd).1 ∧ (passM true (s.drop i) o).2 = (passM false (s.drop k) odd).2)
        case atStart => exact ⟨j,o,by omega,.inr rfl,hR,hO,A2.out⟩
        case round =>
         obtain ⟨i,o',hgi,hji,hR2,hO2,B⟩ := hrel;have B := Lib.hid B;rename_i B0;clear B0;clear c0 c1 c2 c3 c4 c5 f1 f2 f3 f4 f5 hR hO;have hR := hR2;have hO := hO2;clear hR2 hO2;have hil : i ≤ s.length := by omega
         have hgi := Lib.hid hgi;rename_i hgi0;clear hgi0;obtain ⟨c0,c1,c2,c3,c4,c5⟩ := hR.cs;obtain ⟨f1,f2,f3,f4,f5⟩ := hR.fs;by_cases hlt2 : i < s.length
         · by_cases h10 : s[i].toNat = 10
           · have t10 : ((s[i].toNat : Int) == 10) = true := by rw [beq_iff_eq];omega
             have t10' : ((s[i].toNat : Int) != 10) = false := by rw [bne,t10];rfl
             have hne : j < i := by rcases hji with h | rfl;exact h;omega
             go_wp2_with fail;go_quiet (fail);go_wp2_with fail
             go_roundg (s.length - i)
             case measure => have := hg.out;have := hgi.out;omega
             case rel =>
              have B1 := B.out;refine ⟨i,o',by omega,by omega,hR,(by repeat first | exact hO | refine only_drewN ?_ _ | refine only_set ?_ _ _ | refine only_drew ?_),?_⟩;rw [drop_at hlt2,passM_shut (.inl h10),← drop_at hlt2] at B1;exact B1
           have t10 : ((s[i].toNat : Int) == 10) = false := by rw [beq_eq_false_iff_ne];omega
           have t10' : ((s[i].toNat : Int) != 10) = true := by rw [bne,t10];rfl
           by_cases h13 : s[i].toNat = 13
           · have t13 : ((s[i].toNat : Int) == 13) = true := by rw [beq_iff_eq];omega
             have t13' : ((s[i].toNat : Int) != 13) = false := by rw [bne,t13];rfl
             have hne : j < i := by rcases hji with h | rfl;exact h;omega
             go_wp2_with fail;go_quiet (fail);go_wp2_with fail
             go_roundg (s.length - i)
             case measure => have := hg.out;have := hgi.out;omega
             case rel =>
              have B1 := B.out;refine ⟨i,o',by omega,by omega,hR,(by repeat first | exact hO | refine only_drewN ?_ _ | refine only_set ?_ _ _ | refine only_drew ?_),?_⟩;rw [drop_at hlt2,passM_shut (.inr h13),← drop_at hlt2] at B1;exact B1
           have t13 : ((s[i].toNat : Int) == 13) = false := by rw [beq_eq_false_iff_ne];omega
           have t13' : ((s[i].toNat : Int) != 13) = true := by rw [bne,t13];rfl
           go_wp2_with fail;go_quiet (fail);go_wp2_with fail;refine region_tailq 18 (by kernel_rfl) (by kernel_rfl) ?_;intro w2 e2;have hR2 : Rd w2 r s i bad deep o' ends := by rw [e2];exact hR
           have hO2 : Only w w2 r := by rw [e2];exact only_drew (only_drewN hO _)
           clear e2;clear c0 c1 c2 c3 c4 c5 f1 f2 f3 f4 f5 hR hO;have hR := hR2;have hO := hO2;clear hR2 hO2;obtain ⟨c0,c1,c2,c3,c4,c5⟩ := hR.cs;obtain ⟨f1,f2,f3,f4,f5⟩ := hR.fs;simp only [List.take_succ_cons,List.take_zero,List.drop_succ_cons,List.drop_zero]
           cases o' with
           | false =>
             repeat (go_big_quiet_step (fail))
             go_big_quiet_want;go_big_quiet_op
             refine ⟨_,(plain_any s[i] _).mono fun _ _ ⟨a,b⟩ => ⟨a,b.symm⟩,?_⟩
             go_big_quiet_on
             repeat (go_big_quiet_step (fail))
             refine wpQuiet_nil ?_;go_wp2_with fail
             go_roundg (gk - 1)
             case measure => have := hgi.out;omega
             case rel =>
              have B1 := B.out;rw [drop_at hlt2,passM_in h10 h13] at B1;refine ⟨i + 1,!plainB s[i],by have := hgi.out;omega,by omega,(hR.odd_ _ rfl).at_ _ rfl,only_set (only_set hO _ _) _ _,?_⟩;simpa [Nat.add_assoc,Nat.add_comm 1] using B1
           | true =>
             repeat (go_big_quiet_step (fail))
             refine wpQuiet_nil ?_;go_wp2_with fail
             go_roundg (gk - 1)
             case measure => have := hgi.out;omega
             case rel =>
              have B1 := B.out;rw [drop_at hlt2,passM_in h10 h13] at B1;refine ⟨i + 1,true,by have := hgi.out;omega,by omega,(hR.odd_ _ rfl).at_ _ rfl,only_set (only_set hO _ _) _ _,?_⟩;simpa [Nat.add_assoc,Nat.add_comm 1] using B1
         have hne : j < i := by rcases hji with h | rfl;exact h;omega
         go_wp2_with fail;go_quiet (fail);go_wp2_with fail
         go_roundg (s.length - i)
         case measure => have := hg.out;have := hgi.out;omega
         case rel =>
          have B1 := B.out;refine ⟨i,o',by omega,by omega,hR,(by repeat first | exact hO | refine only_drewN ?_ _ | refine only_set ?_ _ _ | refine only_drew ?_),?_⟩;rw [List.drop_eq_nil_of_le (by omega)] at B1 ⊢;exact B1
      have t37 : ((s[j].toNat : Int) == 37) = false := by rw [beq_eq_false_iff_ne];omega
      go_wp2_with fail;go_quiet (fail);go_wp2_with fail;refine bodyPost_ret (results_none rfl _ _ _) rfl ?_;have e0 : passM false (s.drop j) o = (0,o) := by rw [drop_at hlt];exact passM_stop hr h37
      have A1 := A.out;rw [e0] at A1;refine ⟨rfl,?_,(by repeat first | exact hO | refine only_drewN ?_ _ | refine only_set ?_ _ _ | refine only_drew ?_)⟩;rw [← A1.1,← A1.2];exact hR
  go_wp2_with fail;go_quiet (fail);go_wp2_with fail
  go_end0
  have e0 : passM false (s.drop j) o = (0,o) := by rw [List.drop_eq_nil_of_le (by omega)];rfl
  have A1 := A.out;rw [e0] at A1;refine ⟨rfl,?_,(by repeat first | exact hO | refine only_drewN ?_ _ | refine only_set ?_ _ _ | refine only_drew ?_)⟩;rw [← A1.1,← A1.2];exact hR
end Go.Proofs.YtcpijmbdibgdmaaGreatDoor
