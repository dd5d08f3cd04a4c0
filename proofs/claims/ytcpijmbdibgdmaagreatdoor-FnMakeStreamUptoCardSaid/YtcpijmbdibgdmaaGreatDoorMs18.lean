/-
  What is written is read as it was: plain law.
-/
import Derived.Test.YtcpijmbdibgdmaaGreatDoorMs04
import Derived.Test.YtcpijmbdibgdmaaGreatDoorMs17
set_option linter.all false
set_option maxHeartbeats 16000000
set_option maxRecDepth 100000
namespace Go.Proofs.YtcpijmbdibgdmaaGreatDoor
open Go.RowKit
def ItoaOk : Prop := ∀ n : Int,-2147483648 ≤ n → n ≤ 2147483647 → numM (Lib.itoa n) = .int n ∧ (0 ≤ n → firstDigit (Lib.itoa n) = true)
def skL (l : List UInt8) : List UInt8 := l.drop (passM false l false).1
def wdL (l : List UInt8) : List UInt8 := l.take (wordR l false).1
def aftL (l : List UInt8) : List UInt8 := l.drop (wordR l false).1
def FW (l : List UInt8) : List UInt8 := wdL (skL l)
def Stop (l : List UInt8) : Prop := ∀ b r,l = b :: r → regB b = false
def NR (l : List UInt8) : Prop := FW l ≠ [82]
def noR (l : List UInt8) : Prop := numM (FW l) = .refused ∨ NR (aftL (skL l))
def TailOk (l : List UInt8) : Prop := Stop l ∧ noR l
def WS (l : List UInt8) : Prop := ∀ b ∈ l,whiteB b = true
def SB (b : UInt8) : Prop := whiteB b = false ∧ b.toNat ≠ 37
theorem passM_fst : ∀ (l : List UInt8) (c o o' : Bool),(passM c l o).1 = (passM c l o').1
 | [],c,_,_ => by cases c <;> rfl
 | b :: l,true,o,o' => by
   rw [passM,passM];split
   · simp only [passM_fst l false o o']
   simp only [passM_fst l true (o || !plainB b) (o' || !plainB b)]
 | b :: l,false,o,o' => by
   rw [passM,passM];split
   · simp only [passM_fst l false o o']
   split
   · simp only [passM_fst l true o o']
   rfl
theorem passM_ws : ∀ (p : List UInt8),WS p → ∀ (b : UInt8) (r : List UInt8) (o : Bool),SB b → passM false (p ++ b :: r) o = (p.length,o)
 | [],_,b,r,o,hb => passM_stop hb.1 hb.2
 | a :: p,hp,b,r,o,hb => by
   rw [List.cons_append,passM_white (hp a (by simp)),passM_ws p (fun x hx => hp x (by simp [hx])) b r o hb];rfl
theorem skL_ws {p : List UInt8} (hp : WS p) {b : UInt8} {r : List UInt8} (hb : SB b) : skL (p ++ b :: r) = b :: r := by
 unfold skL;rw [passM_ws p hp b r false hb];simp
theorem skip_ws {s p : List UInt8} {k : Nat} {o : Bool} {b : UInt8} {r : List UInt8} (h : s.drop k = p ++ b :: r) (hp : WS p) (hb : SB b) : skipAt s k o = (k + p.length,o) ∧ s.drop (k + p.length) = b :: r := by
 unfold skipAt;rw [h,passM_ws p hp b r o hb];refine ⟨rfl,?_⟩;rw [← List.drop_drop,h];simp
theorem wordR_run : ∀ (t : List UInt8),(∀ b ∈ t,regB b = true) → ∀ (r : List UInt8) (o : Bool),Stop r → (wordR (t ++ r) o).1 = t.length
 | [],_,r,o,hr => by
   cases r with
   | nil => rfl
   | cons b r => rw [List.nil_append,wordR_cons_neg (hr b r rfl)];rfl
 | a :: t,ht,r,o,hr => by
   rw [List.cons_append,wordR_cons_pos (ht a (by simp))];simp only [wordR_run t (fun x hx => ht x (by simp [hx])) r _ hr];rfl
theorem wdL_run {t r : List UInt8} (ht : ∀ b ∈ t,regB b = true) (hr : Stop r) : wdL (t ++ r) = t := by
 unfold wdL;rw [wordR_run t ht r false hr];simp
theorem aftL_run {t r : List UInt8} (ht : ∀ b ∈ t,regB b = true) (hr : Stop r) : aftL (t ++ r) = r := by
 unfold aftL;rw [wordR_run t ht r false hr];simp
theorem word_run {s t r : List UInt8} {k : Nat} {o : Bool} (h : s.drop k = t ++ r) (ht : ∀ b ∈ t,regB b = true) (hr : Stop r) : (wordAt s k o).1 = t ∧ (wordAt s k o).2.1 = k + t.length ∧ s.drop (k + t.length) = r := by
 unfold wordAt;rw [h,wordR_run t ht r o hr];refine ⟨by simp,rfl,?_⟩;rw [← List.drop_drop,h];simp
theorem wdL_head {b : UInt8} {r : List UInt8} : wdL (b :: r) = [] ∨ ∃ x,wdL (b :: r) = b :: x := by
 unfold wdL
 cases h : regB b with
 | true => right;rw [wordR_cons_pos h];exact ⟨_,rfl⟩
 | false => left;rw [wordR_cons_neg h];rfl
theorem NR_head {p r : List UInt8} {b : UInt8} (hp : WS p) (hb : SB b) (h : b.toNat ≠ 82) : NR (p ++ b :: r) := by
 unfold NR FW;rw [skL_ws hp hb];rcases wdL_head (b := b) (r := r) with e | ⟨x,e⟩
 · rw [e];simp
 rw [e];intro he;injection he with he _;rw [he] at h;exact h (by rfl)
theorem noR_delim {p r : List UInt8} {b : UInt8} (hp : WS p) (hb : SB b) (h : regB b = false) : noR (p ++ b :: r) := by
 left;unfold FW;rw [skL_ws hp hb];unfold wdL;rw [wordR_cons_neg h];rfl
theorem noR_ws {p : List UInt8} (hp : WS p) : noR p := by
 left
 have : skL p = [] := by
  unfold skL
  have : ∀ (p : List UInt8),WS p → (passM false p false).1 = p.length := by
   intro p
   induction p with
   | nil => intro _;rfl
   | cons a p ih => intro hp;rw [passM_white (hp a (by simp))];simp only [ih (fun x hx => hp x (by simp [hx]))];rfl
  rw [this p hp];simp
 unfold FW;rw [this];rfl
def numB (b : UInt8) : Prop := digitB b = true ∨ b.toNat = 46 ∨ b.toNat = 43 ∨ b.toNat = 45
theorem cntM_all : ∀ (l : List UInt8) (d p a : Nat) (x : Nat × Nat × Nat),cntM l d p a = some x → ∀ b ∈ l,digitB b = true ∨ b.toNat = 46
 | [],_,_,_,_,_,b,hb => by simp at hb
 | c :: l,d,p,a,x,h,b,hb => by
   rw [cntM] at h;by_cases hc : digitB c = true
   · rw [if_pos hc] at h;rcases List.mem_cons.1 hb with rfl | hb
     · exact .inl hc
     exact cntM_all l _ _ _ x h b hb
   rw [if_neg hc] at h;by_cases h46 : c.toNat = 46
   · rw [if_pos h46] at h;rcases List.mem_cons.1 hb with rfl | hb
     · exact .inr h46
     exact cntM_all l _ _ _ x h b hb
   rw [if_neg h46] at h;cases h
theorem num_bytes {t : List UInt8} (h : numM t = .real ∨ ∃ n,numM t = .int n) : t ≠ [] ∧ ∀ b ∈ t,numB b := by
 have hc : ∃ x,cntM (unsign t) 0 0 0 = some x := by
  unfold numM at h
  cases hx : cntM (unsign t) 0 0 0 with
  | none => rw [hx] at h;rcases h with h | ⟨n,h⟩ <;> cases h
  | some x => exact ⟨x,rfl⟩
 obtain ⟨x,hx⟩ := hc;have ha := cntM_all _ _ _ _ _ hx;constructor
 · rintro rfl;unfold numM at h;simp [unsign,cntM] at h
 intro b hb
 cases t with
 | nil => simp at hb
 | cons c t =>
   rw [show unsign (c :: t) = if c.toNat = 43 ∨ c.toNat = 45 then t else c :: t from rfl] at ha;by_cases hs : c.toNat = 43 ∨ c.toNat = 45
   · rw [if_pos hs] at ha;rcases List.mem_cons.1 hb with rfl | hb
     · exact .inr (.inr hs)
     rcases ha b hb with h | h
     · exact .inl h
     exact .inr (.inl h)
   rw [if_neg hs] at ha;rcases ha b hb with h | h
   · exact .inl h
   exact .inr (.inl h)
theorem numB_reg {b : UInt8} (h : numB b) : regB b = true := by
 unfold numB digitB at h;unfold regB whiteB delimB;rw [decide_eq_true_eq] at h;rw [Bool.and_eq_true,Bool.not_eq_true',Bool.not_eq_true',decide_eq_false_iff_not,decide_eq_false_iff_not];omega
theorem reg_SB {b : UInt8} (h : regB b = true) : SB b := by
 unfold regB whiteB delimB at h;unfold SB whiteB;rw [Bool.and_eq_true,Bool.not_eq_true',Bool.not_eq_true',decide_eq_false_iff_not,decide_eq_false_iff_not] at h;rw [decide_eq_false_iff_not];omega
def HeadB (b : UInt8) : Prop := SB b ∧ b.toNat ≠ 82 ∧ b.toNat ≠ 93 ∧ b.toNat ≠ 62
theorem numB_head {b : UInt8} (h : numB b) : HeadB b := by
 refine ⟨reg_SB (numB_reg h),?_⟩;unfold numB digitB at h;rw [decide_eq_true_eq] at h;omega
theorem num_word {t : List UInt8} (h : numM t = .real ∨ ∃ n,numM t = .int n) : (∃ b r,t = b :: r ∧ numB b) ∧ ∀ b ∈ t,regB b = true := by
 obtain ⟨h0,h1⟩ := num_bytes h;refine ⟨?_,fun b hb => numB_reg (h1 b hb)⟩
 cases t with
 | nil => exact absurd rfl h0
 | cons b r => exact ⟨b,r,rfl,h1 b (by simp)⟩
section
variable {FF : Nat → List UInt8} {pf : List UInt8 → Nat}
theorem print_head (hI : ItoaOk) {p : PObj} (hp : PGood FF p) : ∃ b r,printP FF p = b :: r ∧ HeadB b := by
 cases p with
 | null => exact ⟨_,_,by rw [printP],by unfold HeadB SB;decide⟩
 | bool b => cases b <;> exact ⟨_,_,by rw [printP];rfl,by unfold HeadB SB;decide⟩
 | int n =>
   unfold PGood at hp;obtain ⟨⟨b,r,e,hb⟩,_⟩ := num_word (.inr ⟨n,(hI n hp.1 hp.2).1⟩);exact ⟨b,r,by rw [printP,e],numB_head hb⟩
 | real x =>
   unfold PGood at hp;obtain ⟨⟨b,r,e,hb⟩,_⟩ := num_word (.inl hp);exact ⟨b,r,by rw [printP,e],numB_head hb⟩
 | ref n g =>
   unfold PGood at hp;obtain ⟨⟨b,r,e,hb⟩,_⟩ := num_word (.inr ⟨n,(hI n (by omega) hp.2.1).1⟩);exact ⟨b,_,by rw [printP,e,List.cons_append],numB_head hb⟩
 | lit t => exact ⟨_,_,by rw [printP],by unfold HeadB SB;decide⟩
 | hex t => exact ⟨_,_,by rw [printP],by unfold HeadB SB;decide⟩
 | name t => exact ⟨_,_,by rw [printP],by unfold HeadB SB;decide⟩
 | arr l => exact ⟨_,_,by rw [printP],by unfold HeadB SB;decide⟩
 | dict ks l => exact ⟨_,_,by rw [printP],by unfold HeadB SB;decide⟩
theorem ws_sp (c : Bool) : WS (if c = true then [] else [32]) := by
 intro b hb;split at hb
 · simp at hb
 simp at hb;subst hb;decide
theorem ws_sp' (c : Bool) : WS (if c = true then [32] else []) := by
 intro b hb;split at hb
 · simp at hb;subst hb;decide
 simp at hb
theorem WS.app {p q : List UInt8} (hp : WS p) (hq : WS q) : WS (p ++ q) := fun b hb => by
 rcases List.mem_append.1 hb with h | h
 · exact hp b h
 exact hq b h
theorem noR_tok (hI : ItoaOk) {p : PObj} (hp : PGood FF p) {ws rest : List UInt8} (hw : WS ws) (hs : Stop rest) (hn : NR rest) : noR (ws ++ (printP FF p ++ rest)) := by
 have hword : ∀ (t : List UInt8),(∃ b r,t = b :: r ∧ regB b = true) → (∀ b ∈ t,regB b = true) → ∀ u,Stop u → FW (ws ++ (t ++ u)) = t ∧ aftL (skL (ws ++ (t ++ u))) = u := by
  rintro t ⟨b,r,rfl,hb⟩ ht u hu;have e : skL (ws ++ ((b :: r) ++ u)) = (b :: r) ++ u := skL_ws hw (reg_SB hb);unfold FW;rw [e];exact ⟨wdL_run ht hu,aftL_run ht hu⟩
 have hdel : ∀ b r,printP FF p = b :: r → SB b → regB b = false → noR (ws ++ (printP FF p ++ rest)) := by
  intro b r e h1 h2;rw [e];exact noR_delim hw h1 h2
 cases p with
 | null =>
   left;rw [printP];rw [(hword [110,117,108,108] ⟨_,_,rfl,by decide⟩ (by decide) rest hs).1];rfl
 | bool b =>
   left;rw [printP];cases b
   · have e := (hword [102,97,108,115,101] ⟨_,_,rfl,by decide⟩ (by decide) rest hs).1;simp only [Bool.false_eq_true,if_false];rw [e];rfl
   have e := (hword [116,114,117,101] ⟨_,_,rfl,by decide⟩ (by decide) rest hs).1;simp only [if_true];rw [e];rfl
 | int n =>
   unfold PGood at hp;obtain ⟨⟨b,r,e,hb⟩,ha⟩ := num_word (.inr ⟨n,(hI n hp.1 hp.2).1⟩);right;rw [printP,(hword _ ⟨b,r,e,numB_reg hb⟩ ha rest hs).2];exact hn
 | real x =>
   unfold PGood at hp;obtain ⟨⟨b,r,e,hb⟩,ha⟩ := num_word (.inl hp);right;rw [printP,(hword _ ⟨b,r,e,numB_reg hb⟩ ha rest hs).2];exact hn
 | ref n g =>
   unfold PGood at hp;obtain ⟨⟨b,r,e,hb⟩,ha⟩ := num_word (.inr ⟨n,(hI n (by omega) hp.2.1).1⟩);obtain ⟨⟨b2,r2,e2,hb2⟩,ha2⟩ := num_word (.inr ⟨g,(hI g (by omega) (by omega)).1⟩);right;rw [printP,List.append_assoc,List.cons_append,(hword _ ⟨b,r,e,numB_reg hb⟩ ha _ (fun c u hc => by injection hc with hc _;subst hc;decide)).2,e2];exact NR_head (p := [32]) (by intro b hb;simp at hb;subst hb;decide) (reg_SB (numB_reg hb2)) (numB_head hb2).2.1
 | lit t => exact hdel 40 _ (by rw [printP]) (by unfold SB;decide) (by decide)
 | hex t => exact hdel 60 _ (by rw [printP]) (by unfold SB;decide) (by decide)
 | name t => exact hdel 47 _ (by rw [printP]) (by unfold SB;decide) (by decide)
 | arr l => exact hdel 91 _ (by rw [printP]) (by unfold SB;decide) (by decide)
 | dict ks l => exact hdel 60 _ (by rw [printP]) (by unfold SB;decide) (by decide)
theorem delim_tail {b : UInt8} {r : List UInt8} (h1 : SB b) (h2 : regB b = false) : TailOk (b :: r) :=
 ⟨fun c u e => by injection e with e _;subst e;exact h2,noR_delim (p := []) (fun _ h => by simp at h) h1 h2⟩
theorem NR_tail (hI : ItoaOk) {p : PObj} (hp : PGood FF p) {ws rest : List UInt8} (hw : WS ws) : NR (ws ++ (printP FF p ++ rest)) := by
 obtain ⟨b,r,e,hb⟩ := print_head hI hp;rw [e];exact NR_head hw hb.1 hb.2.1
theorem arr_tail (hI : ItoaOk) (r : List UInt8) : ∀ (l : List PObj),LGood FF l → TailOk (printA FF false l ++ 93 :: r) ∧ NR (printA FF false l ++ 93 :: r)
 | [],_ => by
   rw [printA];exact ⟨delim_tail (by unfold SB;decide) (by decide),NR_head (p := []) (fun _ h => by simp at h) (by unfold SB;decide) (by decide)⟩
 | p :: l,h => by
   unfold LGood at h;obtain ⟨⟨hs,hn⟩,hr⟩ := arr_tail hI r l h.2;obtain ⟨b,u,e,hb⟩ := print_head hI h.1;have hw : WS (if (false || !spA p) = true then [] else [32]) := ws_sp _;rw [printA,List.append_assoc,List.append_assoc];refine ⟨⟨?_,noR_tok hI h.1 hw hs hr⟩,NR_tail hI h.1 hw⟩;intro c v hc
   cases hsp : spA p with
   | true =>
     rw [hsp] at hc;simp only [Bool.not_true,Bool.or_false,Bool.false_eq_true,if_false] at hc;injection hc with hc _;subst hc;decide
   | false =>
     rw [hsp] at hc;simp only [Bool.not_false,Bool.or_true,if_true,List.nil_append] at hc;cases p <;> simp [spA] at hsp <;> (rw [printP] at hc;injection hc with hc _;subst hc;decide)
theorem dict_tail (r : List UInt8) : ∀ (ks : List (List UInt8)) (l : List PObj),TailOk (printD FF ks l ++ 62 :: r)
 | ks,[] => by
   rw [printD];exact delim_tail (by unfold SB;decide) (by decide)
 | [],p :: l => by
   rw [printD];exact delim_tail (by unfold SB;decide) (by decide)
 | k :: ks,p :: l => by
   rw [printD];exact delim_tail (by unfold SB;decide) (by decide)
end
theorem wordR_fstL (l : List UInt8) : ∀ o o' : Bool,(wordR l o).1 = (wordR l o').1 := by
 induction l with
 | nil => intro _ _;rfl
 | cons b l ih =>
   intro o o';rw [wordR,wordR];split
   · simp only;rw [ih _ (o' || !plainB b)]
   rfl
theorem octM_app : ∀ (n : Nat) (l r : List UInt8) (o : Nat),(octM n l o).2 < l.length → octM n (l ++ r) o = octM n l o
 | 0,_,_,_,_ => rfl
 | n + 1,[],_,_,h => by simp at h
 | n + 1,b :: l,r,o,h => by
   rw [List.cons_append,octM,octM];rw [octM] at h;by_cases hb : 48 ≤ b.toNat ∧ b.toNat ≤ 55
   · rw [if_pos hb] at h;rw [if_pos hb,if_pos hb,octM_app n l r _ (by simp only [List.length_cons] at h;omega)]
   rw [if_neg hb,if_neg hb]
theorem escF_app {l r : List UInt8} (h : (escF l).2.2 < l.length) : escF (l ++ r) = escF l := by
 cases l with
 | nil => simp at h
 | cons b l =>
   have hne : ∀ x : UInt8 × Bool × Nat,1 ≤ x.2.2 → x.2.2 < (b :: l).length → l ≠ [] := by
    intro x h1 h2 e;rw [e] at h2;simp at h2;omega
   rw [escF] at h;rw [List.cons_append,escF,escF]
   repeat' split
   all_goals try rfl
   all_goals (try simp only [*,↓reduceIte] at h)
   all_goals first | (exfalso;omega) | skip
   all_goals (try (have := octM_app 2 l r (b.toNat - 48);simp_all;done))
   all_goals (cases l <;> simp_all)
theorem litM_app : ∀ (n : Nat) (l r : List UInt8) (o : Nat) (x : List UInt8 × Nat),litM n l o = some x → ∀ m,n ≤ m → litM m (l ++ r) o = some x
 | 0,_,_,_,_,h,_,_ => by rw [litM] at h;cases h
 | n + 1,[],_,_,_,h,_,_ => by rw [litM] at h;cases h
 | n + 1,b :: l,r,o,x,h,m,hm => by
   obtain ⟨m,rfl⟩ : ∃ k,m = k + 1 := ⟨m - 1,by omega⟩;have ih := fun (l' : List UInt8) (o' : Nat) (x' : List UInt8 × Nat) (h' : litM n l' o' = some x') => litM_app n l' r o' x' h' m (by omega)
   have lift : ∀ (l1 l2 : List UInt8) (o' : Nat) (f : List UInt8 × Nat → List UInt8 × Nat),(l1 ≠ [] → l2 = l1 ++ r) → (litM n l1 o').map f = some x → (litM m l2 o').map f = some x := by
    intro l1 l2 o' f e hh
    cases hy : litM n l1 o' with
    | none => rw [hy] at hh;cases hh
    | some y =>
      rw [hy] at hh;have hn : l1 ≠ [] := by rintro rfl;cases n <;> rw [litM] at hy <;> cases hy
      rw [e hn,ih l1 o' y hy];exact hh
   rw [List.cons_append];by_cases h40 : b.toNat = 40
   · by_cases ho : o = 0
     · subst ho;rw [litM_open0 h40] at h ⊢;exact lift _ _ _ _ (fun _ => rfl) h
     rw [litM_open h40 (by omega)] at h ⊢;exact lift _ _ _ _ (fun _ => rfl) h
   by_cases h41 : b.toNat = 41
   · by_cases ho : o = 1
     · subst ho;rw [litM_end h41] at h ⊢;exact h
     rw [litM_shut h41 ho] at h ⊢;exact lift _ _ _ _ (fun _ => rfl) h
   by_cases h13 : b.toNat = 13
   · cases l with
     | nil =>
       rw [litM_cr h13 (by simp)] at h;cases n <;> rw [litM] at h <;> cases h
     | cons c l =>
       by_cases hc : c.toNat = 10
       · rw [litM_crlf h13 (by simp [hc])] at h ⊢;exact lift _ _ _ _ (fun _ => rfl) h
       rw [litM_cr h13 (by simp [hc])] at h ⊢;exact lift _ _ _ _ (fun _ => rfl) h
   by_cases h92 : b.toNat = 92
   · have hlen : ∀ f,(litM n (l.drop (escF l).2.2) o).map f = some x → (escF l).2.2 < l.length := by
      intro f hh;rcases Nat.lt_or_ge (escF l).2.2 l.length with h1 | h1
      · exact h1
      rw [List.drop_eq_nil_of_le h1] at hh;cases n <;> rw [litM] at hh <;> cases hh
     cases he : (escF l).2.1 with
     | true =>
       rw [litM_esc h92 he] at h;have hl := hlen _ h;have e := escF_app (r := r) hl;rw [litM_esc h92 (by rw [e];exact he),e];exact lift _ _ _ _ (fun _ => List.drop_append_of_le_length (by omega)) h
     | false =>
       rw [litM_esc0 h92 he] at h;have hl := hlen _ h;have e := escF_app (r := r) hl;rw [litM_esc0 h92 (by rw [e];exact he),e];exact lift _ _ _ _ (fun _ => List.drop_append_of_le_length (by omega)) h
   rw [litM_else h40 h41 h13 h92] at h ⊢;exact lift _ _ _ _ (fun _ => rfl) h
theorem litAt_print {s t r out : List UInt8} {k : Nat} (h : litS t = some (out,t.length + 2)) (hd : s.drop k = 40 :: (t ++ 41 :: r)) : litAt s k = some (out,k + (t.length + 2)) := by
 unfold litAt;have hl : t.length + 2 + r.length = (s.drop k).length := by rw [hd];simp;omega
 rw [List.length_drop] at hl;have := litM_app _ _ r _ _ h (s.length + 1) (by omega);rw [hd];rw [show (40 :: (t ++ [41])) ++ r = 40 :: (t ++ 41 :: r) by simp] at this;rw [this];simp [Nat.add_comm]
theorem hexAt_print {s t r : List UInt8} {k : Nat} {o : Bool} (h : ∀ b ∈ t,0 ≤ hexV b) (hd : s.drop (k + 1) = t ++ 62 :: r) : (hexAt s k o).1 = 0 ∧ (hexAt s k o).2.1 = hexS t ∧ (hexAt s k o).2.2.1 = k + (t.length + 2) := by
 unfold hexAt hexS;obtain ⟨h1,h2,h3⟩ := hexM_app t r 0 false o h;rw [hd];refine ⟨h1,h3,?_⟩;simp only;omega
theorem hexd_val (n : Nat) (h : n < 16) : hexV (hexd n) = n ∧ regB (hexd n) = true ∧ (hexd n).toNat ≠ 35 := by
 have : ∀ n : Fin 16,hexV (hexd n.1) = (n.1 : Int) ∧ regB (hexd n.1) = true ∧ (hexd n.1).toNat ≠ 35 := by decide
 exact this ⟨n,h⟩
theorem needB_reg {b : UInt8} (h : needB b = false) : regB b = true ∧ b.toNat ≠ 35 := by
 unfold needB at h;rw [Bool.or_eq_false_iff,Bool.or_eq_false_iff,decide_eq_false_iff_not] at h;obtain ⟨⟨h1,h2⟩,h3⟩ := h;refine ⟨?_,by simpa using h3⟩;unfold regB whiteB;rw [Bool.and_eq_true,Bool.not_eq_true',Bool.not_eq_true',decide_eq_false_iff_not];exact ⟨by omega,h2⟩
theorem encB_cons (b : UInt8) (t : List UInt8) : encB (b :: t) = (if needB b = true then [35,hexd (b.toNat / 16),hexd (b.toNat % 16)] else [b]) ++ encB t := rfl
theorem encB_reg : ∀ (t : List UInt8),∀ b ∈ encB t,regB b = true
 | [],b,h => by simp [encB] at h
 | c :: t,b,h => by
   rw [encB_cons,List.mem_append] at h;rcases h with h | h
   · have hc := c.toNat_lt;split at h
     · simp at h;rcases h with rfl | rfl | rfl
       · decide
       · exact (hexd_val _ (by omega)).2.1
       exact (hexd_val _ (by omega)).2.1
     rename_i hn;simp at h;subst h;exact (needB_reg (by simpa using hn)).1
   exact encB_reg t b h
theorem nbM_enc : ∀ (t : List UInt8),(∀ b ∈ t,b.toNat ≠ 0) → nbM (encB t) = some t
 | [],_ => rfl
 | c :: t,h => by
   have ih := nbM_enc t (fun b hb => h b (by simp [hb]));have hc := c.toNat_lt;have h0 := h c (by simp);rw [encB_cons];by_cases hn : needB c = true
   · rw [if_pos hn];obtain ⟨h1,_⟩ := hexd_val (c.toNat / 16) (by omega);obtain ⟨h2,_⟩ := hexd_val (c.toNat % 16) (by omega);show nbM (35 :: hexd (c.toNat / 16) :: hexd (c.toNat % 16) :: encB t) = _;rw [nbM_two (by rfl),h1,h2,if_neg (by omega),ih];have : (16 * ((c.toNat / 16 : Nat) : Int) + ((c.toNat % 16 : Nat) : Int)).toNat = c.toNat := by omega
     rw [this];simp
   rw [if_neg hn];show nbM (c :: encB t) = _;rw [nbM_plain (needB_reg (by simpa using hn)).2,ih];rfl
theorem nameAt_print {s t r : List UInt8} {k : Nat} {o : Bool} (h : ∀ b ∈ t,b.toNat ≠ 0) (hd : s.drop (k + 1) = encB t ++ r) (hr : Stop r) : (nameAt s k o).1 = some t ∧ (nameAt s k o).2.1 = k + 1 + (encB t).length ∧ s.drop (k + 1 + (encB t).length) = r := by
 unfold nameAt;rw [hd,wordR_run _ (encB_reg t) r o hr];refine ⟨by simp [nbM_enc t h],rfl,?_⟩;rw [← List.drop_drop,hd];simp
theorem refM_no {s : List UInt8} {k : Nat} {o : Bool} {n : Int} {t : List UInt8} (h : noR (s.drop k)) : (refM s k o n t).1 = .int ∧ (refM s k o n t).2.1 = k := by
 have e1 : (wordAt s (skipAt s k o).1 (skipAt s k o).2).1 = FW (s.drop k) := by
  unfold wordAt FW wdL skL;simp only;rw [show (skipAt s k o).1 = k + (passM false (s.drop k) false).1 by unfold skipAt;rw [passM_fst _ _ o false]];rw [← List.drop_drop,wordR_fstL _ _ false]
 have e2 : s.drop (wordAt s (skipAt s k o).1 (skipAt s k o).2).2.1 = aftL (skL (s.drop k)) := by
  unfold wordAt aftL skL;simp only;rw [show (skipAt s k o).1 = k + (passM false (s.drop k) false).1 by unfold skipAt;rw [passM_fst _ _ o false]];rw [← List.drop_drop,← List.drop_drop,wordR_fstL _ _ false]
 unfold refM;simp only;rcases h with h | h
 · rw [e1,h];exact ⟨rfl,rfl⟩
 have e3 : ∀ o',(wordAt s (skipAt s (wordAt s (skipAt s k o).1 (skipAt s k o).2).2.1 o').1 (skipAt s (wordAt s (skipAt s k o).1 (skipAt s k o).2).2.1 o').2).1 ≠ [82] := by
  intro o'
  have : (wordAt s (skipAt s (wordAt s (skipAt s k o).1 (skipAt s k o).2).2.1 o').1 (skipAt s (wordAt s (skipAt s k o).1 (skipAt s k o).2).2.1 o').2).1 = FW (s.drop (wordAt s (skipAt s k o).1 (skipAt s k o).2).2.1) := by
   generalize (wordAt s (skipAt s k o).1 (skipAt s k o).2).2.1 = j;unfold wordAt FW wdL skL;simp only;rw [show (skipAt s j o').1 = j + (passM false (s.drop j) false).1 by unfold skipAt;rw [passM_fst _ _ o' false]];rw [← List.drop_drop,wordR_fstL _ _ false]
  rw [this,e2];exact h
 split
 · exact ⟨rfl,rfl⟩
 split
 · rw [if_neg (fun hh => e3 _ hh.1)];exact ⟨rfl,rfl⟩
 exact ⟨rfl,rfl⟩
theorem refM_yes {s tn tg r : List UInt8} {k : Nat} {o : Bool} {n g : Int} (hn : 0 < n) (hg0 : 0 ≤ g ∧ g ≤ 65535) (hd : s.drop k = 32 :: (tg ++ 32 :: 82 :: r)) (hgw : numM tg = .int g) (hfg : firstDigit tg = true) (hfn : firstDigit tn = true) (hr : Stop r) :
 (refM s k o n tn).1 = .ref g ∧ (refM s k o n tn).2.1 = k + tg.length + 3 ∧ s.drop (k + tg.length + 3) = r := by
 obtain ⟨⟨b,u,e,hb⟩,ha⟩ := num_word (.inr ⟨g,hgw⟩);have w32 : WS [32] := fun b hb => by simp at hb;subst hb;decide
 have s32 : Stop (32 :: 82 :: r) := fun b u e => by injection e with e _;subst e;decide
 obtain ⟨h1,h2⟩ := skip_ws (o := o) (p := [32]) (b := b) (r := u ++ 32 :: 82 :: r) (by rw [hd,e];rfl) w32 (reg_SB (numB_reg hb));simp only [List.length_cons,List.length_nil,Nat.zero_add] at h1 h2;have h2' : s.drop (k + 1) = tg ++ 32 :: 82 :: r := by rw [h2,e];rfl
 obtain ⟨h3,h4,h5⟩ := word_run (o := o) h2' ha s32;obtain ⟨o2,ho2⟩ : ∃ o2,o2 = (wordAt s (k + 1) o).2.2 := ⟨_,rfl⟩;obtain ⟨h6,h7⟩ := skip_ws (o := o2) (p := [32]) (b := 82) (r := r) (by rw [h5];rfl) w32 (by unfold SB;decide);simp only [List.length_cons,List.length_nil,Nat.zero_add] at h6 h7;obtain ⟨h8,h9,h10⟩ := word_run (o := o2) (t := [82]) (r := r) (by rw [h7];rfl) (by decide) hr;simp only [List.length_cons,List.length_nil,Nat.zero_add] at h9 h10;unfold refM;simp only;rw [h1]
 try simp only
 rw [h3,hgw,h4]
 try simp only
 rw [← ho2,h6]
 try simp only
 rw [if_pos ⟨h8,hfg,hfn⟩,if_neg (by omega),h9];exact ⟨rfl,by omega,by rw [← h10];congr 1;omega⟩
inductive DOut (V : VRel) (s : List UInt8) (d : Nat) : List (List UInt8) → Z → Option (List (List UInt8) × List SVal) → Z → Prop
 | stop {acc : List (List UInt8)} {z : Z} (hb : z.bad ≠ 0) : DOut V s d acc z (some ([],[])) z
 | close {acc : List (List UInt8)} {z : Z} {k1 : Nat} {o1 : Bool} (hb : z.bad = 0) (hs : (k1,o1) = skipAt s z.k z.odd) (hc : ([62,62] : List UInt8).isPrefixOf (s.drop k1) = true) : DOut V s d acc z (some ([],[])) ⟨k1 + 2,0,o1,z.ends⟩
 | noKey {acc : List (List UInt8)} {z : Z} {k1 : Nat} {o1 : Bool} (hb : z.bad = 0) (hs : (k1,o1) = skipAt s z.k z.odd) (hc : ([62,62] : List UInt8).isPrefixOf (s.drop k1) = false) (h47 : ([47] : List UInt8).isPrefixOf (s.drop k1) = false) :
    DOut V s d acc z none ⟨k1,1,o1,z.ends || decide (s.length ≤ k1)⟩
 | elem {acc : List (List UInt8)} {z z' z'' : Z} {k1 : Nat} {o1 : Bool} {x : Option (List UInt8) × Nat × Bool} {v : SVal} {fin : Option (List (List UInt8) × List SVal)} (hb : z.bad = 0) (hs : (k1,o1) = skipAt s z.k z.odd)
    (hc : ([62,62] : List UInt8).isPrefixOf (s.drop k1) = false) (h47 : ([47] : List UInt8).isPrefixOf (s.drop k1) = true) (hx : x = nameAt s k1 o1)
    (hv : V d ⟨x.2.1,if x.1.isSome = true ∧ (∀ b ∈ x.1.getD [],b.toNat ≠ 35) ∧ x.1.getD [] ∉ acc then 0 else 2,x.2.2,z.ends⟩ v z') (ha : DOut V s d (acc ++ [x.1.getD []]) z' fin z'') :
    DOut V s d acc z (fin.map fun p => (x.1.getD [] :: p.1,v :: p.2)) z''
def DVal (V : VRel) (s : List UInt8) : VRel := fun d z v z' => ∃ fin,DOut V s d [] ⟨z.k + 2,z.bad,z.odd,z.ends⟩ fin z' ∧ v = match fin with | some p => .dict p.1 p.2 | none => .null
def VD (pf : List UInt8 → Nat) (s : List UInt8) : Nat → VRel
 | 0 => fun _ _ _ _ => False
 | m + 1 => VOne pf s (AOut (VD pf s m) s) (DVal (VD pf s m) s)
theorem drop_lt {s r : List UInt8} {k : Nat} {b : UInt8} (h : s.drop k = b :: r) : ∃ hk : k < s.length,s[k] = b := by
 have hk : k < s.length := by
  rcases Nat.lt_or_ge k s.length with h1 | h1
  · exact h1
  rw [List.drop_eq_nil_of_le h1] at h;cases h
 refine ⟨hk,?_⟩;rw [List.drop_eq_getElem_cons hk] at h;injection h
theorem drop_step {s r : List UInt8} {k : Nat} {b : UInt8} (h : s.drop k = b :: r) : s.drop (k + 1) = r := by
 rw [← List.drop_drop,h];rfl
section
variable {FF : Nat → List UInt8} {pf : List UInt8 → Nat}
def ReadTo (s rest : List UInt8) (z' : Z) : Prop := z'.bad = 0 ∧ ∃ pad,WS pad ∧ s.drop z'.k = pad ++ rest
theorem ReadTo.here {s rest : List UInt8} {k : Nat} {o e : Bool} (h : s.drop k = rest) : ReadTo s rest ⟨k,0,o,e⟩ := ⟨rfl,[],fun _ h => by simp at h,h⟩
def ReadsAs (s : List UInt8) (p : PObj) : Prop := ∀ (m d : Nat) (z z' : Z) (v : SVal) (ws rest : List UInt8),z.bad = 0 → WS ws → s.drop z.k = ws ++ (printP FF p ++ rest) → TailOk rest → d + levP p ≤ 50 → VD pf s m d z v z' →
 v = valP (fun x => pf (FF x)) p ∧ ReadTo s rest z'
theorem reads_arr (hI : ItoaOk) (s : List UInt8) (d m : Nat) (rest : List UInt8) : ∀ (l : List PObj),LGood FF l → (∀ p ∈ l,ReadsAs (FF := FF) (pf := pf) s p) → ∀ (first : Bool) (z z' : Z) (vs : List SVal) (ws : List UInt8),z.bad = 0 → WS ws →
 s.drop z.k = ws ++ (printA FF first l ++ 93 :: rest) → d + levL l ≤ 50 → AOut (VD pf s m) s d z vs z' → vs = valL (fun x => pf (FF x)) l ∧ z'.bad = 0 ∧ s.drop z'.k = rest
 | [],_,_,first,z,z',vs,ws,hb,hw,hd,_,h => by
   rw [printA] at hd;obtain ⟨h1,h2⟩ := skip_ws (o := z.odd) hd hw (by unfold SB;decide)
   cases h with
   | stop hz => exact absurd hb hz
   | close _ hs hc =>
     rw [h1] at hs;injection hs with e1 e2;subst e1;exact ⟨by rw [valL],rfl,drop_step h2⟩
   | elem _ hs hc hv ha =>
     rw [h1] at hs;injection hs with e1 e2;subst e1;rw [h2] at hc;simp at hc
 | p :: l,hg,hr,first,z,z',vs,ws,hb,hw,hd,hl,h => by
   unfold LGood at hg;rw [levL] at hl;rw [printA,List.append_assoc,List.append_assoc,← List.append_assoc] at hd;have hw' := hw.app (ws_sp (first || !spA p));obtain ⟨b,r,e,hB⟩ := print_head hI hg.1;have hd0 := hd;rw [e] at hd;obtain ⟨h1,h2⟩ := skip_ws (o := z.odd) hd hw' hB.1
   cases h with
   | stop hz => exact absurd hb hz
   | close _ hs hc =>
     rw [h1] at hs;injection hs with e1 e2;subst e1;rw [h2] at hc;simp at hc;exact absurd (by rw [← hc];rfl) hB.2.2.1
   | elem _ hs hc hv ha =>
     rw [h1] at hs;injection hs with e1 e2;subst e1;obtain ⟨hT,_⟩ := arr_tail (FF := FF) hI rest l hg.2;obtain ⟨rfl,hz,pad,hpw,hpd⟩ := hr p (by simp) m d _ _ _ [] (printA FF false l ++ 93 :: rest) rfl (fun _ h => by simp at h) (by rw [List.nil_append,e];exact h2) hT (by omega) hv;obtain ⟨rfl,hz2,hd2⟩ := reads_arr hI s d m rest l hg.2 (fun q hq => hr q (by simp [hq])) false _ z' _ pad hz hpw hpd (by omega) ha;exact ⟨by rw [valL],hz2,hd2⟩
theorem reads_dict (hI : ItoaOk) (s : List UInt8) (d m : Nat) (rest : List UInt8) : ∀ (ks : List (List UInt8)) (l : List PObj),ks.length = l.length → (∀ k ∈ ks,∀ b ∈ k,b.toNat ≠ 0 ∧ b.toNat ≠ 35) → LGood FF l → (∀ p ∈ l,ReadsAs (FF := FF) (pf := pf) s p) →
 ∀ (acc : List (List UInt8)) (z z' : Z) (fin : Option (List (List UInt8) × List SVal)) (ws : List UInt8),(acc ++ ks).Pairwise (· ≠ ·) → z.bad = 0 → WS ws →
 s.drop z.k = ws ++ (printD FF ks l ++ 62 :: 62 :: rest) → d + levL l ≤ 50 → DOut (VD pf s m) s d acc z fin z' → fin = some (ks,valL (fun x => pf (FF x)) l) ∧ z'.bad = 0 ∧ s.drop z'.k = rest
 | [],[],_,_,_,_,acc,z,z',fin,ws,_,hb,hw,hd,_,h => by
   rw [printD] at hd;obtain ⟨h1,h2⟩ := skip_ws (o := z.odd) hd hw (by unfold SB;decide)
   cases h with
   | stop hz => exact absurd hb hz
   | close _ hs hc =>
     rw [h1] at hs;injection hs with e1 e2;subst e1;exact ⟨by rw [valL],rfl,drop_step (drop_step h2)⟩
   | noKey _ hs hc h47 =>
     rw [h1] at hs;injection hs with e1 e2;subst e1;rw [h2] at hc;simp at hc
   | elem _ hs hc h47 hx hv ha =>
     rw [h1] at hs;injection hs with e1 e2;subst e1;rw [h2] at hc;simp at hc
 | k :: ks,p :: l,hlen,hk,hg,hr,acc,z,z',fin,ws,hpw,hb,hw,hd,hl,h => by
   unfold LGood at hg;rw [levL] at hl;rw [printD] at hd;obtain ⟨h1,h2⟩ := skip_ws (o := z.odd) (b := 47) (r := encB k ++ ((if spB p = true then [32] else []) ++ (printP FF p ++ printD FF ks l)) ++ 62 :: 62 :: rest) (by rw [hd];simp) hw (by unfold SB;decide)
   cases h with
   | stop hz => exact absurd hb hz
   | close _ hs hc =>
     rw [h1] at hs;injection hs with e1 e2;subst e1;rw [h2] at hc;simp at hc
   | noKey _ hs hc h47 =>
     rw [h1] at hs;injection hs with e1 e2;subst e1;rw [h2] at h47;simp at h47
   | @elem _ _ zv _ _ _ x v fin' _ hs hc h47 hx hv ha =>
     rw [h1] at hs;injection hs with e1 e2;subst e1 e2;have h3 := drop_step h2;obtain ⟨b,r,e,hB⟩ := print_head hI hg.1
     have hst : Stop (((if spB p = true then [32] else []) ++ (printP FF p ++ printD FF ks l)) ++ 62 :: 62 :: rest) := by
      intro c u hc
      cases hsp : spB p with
      | true =>
        rw [hsp] at hc;simp only [if_true,List.append_assoc,List.cons_append,List.nil_append] at hc;injection hc with hc _;subst hc;decide
      | false =>
        rw [hsp] at hc;simp only [Bool.false_eq_true,if_false,List.nil_append,List.append_assoc] at hc;cases p <;> simp [spB] at hsp <;> (rw [printP] at hc;injection hc with hc _;subst hc;decide)
     obtain ⟨n1,n2,n3⟩ := nameAt_print (s := s) (k := z.k + ws.length) (o := z.odd) (fun b hb => (hk k (by simp) b hb).1) (by rw [h3,List.append_assoc]) hst;rw [← hx] at n1 n2
     have hnk : k ∉ acc := by
      intro hm;rw [List.pairwise_append] at hpw;exact hpw.2.2 k hm k (by simp) rfl
     rw [n1,n2] at hv;rw [Option.getD_some,if_pos ⟨rfl,fun b hb => (hk k (by simp) b hb).2,hnk⟩] at hv;rw [n1,Option.getD_some] at ha;have hT : TailOk (printD FF ks l ++ 62 :: 62 :: rest) := dict_tail (FF := FF) (62 :: rest) ks l;obtain ⟨rfl,hz,pad,hpw2,hpd⟩ := hr p (by simp) m d _ _ _ (if spB p = true then [32] else []) (printD FF ks l ++ 62 :: 62 :: rest) rfl (ws_sp' _) (by rw [n3];simp) hT (by omega) hv;obtain ⟨rfl,hz2,hd2⟩ := reads_dict hI s d m rest ks l (by simpa using hlen) (fun q hq => hk q (by simp [hq])) hg.2 (fun q hq => hr q (by simp [hq])) (acc ++ [k]) _ z' _ pad (by rw [List.append_assoc];exact hpw) hz hpw2 hpd (by omega) ha;exact ⟨by rw [n1];rfl,hz2,hd2⟩
 | [],_ :: _,hlen,_,_,_,_,_,_,_,_,_,_,_,_,_,_ => by simp at hlen
 | _ :: _,[],hlen,_,_,_,_,_,_,_,_,_,_,_,_,_,_ => by simp at hlen
theorem numF_word {s t r : List UInt8} {k : Nat} {o : Bool} {x : SVal × Nat × Bool × Nat} (hx : x = numF pf s k o) (h : s.drop k = t ++ r) (ht : numM t = .real ∨ ∃ n,numM t = .int n) (hr : Stop r) :
 x = match numM t with
 | .refused => (.null,(wordAt s k o).2.1,(wordAt s k o).2.2,1)
 | .open_ => (.null,(wordAt s k o).2.1,(wordAt s k o).2.2,2)
 | .real => (.real (pf t),(wordAt s k o).2.1,(wordAt s k o).2.2,0)
 | .int n => match refM s (wordAt s k o).2.1 (wordAt s k o).2.2 n t with
   | (.int,p) => (.int n,p.1,p.2,0)
   | (.ref g,p) => (.ref n g,p.1,p.2,0)
   | (.zero,p) => (.null,p.1,p.2,2) := by
 obtain ⟨⟨b,u,e,hb⟩,ha⟩ := num_word ht;obtain ⟨h1,h2,h3⟩ := word_run (o := o) h ha hr
 have hne : ∀ c v,(∃ q,numB q ∧ (c : UInt8) = q) ∨ True → t = c :: v → numB c := by
  intro c v _ e2;rw [e] at e2;injection e2 with e3 _;rw [← e3];exact hb
 rw [hx];unfold numF;simp only;rw [h1];have n1 : t ≠ [116,114,117,101] := fun e2 => by have := hne _ _ (.inr trivial) e2;unfold numB digitB at this;revert this;decide
 have n2 : t ≠ [102,97,108,115,101] := fun e2 => by have := hne _ _ (.inr trivial) e2;unfold numB digitB at this;revert this;decide
 have n3 : t ≠ [110,117,108,108] := fun e2 => by have := hne _ _ (.inr trivial) e2;unfold numB digitB at this;revert this;decide
 rw [if_neg n1,if_neg n2,if_neg n3]
 cases numM t with
 | int n =>
   simp only;generalize refM s (wordAt s k o).2.1 (wordAt s k o).2.2 n t = y;obtain ⟨a,b,c⟩ := y;cases a <;> rfl
 | _ => rfl
theorem levP_pos (p : PObj) : 1 ≤ levP p := by cases p <;> simp [levP]
theorem delimB_of_reg {b : UInt8} (h : regB b = true) : delimB b = false ∧ b.toNat ≠ 40 ∧ b.toNat ≠ 60 ∧ b.toNat ≠ 47 ∧ b.toNat ≠ 91 := by
 unfold regB at h;rw [Bool.and_eq_true,Bool.not_eq_true',Bool.not_eq_true'] at h;refine ⟨h.2,?_⟩;have := h.2;unfold delimB at this;rw [decide_eq_false_iff_not] at this;omega
theorem step_num {s : List UInt8} {A : Nat → Z → List SVal → Z → Prop} {D : VRel} {d : Nat} {z z' : Z} {k1 : Nat} {o1 : Bool} {v : SVal} {b : UInt8} {r : List UInt8} (hb : z.bad = 0) (hd : d + 1 ≤ 50) (h : s.drop k1 = b :: r) (hr : regB b = true)
 (hv : VStep pf s A D d z k1 o1 v z') : ∃ x,x = numF pf s k1 o1 ∧ v = x.1 ∧ z' = ⟨x.2.1,x.2.2.2,x.2.2.1,z.ends⟩ := by
 obtain ⟨hk,e⟩ := drop_lt h;obtain ⟨hdl,h40,h60,h47,h91⟩ := delimB_of_reg hr
 cases hv with
 | bad h' => exact absurd hb h'
 | deep _ h' => omega
 | over _ _ h' => omega
 | lit _ _ _ hc _ => rw [e] at hc;exact absurd hc h40
 | litOpen _ _ _ hc _ => rw [e] at hc;exact absurd hc h40
 | dict _ _ _ hc _ => rw [h] at hc;simp at hc;exact absurd (by rw [← hc.1];rfl) h60
 | hex _ _ _ hc _ _ => rw [e] at hc;exact absurd hc h60
 | name _ _ _ hc _ => rw [e] at hc;exact absurd hc h47
 | arr _ _ _ hc _ => rw [e] at hc;exact absurd hc h91
 | delim _ _ _ _ h' => rw [e,hdl] at h';cases h'
 | num _ _ _ _ hx => exact ⟨_,hx,rfl,rfl⟩
theorem readsAs (hI : ItoaOk) (s : List UInt8) : ∀ (n : Nat) (p : PObj),SizeOf.sizeOf p ≤ n → PGood FF p → ReadsAs (FF := FF) (pf := pf) s p
 | 0,p,hn,_ => by cases p <;> simp at hn
 | n + 1,p,hn,hg => by
   intro m d z z' v ws rest hb hw hd hT hl hv;obtain ⟨hS,hN⟩ := hT
   cases m with
   | zero => exact hv.elim
   | succ m =>
   obtain ⟨b,r,e,hB⟩ := print_head hI hg;have hd' := hd;rw [e] at hd';obtain ⟨h1,h2⟩ := skip_ws (o := z.odd) hd' hw hB.1
   have hv' : VStep pf s (AOut (VD pf s m) s) (DVal (VD pf s m) s) d z (z.k + ws.length) z.odd v z' := by
    have : VOne pf s (AOut (VD pf s m) s) (DVal (VD pf s m) s) d z v z' := hv;unfold VOne at this;rw [h1] at this;exact this
   clear hv hd';have h2p : s.drop (z.k + ws.length) = printP FF p ++ rest := by rw [h2,e];rfl
   obtain ⟨K,hK⟩ : ∃ K,K = z.k + ws.length := ⟨_,rfl⟩;rw [← hK] at hv' h2 h2p;clear hd h1 hK;have hd50 : d + 1 ≤ 50 := by have := levP_pos p;omega
   obtain ⟨hkl,hbe⟩ := drop_lt h2
   have word : ∀ (t : List UInt8),(∀ b ∈ t,regB b = true) → (t = [110,117,108,108] ∨ t = [116,114,117,101] ∨ t = [102,97,108,115,101]) → printP FF p = t → v = (if t = [116,114,117,101] then .bool true else if t = [102,97,108,115,101] then .bool false else .null) ∧ ReadTo s rest z' := by
    intro t ht hw e2;rw [e2] at h2p e;obtain ⟨w1,w2,w3⟩ := word_run (o := z.odd) h2p ht hS;obtain ⟨x,hx,rfl,rfl⟩ := step_num hb hd50 h2 (ht b (by rw [e];simp)) hv';unfold numF at hx;simp only at hx;rw [w1] at hx;rcases hw with rfl | rfl | rfl
    · rw [if_neg (by decide),if_neg (by decide),if_pos rfl] at hx;rw [hx];exact ⟨rfl,ReadTo.here (by rw [w2];exact w3)⟩
    · rw [if_pos rfl] at hx;rw [hx];exact ⟨rfl,ReadTo.here (by rw [w2];exact w3)⟩
    rw [if_neg (by decide),if_pos rfl] at hx;rw [hx];exact ⟨rfl,ReadTo.here (by rw [w2];exact w3)⟩
   cases p with
   | null =>
     obtain ⟨a1,a2⟩ := word [110,117,108,108] (by decide) (.inl rfl) (by rw [printP]);exact ⟨by rw [a1,valP];rfl,a2⟩
   | bool c =>
     cases c with
     | true =>
       obtain ⟨a1,a2⟩ := word [116,114,117,101] (by decide) (.inr (.inl rfl)) (by rw [printP];rfl);exact ⟨by rw [a1,valP];rfl,a2⟩
     | false =>
       obtain ⟨a1,a2⟩ := word [102,97,108,115,101] (by decide) (.inr (.inr rfl)) (by rw [printP];rfl);exact ⟨by rw [a1,valP];rfl,a2⟩
   | int n =>
     clear word;unfold PGood at hg;have hw1 := (hI n hg.1 hg.2).1;rw [printP] at h2p e;obtain ⟨⟨b',r',e',hb'⟩,ha⟩ := num_word (.inr ⟨n,hw1⟩);rw [e] at ha;obtain ⟨x,hx,rfl,rfl⟩ := step_num hb hd50 h2 (ha b (by simp)) hv';rw [← e] at ha;have hx2 := numF_word hx h2p (.inr ⟨n,hw1⟩) hS;obtain ⟨w1,w2,w3⟩ := word_run (o := z.odd) h2p ha hS;rw [hw1,w2] at hx2;simp only at hx2;obtain ⟨r1,r2⟩ := refM_no (s := s) (k := K + (Lib.itoa n).length) (o := (wordAt s K z.odd).2.2) (n := n) (t := Lib.itoa n) (by rw [w3];exact hN);obtain ⟨q,hq⟩ : ∃ q,q = refM s (K + (Lib.itoa n).length) (wordAt s K z.odd).2.2 n (Lib.itoa n) := ⟨_,rfl⟩;rw [← hq] at hx2 r1 r2;obtain ⟨q1,q2,q3⟩ := q;simp only at r1 r2;subst r1 r2;simp only at hx2;rw [hx2];exact ⟨by rw [valP],ReadTo.here w3⟩
   | real f =>
     clear word;unfold PGood at hg;rw [printP] at h2p e;obtain ⟨⟨b',r',e',hb'⟩,ha⟩ := num_word (.inl hg);rw [e] at ha;obtain ⟨x,hx,rfl,rfl⟩ := step_num hb hd50 h2 (ha b (by simp)) hv';rw [← e] at ha;have hx2 := numF_word hx h2p (.inl hg) hS;obtain ⟨w1,w2,w3⟩ := word_run (o := z.odd) h2p ha hS;rw [hg,w2] at hx2;simp only at hx2;rw [hx2];exact ⟨by rw [valP],ReadTo.here w3⟩
   | ref n g =>
     clear word;unfold PGood at hg;have hw1 := hI n (by omega) hg.2.1;have hw2 := hI g (by omega) (by omega);rw [printP] at h2p e;rw [List.append_assoc] at h2p;have hS1 : Stop (32 :: (Lib.itoa g ++ [32,82]) ++ rest) := fun c u hc => by injection hc with hc _;subst hc;decide
     obtain ⟨⟨b',r',e',hb'⟩,ha⟩ := num_word (.inr ⟨n,hw1.1⟩)
     have hbb : b = b' := by
      have h3 := h2p;rw [h2,e'] at h3;injection h3
     obtain ⟨x,hx,rfl,rfl⟩ := step_num hb hd50 h2 (by rw [hbb];exact numB_reg hb') hv';have hx2 := numF_word hx h2p (.inr ⟨n,hw1.1⟩) hS1;obtain ⟨w1,w2,w3⟩ := word_run (o := z.odd) h2p ha hS1;rw [hw1.1,w2] at hx2;simp only at hx2;obtain ⟨r1,r2,r3⟩ := refM_yes (s := s) (tn := Lib.itoa n) (tg := Lib.itoa g) (r := rest) (k := K + (Lib.itoa n).length) (o := (wordAt s K z.odd).2.2) (n := n) (g := g) hg.1 hg.2.2 (by rw [w3];simp) hw2.1 (hw2.2 hg.2.2.1) (hw1.2 (by omega)) hS;obtain ⟨q,hq⟩ : ∃ q,q = refM s (K + (Lib.itoa n).length) (wordAt s K z.odd).2.2 n (Lib.itoa n) := ⟨_,rfl⟩;rw [← hq] at hx2 r1 r2;obtain ⟨q1,q2,q3⟩ := q;simp only at r1 r2;subst r1 r2;simp only at hx2;rw [hx2];exact ⟨by rw [valP],ReadTo.here r3⟩
   | lit t =>
     clear word;unfold PGood at hg;obtain ⟨out,hout⟩ := hg;rw [printP] at h2p e;injection e with eb _;subst eb;have ht := litAt_print (s := s) (r := rest) (k := K) hout (by rw [h2p];simp);have h3 : s.drop (K + (t.length + 2)) = rest := by rw [← List.drop_drop,h2p];simp
     cases hv' with
     | bad h' => exact absurd hb h'
     | deep _ h' => omega
     | over _ _ h' => omega
     | lit _ _ _ hc hl2 =>
       rw [ht] at hl2;injection hl2 with hl2;injection hl2 with e1 e2;subst e1 e2;exact ⟨by rw [valP,litV,hout];rfl,ReadTo.here h3⟩
     | litOpen _ _ _ hc hl2 => rw [ht] at hl2;cases hl2
     | dict _ _ _ hc _ => rw [h2] at hc;simp at hc
     | hex _ _ _ hc _ _ => rw [hbe] at hc;exact absurd hc (by decide)
     | name _ _ _ hc _ => rw [hbe] at hc;exact absurd hc (by decide)
     | arr _ _ _ hc _ => rw [hbe] at hc;exact absurd hc (by decide)
     | delim _ _ _ hc h' => rw [hbe] at hc;exact absurd rfl hc.1
     | num _ _ _ h' hx => rw [hbe] at h';exact absurd h' (by decide)
   | hex t =>
     clear word;unfold PGood at hg;rw [printP] at h2p e;injection e with eb _;subst eb;have h2q := drop_step h2
     have h2r : s.drop (K + 1) = t ++ 62 :: rest := by
      rw [← List.drop_drop,h2p];simp
     obtain ⟨x1,x2,x3⟩ := hexAt_print (o := z.odd) hg h2r;have h3 : s.drop (K + (t.length + 2)) = rest := by rw [← List.drop_drop,h2p];simp
     have hnd : ([60,60] : List UInt8).isPrefixOf (s.drop K) = false := by
      rw [h2p]
      cases t with
      | nil => rfl
      | cons c t =>
        have hc := hg c (by simp);have h60 : c ≠ 60 := by rintro rfl;revert hc;decide
        have h60' : ((60 : UInt8) == c) = false := by rw [beq_eq_false_iff_ne];exact Ne.symm h60
        show ((60 : UInt8) == 60 && ((60 : UInt8) == c && _)) = false;rw [h60'];rfl
     cases hv' with
     | bad h' => exact absurd hb h'
     | deep _ h' => omega
     | over _ _ h' => omega
     | lit _ _ _ hc hl2 => rw [hbe] at hc;exact absurd hc (by decide)
     | litOpen _ _ _ hc hl2 => rw [hbe] at hc;exact absurd hc (by decide)
     | dict _ _ _ hc _ => rw [hnd] at hc;cases hc
     | hex _ _ _ hc _ hx =>
       rw [← hx] at x1 x2 x3;rw [x1,x2,x3];exact ⟨by rw [valP];rfl,ReadTo.here h3⟩
     | name _ _ _ hc _ => rw [hbe] at hc;exact absurd hc (by decide)
     | arr _ _ _ hc _ => rw [hbe] at hc;exact absurd hc (by decide)
     | delim _ _ _ hc h' => rw [hbe] at hc;exact absurd rfl hc.2.1
     | num _ _ _ h' hx => rw [hbe] at h';exact absurd h' (by decide)
   | name t =>
     clear word;unfold PGood at hg;rw [printP] at h2p e;injection e with eb _;subst eb
     have h2r : s.drop (K + 1) = encB t ++ ((if t = [] then [32] else []) ++ rest) := by
      rw [← List.drop_drop,h2p];by_cases h0 : t = []
      · subst h0;simp [encB]
      simp [h0]
     have hS1 : Stop ((if t = [] then [32] else []) ++ rest) := by
      by_cases h0 : t = []
      · rw [if_pos h0];intro c u hc;injection hc with hc _;subst hc;decide
      rw [if_neg h0];exact hS
     obtain ⟨x1,x2,x3⟩ := nameAt_print (o := z.odd) hg h2r hS1
     cases hv' with
     | bad h' => exact absurd hb h'
     | deep _ h' => omega
     | over _ _ h' => omega
     | lit _ _ _ hc hl2 => rw [hbe] at hc;exact absurd hc (by decide)
     | litOpen _ _ _ hc hl2 => rw [hbe] at hc;exact absurd hc (by decide)
     | dict _ _ _ hc _ => rw [h2] at hc;simp at hc
     | hex _ _ _ hc _ hx => rw [hbe] at hc;exact absurd hc (by decide)
     | name _ _ _ hc hx =>
       rw [← hx] at x1 x2;rw [x1,x2];refine ⟨by rw [valP];rfl,rfl,(if t = [] then [32] else []),?_,x3⟩;intro c hc;split at hc
       · simp at hc;subst hc;decide
       simp at hc
     | arr _ _ _ hc _ => rw [hbe] at hc;exact absurd hc (by decide)
     | delim _ _ _ hc h' => rw [hbe] at hc;exact absurd rfl hc.2.2.1
     | num _ _ _ h' hx => rw [hbe] at h';exact absurd h' (by decide)
   | arr l =>
     clear word;unfold PGood at hg;rw [levP] at hl;rw [printP] at h2p e;injection e with eb er;subst eb
     have h2r : s.drop (K + 1) = [] ++ (printA FF true l ++ 93 :: rest) := by
      rw [← List.drop_drop,h2p];simp
     have hmem : ∀ p ∈ l,ReadsAs (FF := FF) (pf := pf) s p := by
      intro p hp;refine readsAs hI s n p ?_ ?_
      · have := List.sizeOf_lt_of_mem hp;simp at hn;omega
      clear hn er h2p h2r hl hv'
      induction l with
      | nil => simp at hp
      | cons q l ih =>
        unfold LGood at hg;rcases List.mem_cons.1 hp with rfl | hp
        · exact hg.1
        exact ih hg.2 hp
     cases hv' with
     | bad h' => exact absurd hb h'
     | deep _ h' => omega
     | over _ _ h' => omega
     | lit _ _ _ hc hl2 => rw [hbe] at hc;exact absurd hc (by decide)
     | litOpen _ _ _ hc hl2 => rw [hbe] at hc;exact absurd hc (by decide)
     | dict _ _ _ hc _ => rw [h2] at hc;simp at hc
     | hex _ _ _ hc _ hx => rw [hbe] at hc;exact absurd hc (by decide)
     | name _ _ _ hc hx => rw [hbe] at hc;exact absurd hc (by decide)
     | arr _ _ _ hc hA =>
       obtain ⟨rfl,a1,a2⟩ := reads_arr hI s (d + 1) m rest l hg hmem true _ z' _ [] rfl (fun _ h => by simp at h) h2r (by omega) hA;exact ⟨by rw [valP],a1,[],fun _ h => by simp at h,a2⟩
     | delim _ _ _ hc h' => rw [hbe] at hc;exact absurd rfl hc.2.2.2
     | num _ _ _ h' hx => rw [hbe] at h';exact absurd h' (by decide)
   | dict ks l =>
     clear word;unfold PGood at hg;rw [levP] at hl;rw [printP] at h2p e;injection e with eb er;subst eb
     have h2r : s.drop (K + 2) = [] ++ (printD FF ks l ++ 62 :: 62 :: rest) := by
      rw [← List.drop_drop,h2p];simp
     have hmem : ∀ p ∈ l,ReadsAs (FF := FF) (pf := pf) s p := by
      intro p hp;refine readsAs hI s n p ?_ ?_
      · have := List.sizeOf_lt_of_mem hp;simp at hn;omega
      have hg' := hg.2.2.2;clear hn er h2p h2r hl hv' hg
      induction l with
      | nil => simp at hp
      | cons q l ih =>
        unfold LGood at hg';rcases List.mem_cons.1 hp with rfl | hp
        · exact hg'.1
        exact ih hp hg'.2
     have hdd : ([60,60] : List UInt8).isPrefixOf (s.drop K) = true := by rw [h2p];simp
     cases hv' with
     | bad h' => exact absurd hb h'
     | deep _ h' => omega
     | over _ _ h' => omega
     | lit _ _ _ hc hl2 => rw [hbe] at hc;exact absurd hc (by decide)
     | litOpen _ _ _ hc hl2 => rw [hbe] at hc;exact absurd hc (by decide)
     | dict _ _ _ hc hD =>
       obtain ⟨fin,hD,rfl⟩ := hD;obtain ⟨rfl,a1,a2⟩ := reads_dict hI s (d + 1) m rest ks l hg.1 hg.2.1 hg.2.2.2 hmem [] _ z' _ [] (by rw [List.nil_append];exact hg.2.2.1) rfl (fun _ h => by simp at h) h2r (by omega) hD;exact ⟨by rw [valP],a1,[],fun _ h => by simp at h,a2⟩
     | hex _ _ _ hc hnn hx => rw [hdd] at hnn;cases hnn
     | name _ _ _ hc hx => rw [hbe] at hc;exact absurd hc (by decide)
     | arr _ _ _ hc hA => rw [hbe] at hc;exact absurd hc (by decide)
     | delim _ _ _ hc h' => rw [hbe] at hc;exact absurd rfl hc.2.1
     | num _ _ _ h' hx => rw [hbe] at h';exact absurd h' (by decide)
end
section
variable {FF : Nat → List UInt8} {pf : List UInt8 → Nat}
def textsB (FF : Nat → List UInt8) : List PObj → List UInt8
 | [] => []
 | p :: l => printP FF p ++ 10 :: textsB FF l
theorem texts_app : ∀ (a b : List PObj),textsB FF (a ++ b) = textsB FF a ++ textsB FF b
 | [],_ => rfl
 | p :: a,b => by rw [List.cons_append,textsB,textsB,texts_app a b];simp
theorem texts_tail (hI : ItoaOk) : ∀ (l : List PObj),LGood FF l → TailOk (10 :: textsB FF l) ∧ NR (10 :: textsB FF l)
 | [],_ => by
   have w : WS [10] := fun b hb => by simp at hb;subst hb;decide
   refine ⟨⟨fun b r e => by injection e with e _;subst e;decide,noR_ws w⟩,?_⟩;rw [textsB];unfold NR;decide
 | p :: l,h => by
   unfold LGood at h;have w : WS [10] := fun b hb => by simp at hb;subst hb;decide
   obtain ⟨hT,hN⟩ := texts_tail hI l h.2;rw [textsB];refine ⟨⟨fun b r e => by injection e with e _;subst e;decide,noR_tok (ws := [10]) hI h.1 w hT.1 hN⟩,NR_tail (ws := [10]) hI h.1 w⟩
theorem read_top (hI : ItoaOk) {p : PObj} {l : List PObj} (hp : PGood FF p) (hl : LGood FF l) (hv : levP p ≤ 50) {m : Nat} {v : SVal} {z' : Z} {s : List UInt8} (hs : s = printP FF p ++ 10 :: textsB FF l) (h : VD pf s m 0 ⟨0,0,false,false⟩ v z') :
 v = valP (fun x => pf (FF x)) p ∧ z'.bad = 0 := by
 obtain ⟨h1,h2,_⟩ := readsAs (FF := FF) (pf := pf) hI s _ p (Nat.le_refl _) hp m 0 _ z' v [] _ rfl (fun _ h => by simp at h) (by rw [List.nil_append];exact hs) (texts_tail hI l hl).1 (by omega) h;exact ⟨h1,h2⟩
theorem texts_at (l : List PObj) (i : Nat) (h : i < l.length) (pre : List UInt8) : (pre ++ textsB FF l).drop (pre.length + (textsB FF (l.take i)).length) = printP FF l[i] ++ 10 :: textsB FF (l.drop (i + 1)) := by
 rw [← List.drop_drop,List.drop_left]
 have e : textsB FF l = textsB FF (l.take i) ++ (printP FF l[i] ++ 10 :: textsB FF (l.drop (i + 1))) := by
  have := texts_app (FF := FF) (l.take i) (l.drop i);rw [List.take_append_drop,List.drop_eq_getElem_cons h] at this;rw [this];rfl
 rw [e,List.drop_left]
def headT : Bool → List (Int × Nat) → List UInt8
 | _,[] => []
 | first,(n,k) :: l => (if first = true then [] else [32]) ++ (Lib.itoa n ++ 32 :: (Lib.itoa k ++ headT false l))
theorem headT_snoc : ∀ (l : List (Int × Nat)) (first : Bool) (n : Int) (k : Nat),headT first (l ++ [(n,k)]) = headT first l ++ ((if (first && l.isEmpty) = true then [] else [32]) ++ (Lib.itoa n ++ 32 :: Lib.itoa k))
 | [],first,n,k => by cases first <;> simp [headT]
 | (a,b) :: l,first,n,k => by
   rw [List.cons_append,headT,headT,headT_snoc l false n k];simp
end
end Go.Proofs.YtcpijmbdibgdmaaGreatDoor
