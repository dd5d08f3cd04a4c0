/-
  Objects as data, what they stand for and what is written of them: plain words.
  Maps that the call fills: updates, look-ups, ranges.
  impl.Object in memory.
  spec.fewIn.
-/
import Derived.Test.YtcpijmbdibgdmaaGreatDoorMs03
import GoSem.Core.Float
import Derived.Maps.RangeRun
import Derived.Maps.RangeWalk
import Derived.Maps.OwnSet
import Derived.Below
set_option linter.all false
set_option maxHeartbeats 16000000
set_option maxRecDepth 100000
namespace Go.Proofs.YtcpijmbdibgdmaaGreatDoor
open Go.RowKit
inductive PObj where
 | null
 | bool (b : Bool)
 | int (n : Int)
 | real (x : Nat)
 | lit (t : List UInt8)
 | hex (t : List UInt8)
 | name (t : List UInt8)
 | ref (n g : Int)
 | arr (l : List PObj)
 | dict (ks : List (List UInt8)) (l : List PObj)
def hexd (n : Nat) : UInt8 := if n < 10 then UInt8.ofNat (48 + n) else UInt8.ofNat (87 + n)
def needB (b : UInt8) : Bool := decide (b.toNat < 33 ∨ 126 < b.toNat) || delimB b || b.toNat == 35
def encB (t : List UInt8) : List UInt8 := t.flatMap fun b => if needB b = true then [35,hexd (b.toNat / 16),hexd (b.toNat % 16)] else [b]
def spB : PObj → Bool
 | .null | .bool _ | .int _ | .real _ | .ref _ _ => true
 | _ => false
def spA : PObj → Bool
 | .arr _ | .dict _ _ | .name _ => false
 | _ => true
section
variable (FF : Nat → List UInt8) (pf : List UInt8 → Nat)
mutual
def printP : PObj → List UInt8
 | .null => [110,117,108,108]
 | .bool b => if b then [116,114,117,101] else [102,97,108,115,101]
 | .int n => Lib.itoa n
 | .real x => FF x
 | .lit t => 40 :: (t ++ [41])
 | .hex t => 60 :: (t ++ [62])
 | .name t => 47 :: (if t = [] then [32] else encB t)
 | .ref n g => Lib.itoa n ++ 32 :: (Lib.itoa g ++ [32,82])
 | .arr l => 91 :: (printA true l ++ [93])
 | .dict ks l => 60 :: 60 :: (printD ks l ++ [62,62])
def printA : Bool → List PObj → List UInt8
 | _,[] => []
 | first,p :: l => (if first || !spA p then [] else [32]) ++ (printP p ++ printA false l)
def printD : List (List UInt8) → List PObj → List UInt8
 | _,[] => []
 | [],_ :: _ => []
 | k :: ks,p :: l => 47 :: (encB k ++ ((if spB p then [32] else []) ++ (printP p ++ printD ks l)))
end
def litS (t : List UInt8) : Option (List UInt8 × Nat) := litM (t.length + 3) (40 :: (t ++ [41])) 0
def litV (t : List UInt8) : List UInt8 := ((litS t).map (·.1)).getD []
def hexS (t : List UInt8) : List UInt8 := (hexM (t ++ [62]) 0 false false).2.1
mutual
def valP (rf : Nat → Nat) : PObj → SVal
 | .null => .null
 | .bool b => .bool b
 | .int n => .int n
 | .real x => .real (rf x)
 | .lit t => .str (litV t)
 | .hex t => .str (hexS t)
 | .name t => .name t
 | .ref n g => .ref n g
 | .arr l => .arr (valL rf l)
 | .dict ks l => .dict ks (valL rf l)
def valL (rf : Nat → Nat) : List PObj → List SVal
 | [] => []
 | p :: l => valP rf p :: valL rf l
end
mutual
def levP : PObj → Nat
 | .arr l | .dict _ l => levL l + 1
 | _ => 1
def levL : List PObj → Nat
 | [] => 0
 | p :: l => max (levP p) (levL l)
end
mutual
def PGood : PObj → Prop
 | .null | .bool _ => True
 | .int n => -2147483648 ≤ n ∧ n ≤ 2147483647
 | .real x => numM (FF x) = .real
 | .lit t => ∃ out,litS t = some (out,t.length + 2)
 | .hex t => ∀ b ∈ t,0 ≤ hexV b
 | .name t => ∀ b ∈ t,b.toNat ≠ 0
 | .ref n g => 0 < n ∧ n ≤ 2147483647 ∧ 0 ≤ g ∧ g ≤ 65535
 | .arr l => LGood l
 | .dict ks l => ks.length = l.length ∧ (∀ k ∈ ks,∀ b ∈ k,b.toNat ≠ 0 ∧ b.toNat ≠ 35) ∧ ks.Pairwise (· ≠ ·) ∧ LGood l
def LGood : List PObj → Prop
 | [] => True
 | p :: l => PGood p ∧ LGood l
end
end
inductive OObj where
 | mk (kd n g : Int) (x : Nat) (t : List UInt8) (ks : List (List UInt8)) (l : List OObj)
def relNZ (x : Nat) : Bool := FloatKind.f64.format.order x 0 != some .eq
def onlyB (kd n g : Int) (x : Nat) (t : List UInt8) (nks nl : Nat) : Bool :=
 !((n != 0 && !(kd == 1 || kd == 2 || kd == 9)) || (g != 0 && kd != 9) || (relNZ x && kd != 3) || (!t.isEmpty && !(kd == 4 || kd == 5 || kd == 6))) && (nks == 0 || kd == 8) && (nl == 0 || kd == 8 || kd == 7)
def litOk (t : List UInt8) : Bool := match litS t with | some (_,n) => n == t.length + 2 | none => false
def hexOk (t : List UInt8) : Bool := t.all fun b => decide (0 ≤ hexV b)
def nameOk (t : List UInt8) : Bool := t.all fun b => b.toNat != 0
def signOk (t : List UInt8) : Bool := t.all fun b => b.toNat != 35
def ltB : List UInt8 → List UInt8 → Bool
 | _,[] => false
 | [],_ :: _ => true
 | a :: l,b :: r => decide (a.toNat < b.toNat) || (a == b && ltB l r)
def upB : List (List UInt8) → Bool
 | [] => true
 | [_] => true
 | a :: b :: l => ltB a b && upB (b :: l)
def keysOk (ks : List (List UInt8)) : Bool := ks.all nameOk && ks.all signOk && upB ks
mutual
def objM (tw : Nat → Bool) : OObj → Option PObj
 | .mk kd n g x t ks l =>
   if onlyB kd n g x t ks.length l.length = false then none
   else if kd = 0 then some .null
   else if kd = 1 then (if n = 0 then some (.bool false) else if n = 1 then some (.bool true) else none)
   else if kd = 2 then (if -2147483648 ≤ n ∧ n < 2147483648 then some (.int n) else none)
   else if kd = 3 then (if tw x = true then some (.real x) else none)
   else if kd = 4 then (if litOk t = true then some (.lit t) else none)
   else if kd = 5 then (if hexOk t = true then some (.hex t) else none)
   else if kd = 6 then (if nameOk t = true then some (.name t) else none)
   else if kd = 9 then (if 0 < n ∧ n < 2147483648 ∧ 0 ≤ g ∧ g ≤ 65535 then some (.ref n g) else none)
   else if kd = 7 then (objL tw l).map .arr
   else if kd = 8 then (if ks.length = l.length ∧ keysOk ks = true then (objL tw l).map (.dict ks) else none)
   else none
def objL (tw : Nat → Bool) : List OObj → Option (List PObj)
 | [] => some []
 | o :: l => match objM tw o with
   | none => none
   | some p => (objL tw l).map (p :: ·)
end
mutual
def wtO : OObj → Nat
 | .mk _ _ _ _ t ks l => 1 + t.length / 16 + (ks.map fun k => k.length / 16).sum + wtL l
def wtL : List OObj → Nat
 | [] => 0
 | o :: l => wtO o + wtL l
end
mutual
def PTw (tw : Nat → Bool) : PObj → Prop
 | .real x => tw x = true
 | .arr l => LTw tw l
 | .dict _ l => LTw tw l
 | _ => True
def LTw (tw : Nat → Bool) : List PObj → Prop
 | [] => True
 | p :: l => PTw tw p ∧ LTw tw l
end
theorem ltB_irrefl : ∀ a : List UInt8,ltB a a = false
 | [] => rfl
 | a :: l => by rw [ltB,ltB_irrefl l];simp
theorem ltB_trans : ∀ {a b c : List UInt8},ltB a b = true → ltB b c = true → ltB a c = true
 | _,_,[],_,h => by rw [ltB.eq_def] at h;cases ‹List UInt8› <;> simp at h
 | _,[],c :: _,h,_ => by rw [ltB.eq_def] at h;cases ‹List UInt8› <;> simp at h
 | [],_ :: _,_ :: _,_,_ => rfl
 | a :: l,b :: r,c :: q,h1,h2 => by
   rw [ltB,Bool.or_eq_true,Bool.and_eq_true,decide_eq_true_eq,beq_iff_eq] at h1 h2 ⊢;rcases h1 with h1 | ⟨rfl,h1⟩
   · rcases h2 with h2 | ⟨rfl,h2⟩
     · left;omega
     left;exact h1
   rcases h2 with h2 | ⟨rfl,h2⟩
   · left;exact h2
   right;exact ⟨rfl,ltB_trans h1 h2⟩
theorem upB_head : ∀ {a : List UInt8} {l : List (List UInt8)},upB (a :: l) = true → ∀ b ∈ l,ltB a b = true
 | a,[],_,b,hb => by simp at hb
 | a,c :: l,h,b,hb => by
   rw [upB,Bool.and_eq_true] at h;rcases List.mem_cons.1 hb with rfl | hb
   · exact h.1
   exact ltB_trans h.1 (upB_head h.2 b hb)
theorem upB_tail {a : List UInt8} {l : List (List UInt8)} (h : upB (a :: l) = true) : upB l = true := by
 cases l with
 | nil => rfl
 | cons b l => rw [upB,Bool.and_eq_true] at h;exact h.2
theorem upB_ne : ∀ {l : List (List UInt8)},upB l = true → l.Pairwise (· ≠ ·)
 | [],_ => List.Pairwise.nil
 | a :: l,h => List.Pairwise.cons (fun b hb e => by have := upB_head h b hb;rw [e,ltB_irrefl] at this;cases this) (upB_ne (upB_tail h))
theorem objL_len {tw : Nat → Bool} : ∀ {l : List OObj} {q : List PObj},objL tw l = some q → q.length = l.length
 | [],q,h => by rw [objL] at h;injection h with h;subst h;rfl
 | o :: l,q,h => by
   rw [objL] at h
   cases ho : objM tw o with
   | none => rw [ho] at h;cases h
   | some p =>
     rw [ho] at h
     cases hl : objL tw l with
     | none => rw [hl] at h;cases h
     | some q' =>
       rw [hl] at h;injection h with h;subst h;simp [objL_len hl]
section
variable {FF : Nat → List UInt8} {tw : Nat → Bool}
mutual
theorem objM_good (hF : ∀ x,tw x = true → numM (FF x) = .real) : ∀ (o : OObj) (p : PObj),objM tw o = some p → PGood FF p ∧ PTw tw p
 | .mk kd n g x t ks l,p,h => by
   rw [objM] at h;by_cases h1 : onlyB kd n g x t ks.length l.length = false
   · rw [if_pos h1] at h;cases h
   rw [if_neg h1] at h;by_cases h0 : kd = 0
   · rw [if_pos h0] at h;injection h with h;subst h;exact ⟨by rw [PGood];trivial,by simp only [PTw]⟩
   rw [if_neg h0] at h;by_cases h0 : kd = 1
   · rw [if_pos h0] at h;split at h
     · injection h with h;subst h;exact ⟨by rw [PGood];trivial,by simp only [PTw]⟩
     split at h
     · injection h with h;subst h;exact ⟨by rw [PGood];trivial,by simp only [PTw]⟩
     cases h
   rw [if_neg h0] at h;by_cases h0 : kd = 2
   · rw [if_pos h0] at h;split at h
     · rename_i hr;injection h with h;subst h;exact ⟨by rw [PGood];omega,by simp only [PTw]⟩
     cases h
   rw [if_neg h0] at h;by_cases h0 : kd = 3
   · rw [if_pos h0] at h;split at h
     · rename_i hr;injection h with h;subst h;exact ⟨by rw [PGood];exact hF x hr,by rw [PTw];exact hr⟩
     cases h
   rw [if_neg h0] at h;by_cases h0 : kd = 4
   · rw [if_pos h0] at h;split at h
     · rename_i hr;injection h with h;subst h;refine ⟨?_,by simp only [PTw]⟩;rw [PGood];unfold litOk at hr
       cases hl : litS t with
       | none => rw [hl] at hr;cases hr
       | some y =>
         obtain ⟨out,m⟩ := y;rw [hl] at hr;simp only [beq_iff_eq] at hr;subst hr;exact ⟨out,rfl⟩
     cases h
   rw [if_neg h0] at h;by_cases h0 : kd = 5
   · rw [if_pos h0] at h;split at h
     · rename_i hr;injection h with h;subst h;refine ⟨?_,by simp only [PTw]⟩;rw [PGood];intro b hb;exact of_decide_eq_true (List.all_eq_true.1 hr b hb)
     cases h
   rw [if_neg h0] at h;by_cases h0 : kd = 6
   · rw [if_pos h0] at h;split at h
     · rename_i hr;injection h with h;subst h;refine ⟨?_,by simp only [PTw]⟩;rw [PGood];intro b hb;have := List.all_eq_true.1 hr b hb;simpa using this
     cases h
   rw [if_neg h0] at h;by_cases h0 : kd = 9
   · rw [if_pos h0] at h;split at h
     · rename_i hr;injection h with h;subst h;exact ⟨by rw [PGood];omega,by simp only [PTw]⟩
     cases h
   rw [if_neg h0] at h;by_cases h0 : kd = 7
   · rw [if_pos h0] at h
     cases hl : objL tw l with
     | none => rw [hl] at h;cases h
     | some q =>
       rw [hl] at h;injection h with h;subst h;obtain ⟨a,b⟩ := objL_good hF l q hl;exact ⟨by rw [PGood];exact a,by rw [PTw];exact b⟩
   rw [if_neg h0] at h;by_cases h0 : kd = 8
   · rw [if_pos h0] at h;split at h
     · rename_i hr
       cases hl : objL tw l with
       | none => rw [hl] at h;cases h
       | some q =>
         rw [hl] at h;injection h with h;subst h;obtain ⟨a,b⟩ := objL_good hF l q hl;refine ⟨?_,by rw [PTw];exact b⟩;rw [PGood];have hk := hr.2;unfold keysOk at hk;rw [Bool.and_eq_true,Bool.and_eq_true] at hk;refine ⟨by rw [hr.1,objL_len hl],fun k hk' b hb => ⟨?_,?_⟩,upB_ne hk.2,a⟩
         · have := List.all_eq_true.1 (List.all_eq_true.1 hk.1.1 k hk') b hb;simpa using this
         have := List.all_eq_true.1 (List.all_eq_true.1 hk.1.2 k hk') b hb;simpa using this
     cases h
   rw [if_neg h0] at h;cases h
theorem objL_good (hF : ∀ x,tw x = true → numM (FF x) = .real) : ∀ (l : List OObj) (q : List PObj),objL tw l = some q → LGood FF q ∧ LTw tw q
 | [],q,h => by rw [objL] at h;injection h with h;subst h;exact ⟨by rw [LGood];trivial,by rw [LTw];trivial⟩
 | o :: l,q,h => by
   rw [objL] at h
   cases ho : objM tw o with
   | none => rw [ho] at h;cases h
   | some p =>
     rw [ho] at h
     cases hl : objL tw l with
     | none => rw [hl] at h;cases h
     | some q' =>
       rw [hl] at h;injection h with h;subst h;obtain ⟨a,b⟩ := objM_good hF o p ho;obtain ⟨c,d⟩ := objL_good hF l q' hl;exact ⟨by rw [LGood];exact ⟨a,c⟩,by rw [LTw];exact ⟨b,d⟩⟩
end
end
theorem lt_of_ltB : ∀ {a b : List UInt8},ltB a b = true → a < b
 | _,[],h => by rw [ltB.eq_def] at h;cases ‹List UInt8› <;> simp at h
 | [],b :: r,_ => by exact List.nil_lt_cons b r
 | a :: l,b :: r,h => by
   rw [ltB,Bool.or_eq_true,Bool.and_eq_true,decide_eq_true_eq,beq_iff_eq] at h;rw [List.cons_lt_cons_iff];rcases h with h | ⟨rfl,h⟩
   · left;exact UInt8.lt_iff_toNat_lt.2 h
   right;exact ⟨rfl,lt_of_ltB h⟩
theorem sort_keys {ks ys : List (List UInt8)} (hp : ys.Perm ks) (hs : upB ks = true) : (ys.mergeSort fun x y => decide (x ≤ y)) = ks := by
 have h1 : ((ys.mergeSort fun x y => decide (x ≤ y))).Perm ks := (List.mergeSort_perm _ _).trans hp
 have h2 : (ys.mergeSort fun x y => decide (x ≤ y)).Pairwise fun x y => decide (x ≤ y) = true :=
  List.pairwise_mergeSort (fun a b c h1 h2 => by rw [decide_eq_true_eq] at h1 h2 ⊢;exact List.le_trans h1 h2) (fun a b => by rw [Bool.or_eq_true,decide_eq_true_eq,decide_eq_true_eq];exact List.le_total a b) ys
 have h3 : ∀ {l : List (List UInt8)},upB l = true → l.Pairwise fun x y => decide (x ≤ y) = true := by
  intro l
  induction l with
  | nil => intro _;exact List.Pairwise.nil
  | cons a l ih =>
    intro h;refine List.Pairwise.cons (fun b hb => ?_) (ih (upB_tail h));rw [decide_eq_true_eq];exact List.le_of_lt (lt_of_ltB (upB_head h b hb))
 exact h1.eq_of_pairwise (le := fun x y => decide (x ≤ y) = true) (fun a b _ _ h1 h2 => by rw [decide_eq_true_eq] at h1 h2;exact List.le_antisymm h1 h2) h2 (h3 hs)
theorem filterMap_range {α : Type} : ∀ (ks : List α),(List.range ks.length).filterMap (fun i => ks[i]?) = ks
 | [] => rfl
 | a :: l => by
   rw [List.length_cons,List.range_succ_eq_map,List.filterMap_cons];simp only [List.getElem?_cons_zero,List.filterMap_map];congr 1;exact filterMap_range l
theorem shown_perm {α : Type} (ks : List α) (seen : List Nat) (hn : seen.Nodup) (hlt : ∀ i ∈ seen,i < ks.length) (hall : ∀ i,i < ks.length → i ∈ seen) : (seen.filterMap fun i => ks[i]?).Perm ks := by
 have hp : seen.Perm (List.range ks.length) := by
  rw [List.perm_ext_iff_of_nodup hn List.nodup_range];intro i;rw [List.mem_range];exact ⟨hlt i,hall i⟩
 have h2 := hp.filterMap (fun i => ks[i]?)
 rwa [filterMap_range] at h2
theorem hexM_go {b : UInt8} {l : List UInt8} {h : Nat} {d o : Bool} (hb : 0 ≤ hexV b) : hexM (b :: l) h d o =
 if d = true then ((hexM l h false o).1,UInt8.ofNat (h * 16 + (hexV b).toNat) :: (hexM l h false o).2.1,(hexM l h false o).2.2.1 + 1,(hexM l h false o).2.2.2)
 else ((hexM l (hexV b).toNat true o).1,(hexM l (hexV b).toNat true o).2.1,(hexM l (hexV b).toNat true o).2.2.1 + 1,(hexM l (hexV b).toNat true o).2.2.2) := by
 have h62 : b.toNat ≠ 62 := by intro e;unfold hexV at hb;rw [e] at hb;simp at hb
 have hw : ¬ whiteB b = true := by unfold whiteB;rw [decide_eq_true_eq];intro e;unfold hexV at hb;rcases e with e | e | e | e | e | e <;> rw [e] at hb <;> simp at hb
 rw [hexM,if_neg h62,if_neg hw,if_neg (by omega)]
theorem hexM_end (r : List UInt8) (h : Nat) (d o : Bool) : hexM (62 :: r) h d o = (0,if d = true then [UInt8.ofNat (h * 16)] else [],1,o) := by rw [hexM,if_pos (by rfl)]
theorem hexM_app : ∀ (t r : List UInt8) (h : Nat) (d o : Bool),(∀ b ∈ t,0 ≤ hexV b) → (hexM (t ++ 62 :: r) h d o).1 = 0 ∧ (hexM (t ++ 62 :: r) h d o).2.2.1 = t.length + 1 ∧ (hexM (t ++ 62 :: r) h d o).2.1 = (hexM (t ++ [62]) h d false).2.1
 | [],r,h,d,o,_ => by
   rw [List.nil_append,List.nil_append,hexM_end,hexM_end];exact ⟨rfl,rfl,rfl⟩
 | b :: t,r,h,d,o,ht => by
   have hb := ht b (by simp);have ih := fun h d o => hexM_app t r h d o (fun x hx => ht x (by simp [hx]))
   rw [List.cons_append,List.cons_append,hexM_go hb,hexM_go hb]
   cases d with
   | true =>
     simp only [if_true];refine ⟨(ih _ _ _).1,by rw [(ih _ _ _).2.1];rfl,?_⟩;rw [(ih _ _ _).2.2]
   | false =>
     simp only [Bool.false_eq_true,if_false];refine ⟨(ih _ _ _).1,by rw [(ih _ _ _).2.1];rfl,?_⟩;rw [(ih _ _ _).2.2]
end Go.Proofs.YtcpijmbdibgdmaaGreatDoor
namespace Go.Proofs.YtcpijmbdibgdmaaGreatDoor
open Go.RowKit
def ents : Nat → List (List UInt8) → List Value → List MapEntry
 | i,k :: ks,v :: vs => { key := .string ⟨k.toArray⟩,val := v,born := i } :: ents (i + 1) ks vs
 | _,_,_ => []
def MapIs (w : World) (b : Nat) (ks : List (List UInt8)) (vs : List Value) : Prop := w.heap[b]? = some (.map (ents 0 ks vs).toArray ks.length) ∧ ks.length = vs.length
section
variable {w w' : World} {b : Nat} {ks : List (List UInt8)} {vs : List Value}
theorem MapIs.lt (h : MapIs w b ks vs) : b < w.heap.size := by
 rcases Nat.lt_or_ge b w.heap.size with hlt | hge
 · exact hlt
 have := h.1;rw [Array.getElem?_eq_none hge] at this;cases this
theorem MapIs.drewN (h : MapIs w b ks vs) (n : Nat) : MapIs (w.drewN n) b ks vs := h
theorem MapIs.drew (h : MapIs w b ks vs) : MapIs w.drew b ks vs := h
theorem MapIs.keep (h : MapIs w b ks vs) (hb : w'.heap[b]? = w.heap[b]?) : MapIs w' b ks vs := ⟨hb.trans h.1,h.2⟩
theorem MapIs.below {B : Nat} (h : MapIs w b ks vs) (hb : Below B w w') (hg : b < B) : MapIs w' b ks vs := h.keep (hb.block b hg)
theorem MapIs.grown {row : Option Nat} (h : MapIs w b ks vs) (hb : w.grownBy w' row) (hg : some b ≠ row) : MapIs w' b ks vs := h.keep (hb.block b h.lt hg)
theorem MapIs.new (w : World) : MapIs (w.alloc (.map #[] 0)) w.heap.size [] [] := ⟨heap_alloc_new w _,rfl⟩
end
theorem ents_at : ∀ (i : Nat) (ks : List (List UInt8)) (vs : List Value) (j : Nat) (hk : j < ks.length) (hv : j < vs.length),(ents i ks vs)[j]? = some { key := .string ⟨ks[j].toArray⟩,val := vs[j],born := i + j }
 | i,k :: ks,v :: vs,0,_,_ => rfl
 | i,k :: ks,v :: vs,j + 1,hk,hv => by
   rw [ents,List.getElem?_cons_succ,ents_at (i + 1) ks vs j (by simpa using hk) (by simpa using hv)];simp [Nat.add_assoc,Nat.add_comm 1 j]
 | _,[],_,_,h,_ => by simp at h
 | _,_ :: _,[],_,_,h => by simp at h
theorem ents_snoc : ∀ (i : Nat) (ks : List (List UInt8)) (vs : List Value) (k : List UInt8) (v : Value),ks.length = vs.length → ents i (ks ++ [k]) (vs ++ [v]) = ents i ks vs ++ [{ key := .string ⟨k.toArray⟩,val := v,born := i + ks.length }]
 | i,[],[],k,v,_ => rfl
 | i,a :: ks,x :: vs,k,v,h => by
   rw [List.cons_append,List.cons_append,ents,ents,ents_snoc (i + 1) ks vs k v (by simpa using h)];simp [Nat.add_assoc,Nat.add_comm 1]
 | _,[],_ :: _,_,_,h => by simp at h
 | _,_ :: _,[],_,_,h => by simp at h
theorem str_beq (a b : List UInt8) : ((⟨a.toArray⟩ : ByteArray) == ⟨b.toArray⟩) = decide (a = b) := by
 have e : ((⟨a.toArray⟩ : ByteArray) == ⟨b.toArray⟩) = (a.toArray == b.toArray) := rfl;rw [e];by_cases h : a = b
 · subst h;simp
 rw [decide_eq_false h,beq_eq_false_iff_ne];intro e;exact h (by simpa using e)
theorem find_none (k : List UInt8) : ∀ (ks : List (List UInt8)) (vs : List Value) (i j : Nat),k ∉ ks → Instr.findNow .string (.string ⟨k.toArray⟩) (ents i ks vs) j = some none
 | [],_,_,_,_ => rfl
 | _ :: _,[],_,_,_ => rfl
 | a :: ks,v :: vs,i,j,h => by
   rw [ents,Instr.findNow];simp only [Instr.sameNow];rw [str_beq,decide_eq_false (fun e => h (by simp [e]))];exact find_none k ks vs (i + 1) (j + 1) (fun hm => h (by simp [hm]))
theorem find_some (k : List UInt8) : ∀ (ks : List (List UInt8)) (vs : List Value) (i j p : Nat) (hp : p < ks.length) (hv : p < vs.length),ks.Pairwise (· ≠ ·) → ks[p] = k → Instr.findNow .string (.string ⟨k.toArray⟩) (ents i ks vs) j = some (some (j + p,vs[p]))
 | a :: ks,v :: vs,i,j,0,_,_,_,e => by
   rw [ents,Instr.findNow];simp only [Instr.sameNow];rw [str_beq,decide_eq_true (show k = a from e.symm)];rfl
 | a :: ks,v :: vs,i,j,p + 1,hp,hv,hd,e => by
   rw [ents,Instr.findNow];simp only [Instr.sameNow];have hpk : p < ks.length := by simpa using hp
   have hne : k ≠ a := by
    rintro rfl;rw [List.pairwise_cons] at hd;have e' : ks[p] = k := e;exact hd.1 ks[p] (List.getElem_mem hpk) e'.symm
   rw [str_beq,decide_eq_false hne];have := find_some k ks vs (i + 1) (j + 1) p hpk (by simpa using hv) (List.pairwise_cons.1 hd).2 e;rw [show j + 1 + p = j + (p + 1) by omega] at this;exact this
 | [],_,_,_,_,h,_,_,_ => by simp at h
 | _ :: _,[],_,_,_,_,h,_,_ => by simp at h
section
variable {P : Program} {w : World} {T K E b : Nat} {ks : List (List UInt8)} {vs : List Value}
theorem run_check_str (hK : P.underlying K = some .string) (e : Bool) (k : List UInt8) (w : World) : (Instr.checkKey e 10000 K (.string ⟨k.toArray⟩)).run P w = .ok () w := by
 rw [show (10000 : Nat) = 9999 + 1 by rfl,Instr.checkKey];simp [run_underlying hK]
theorem run_find_none (hK : P.underlying K = some .string) {k : List UInt8} (hk : k ∉ ks) (w : World) : (Instr.findKey K (.string ⟨k.toArray⟩) (ents 0 ks vs)).run P w = .ok none w := by
 unfold Instr.findKey;simp [run_underlying hK,find_none k ks vs 0 0 hk]
theorem run_find_some (hK : P.underlying K = some .string) {p : Nat} (hp : p < ks.length) (hv : p < vs.length) (hd : ks.Pairwise (· ≠ ·)) (w : World) : (Instr.findKey K (.string ⟨ks[p].toArray⟩) (ents 0 ks vs)).run P w = .ok (some (p,vs[p])) w := by
 unfold Instr.findKey;have := find_some ks[p] ks vs 0 0 p hp hv hd rfl;rw [Nat.zero_add] at this;simp [run_underlying hK,this]
theorem run_getObj_map (h : MapIs w b ks vs) : (getObj b).run P w = .ok (.map (ents 0 ks vs).toArray ks.length) w := by
 simp [getObj,Sem.run,h.1]
theorem run_update_new (hT : P.underlying T = some (.map K E)) (hK : P.underlying K = some .string) (h : MapIs w b ks vs) {k : List UInt8} (hk : k ∉ ks) (v : Value) :
 (Instr.mapUpdate T (.map (some b)) (.string ⟨k.toArray⟩) v).run P w = .ok () (ChangeMaps.setBlock w b (.map (ents 0 (ks ++ [k]) (vs ++ [v])).toArray (ks ++ [k]).length)) := by
 unfold Instr.mapUpdate;have hc := run_check_str (P := P) hK false k w;have hf := run_find_none (vs := vs) hK hk w
 have he : (ents 0 (ks ++ [k]) (vs ++ [v])).toArray = (ents 0 ks vs).toArray.push { key := .string ⟨k.toArray⟩,val := v,born := ks.length } := by
  rw [ents_snoc 0 ks vs k v h.2];simp
 simp [run_underlying hT,run_getObj_map h,hc,hf,Result.andThen,he];simp [setObj,Sem.run,h.1,ChangeMaps.setBlock]
theorem MapIs.set_ (h : MapIs w b ks vs) (k : List UInt8) (v : Value) : MapIs (ChangeMaps.setBlock w b (.map (ents 0 (ks ++ [k]) (vs ++ [v])).toArray (ks ++ [k]).length)) b (ks ++ [k]) (vs ++ [v]) := by
 refine ⟨?_,by simp [h.2]⟩;have := h.lt;unfold ChangeMaps.setBlock;simp [this]
theorem grown_setBlock (w : World) (b : Nat) (o : Obj) : w.grownBy (ChangeMaps.setBlock w b o) (some b) := by
 refine ⟨rfl,rfl,rfl,by simp [ChangeMaps.setBlock],fun i hi hne => ?_⟩;unfold ChangeMaps.setBlock;have : b ≠ i := fun e => hne (by rw [e])
 simp [Array.getElem?_setIfInBounds,this]
theorem run_lookup_some (hT : P.underlying T = some (.map K E)) (hK : P.underlying K = some .string) (h : MapIs w b ks vs) {p : Nat} (hp : p < ks.length) (hd : ks.Pairwise (· ≠ ·)) :
 (Instr.lookup T (.map (some b)) (.string ⟨ks[p].toArray⟩) false).run P w = .ok (vs[p]'(h.2 ▸ hp)) w := by
 unfold Instr.lookup;have hc := fun e => run_check_str (P := P) hK e ks[p] w
 have hf := run_find_some (P := P) hK hp (h.2 ▸ hp) hd w;simp [run_underlying hT,run_getObj_map h,hc,hf,Result.andThen]
theorem run_lookup_none (hT : P.underlying T = some (.map K E)) (hK : P.underlying K = some .string) {z : Value} (hz : ∀ w,(zeroValue E).run P w = .ok z w) (h : MapIs w b ks vs) {k : List UInt8} (hk : k ∉ ks) :
 (Instr.lookup T (.map (some b)) (.string ⟨k.toArray⟩) true).run P w = .ok (.tuple #[z,.bool false]) w := by
 unfold Instr.lookup;have hc := fun e => run_check_str (P := P) hK e k w
 have hf := run_find_none (vs := vs) hK hk w;simp [run_underlying hT,run_getObj_map h,hc,hf,hz,Result.andThen]
end
def RangeIs (w : World) (r b n : Nat) (seen : List Nat) : Prop := w.heap[r]? = some (.mapIter (some b) n seen.toArray n)
section
variable {w w' : World} {r b n : Nat} {seen : List Nat}
theorem RangeIs.lt (h : RangeIs w r b n seen) : r < w.heap.size := by
 rcases Nat.lt_or_ge r w.heap.size with hlt | hge
 · exact hlt
 unfold RangeIs at h;rw [Array.getElem?_eq_none hge] at h;cases h
theorem RangeIs.keep (h : RangeIs w r b n seen) (hb : w'.heap[r]? = w.heap[r]?) : RangeIs w' r b n seen := hb.trans h
theorem RangeIs.grown {row : Option Nat} (h : RangeIs w r b n seen) (hb : w.grownBy w' row) (hg : some r ≠ row) : RangeIs w' r b n seen := h.keep (hb.block r h.lt hg)
end
section
variable {P : Program} {w : World} {T K E b : Nat} {ks : List (List UInt8)} {vs : List Value}
theorem run_range_map (hT : P.underlying T = some (.map K E)) (h : MapIs w b ks vs) : (Instr.range T (.map (some b))).run P w = .ok (.pointer (some ⟨w.heap.size,0,none⟩)) (w.alloc (.mapIter (some b) ks.length #[] ks.length)) := by
 unfold Instr.range;simp [run_underlying hT,run_getObj_map h,Result.andThen]
theorem ents_mem {e : MapEntry} : ∀ {ks : List (List UInt8)} {vs : List Value} {i : Nat},e ∈ ents i ks vs → ∃ (j : Nat) (hk : j < ks.length) (hv : j < vs.length),e = { key := .string ⟨ks[j].toArray⟩,val := vs[j],born := i + j }
 | [],_,_,h => by rw [ents.eq_def] at h;simp at h
 | _ :: _,[],_,h => by rw [ents.eq_def] at h;simp at h
 | k :: ks,v :: vs,i,h => by
   rw [ents,List.mem_cons] at h;rcases h with h | h
   · exact ⟨0,by simp,by simp,h⟩
   obtain ⟨j,hk,hv,e⟩ := ents_mem h;exact ⟨j + 1,by simpa using hk,by simpa using hv,by rw [e];simp [Nat.add_assoc,Nat.add_comm 1]⟩
theorem run_next_map' (h : MapIs w b ks vs) {r : Nat} {seen : List Nat} (hr : RangeIs w r b ks.length seen) (ty : TypeId) :
 ((∀ i,i < ks.length → i ∈ seen) ∧ (Instr.next (.pointer (some ⟨r,0,none⟩)) false ty).run P w = .ok (.tuple #[.bool false]) w) ∨
 ∃ (j : Nat) (hk : j < ks.length) (hv : j < vs.length) (w1 : World),j ∉ seen ∧ (w1 = w ∨ w1 = w.drew) ∧
   (Instr.next (.pointer (some ⟨r,0,none⟩)) false ty).run P w = .ok (.tuple #[.bool true,.string ⟨ks[j].toArray⟩,vs[j]]) (ChangeMaps.setBlock w1 r (.mapIter (some b) ks.length (seen ++ [j]).toArray ks.length)) := by
 have hold : ∀ x ∈ (ents 0 ks vs).toArray.toList,x.born < ks.length := by
  intro x hx;obtain ⟨j,hk,hv,rfl⟩ := ents_mem (show x ∈ ents 0 ks vs by simpa using hx);simp only;omega
 have hin : ∀ x,x ∈ (leftOf (ents 0 ks vs).toArray seen.toArray).toList ↔ x ∈ ents 0 ks vs ∧ x.born ∉ seen := by
  intro x;unfold leftOf;simp
 rcases run_next_at (P := P) w ty r b ks.length ks.length seen.toArray (ents 0 ks vs).toArray ks.length hr h.1 hold (Nat.le_refl _) with ⟨h0,hrun⟩ | ⟨e,he,w1,hw,hrun⟩
 · left;refine ⟨fun i hi => ?_,hrun⟩;refine Classical.byContradiction fun hni => ?_
   have hv : i < vs.length := h.2 ▸ hi;have hat := ents_at 0 ks vs i hi hv
   have : ({ key := .string ⟨ks[i].toArray⟩,val := vs[i],born := 0 + i } : MapEntry) ∈ (leftOf (ents 0 ks vs).toArray seen.toArray).toList := by
    rw [hin];exact ⟨List.mem_of_getElem? hat,by simpa using hni⟩
   have hne : (leftOf (ents 0 ks vs).toArray seen.toArray).toList = [] := by
    rw [← List.length_eq_zero_iff];simpa using h0
   rw [hne] at this;simp at this
 · right;obtain ⟨he1,he2⟩ := (hin e).1 he;obtain ⟨j,hk,hv,rfl⟩ := ents_mem he1;simp only [Nat.zero_add] at he2 hrun;refine ⟨j,hk,hv,w1,he2,hw,?_⟩;rw [hrun];simp
end
section
variable {P : Program} (w : World) {ops : Array Oper} {rest : List Oper} {o : Oper} {a : Act} {Q : Exit → Act → World → Prop}
theorem wpList_run (hg : o.guard = none) {v : Value} {w' : World} (hrun : (execOp a.eval o).run P w = .ok (.value v) w') (hK : wpList P ops Q rest (a.put o.dst v) w') : wpList P ops Q (o :: rest) a w := by
 refine wpList_plain hg fun K' hK' => ?_
 unfold Oper.wp;simp [hrun];exact hK' _ _ hK
end
end Go.Proofs.YtcpijmbdibgdmaaGreatDoor
namespace Go.Proofs.YtcpijmbdibgdmaaGreatDoor
open Go.RowKit
def RowAt (w : World) (b off : Nat) (xs : List Value) : Prop := ∀ j u,xs[j]? = some u → w.cell? ⟨b,off + j,none⟩ = some u
def InSl (w : World) (B size : Nat) (v : Value) (n : Nat) (xs : List Value) : Prop :=
 ∃ A c,v = .slice A n c ∧ n ≤ c ∧ c ≤ maxLen ∧ xs.length = n * size ∧ (0 < n → ∃ b off,A = some ⟨b,off,none⟩ ∧ b < B ∧ RowAt w b off xs)
def ov7 (kd n g : Int) (x : Nat) (t : List UInt8) (ks vs : Value) : List Value := [.int .i64 kd,.int .i64 n,.int .i64 g,.float .f64 x,.string ⟨t.toArray⟩,ks,vs]
mutual
def ORep (w : World) (B : Nat) : OObj → List Value → Prop
 | .mk kd n g x t ks l,c => ∃ kv lv xs,c = ov7 kd n g x t kv lv ∧ InSl w B 1 kv ks.length (ks.map fun k => .string ⟨k.toArray⟩) ∧ InSl w B 7 lv l.length xs ∧ OKids w B l xs
def OKids (w : World) (B : Nat) : List OObj → List Value → Prop
 | [],xs => xs = []
 | o :: l,xs => ∃ c ys,xs = c ++ ys ∧ c.length = 7 ∧ ORep w B o c ∧ OKids w B l ys
end
mutual
def bulkO : OObj → Nat
 | .mk _ _ _ _ t ks l => 8 + t.length + (ks.map fun k => k.length + 1).sum + bulkL l
def bulkL : List OObj → Nat
 | [] => 0
 | o :: l => bulkO o + bulkL l
end
mutual
def OInt : OObj → Prop
 | .mk kd n g x _ _ l => (-9223372036854775808 ≤ kd ∧ kd ≤ 9223372036854775807) ∧ (-9223372036854775808 ≤ n ∧ n ≤ 9223372036854775807) ∧ (-9223372036854775808 ≤ g ∧ g ≤ 9223372036854775807) ∧ x < 18446744073709551616 ∧ OIntL l
def OIntL : List OObj → Prop
 | [] => True
 | o :: l => OInt o ∧ OIntL l
end
theorem RowAt.below {w w' : World} {B b off : Nat} {xs : List Value} (h : RowAt w b off xs) (hB : Below B w w') (hb : b < B) : RowAt w' b off xs := fun j u hu => (hB.cell (p := ⟨b,off + j,none⟩) hb).trans (h j u hu)
theorem OKids.at_ {w : World} {B : Nat} : ∀ {l : List OObj} {xs : List Value},OKids w B l xs → ∀ (i : Nat) (h : i < l.length),∃ c,c.length = 7 ∧ ORep w B l[i] c ∧ ∀ j,j < 7 → xs[i * 7 + j]? = c[j]?
 | [],_,_,i,h => by simp at h
 | o :: l,xs,hk,0,_ => by
   unfold OKids at hk;obtain ⟨c,ys,rfl,hc,h1,h2⟩ := hk;refine ⟨c,hc,h1,fun j hj => ?_⟩;rw [Nat.zero_mul,Nat.zero_add,List.getElem?_append_left (by omega)]
 | o :: l,xs,hk,i + 1,h => by
   unfold OKids at hk;obtain ⟨c,ys,rfl,hc,h1,h2⟩ := hk;obtain ⟨c',hc',h3,h4⟩ := OKids.at_ h2 i (by simpa using h);refine ⟨c',hc',h3,fun j hj => ?_⟩;rw [← h4 j hj,List.getElem?_append_right (by omega)];congr 1;omega
theorem OKids.len {w : World} {B : Nat} : ∀ {l : List OObj} {xs : List Value},OKids w B l xs → xs.length = l.length * 7
 | [],xs,h => by unfold OKids at h;subst h;rfl
 | o :: l,xs,h => by
   unfold OKids at h;obtain ⟨c,ys,rfl,hc,_,h2⟩ := h;rw [List.length_append,hc,OKids.len h2,List.length_cons];omega
theorem OIntL.at_ : ∀ {l : List OObj},OIntL l → ∀ (i : Nat) (h : i < l.length),OInt l[i]
 | [],_,i,h => by simp at h
 | o :: l,hl,0,_ => by unfold OIntL at hl;exact hl.1
 | o :: l,hl,i + 1,h => by unfold OIntL at hl;exact OIntL.at_ hl.2 i (by simpa using h)
theorem bulkL_at : ∀ {l : List OObj} (i : Nat) (h : i < l.length),bulkO l[i] ≤ bulkL l
 | [],i,h => by simp at h
 | o :: l,0,_ => by rw [bulkL];exact Nat.le_add_right _ _
 | o :: l,i + 1,h => by
   rw [bulkL];have := bulkL_at (l := l) i (by simpa using h);exact Nat.le_trans this (Nat.le_add_left _ _)
theorem bulkO_pos (o : OObj) : 8 ≤ bulkO o := by cases o;rw [bulkO];omega
theorem bulkL_len : ∀ (l : List OObj),8 * l.length ≤ bulkL l
 | [] => by simp
 | o :: l => by
   have := bulkL_len l;have := bulkO_pos o;rw [bulkL,List.length_cons];omega
theorem sum_len : ∀ (ks : List (List UInt8)),ks.length ≤ (ks.map fun k => k.length + 1).sum
 | [] => by simp
 | k :: ks => by
   have := sum_len ks;rw [List.map_cons,List.sum_cons,List.length_cons];omega
theorem sum_at : ∀ {ks : List (List UInt8)} {k : List UInt8},k ∈ ks → k.length + 1 ≤ (ks.map fun k => k.length + 1).sum
 | [],_,h => by simp at h
 | a :: ks,k,h => by
   rw [List.map_cons,List.sum_cons];rcases List.mem_cons.1 h with rfl | h
   · omega
   have := sum_at h;omega
theorem sum_16 : ∀ (ks : List (List UInt8)),(ks.map fun k => k.length / 16).sum ≤ (ks.map fun k => k.length + 1).sum
 | [] => by simp
 | k :: ks => by
   have := sum_16 ks;rw [List.map_cons,List.sum_cons,List.map_cons,List.sum_cons];have : k.length / 16 ≤ k.length := Nat.div_le_self _ _;omega
mutual
theorem wtO_le : ∀ (o : OObj),wtO o ≤ bulkO o
 | .mk kd n g x t ks l => by
   rw [wtO,bulkO];have := wtL_le l;have := sum_16 ks;have : t.length / 16 ≤ t.length := Nat.div_le_self _ _;omega
theorem wtL_le : ∀ (l : List OObj),wtL l ≤ bulkL l
 | [] => by simp [wtL,bulkL]
 | o :: l => by
   rw [wtL,bulkL];have := wtO_le o;have := wtL_le l;omega
end
theorem wtL_take : ∀ (l : List OObj) (i : Nat) (h : i < l.length),wtL (l.take (i + 1)) = wtL (l.take i) + wtO l[i]
 | [],i,h => by simp at h
 | o :: l,0,_ => by simp [wtL]
 | o :: l,i + 1,h => by
   rw [List.take_succ_cons,List.take_succ_cons,wtL,wtL,wtL_take l i (by simpa using h)];simp [Nat.add_assoc]
theorem wtL_split (l : List OObj) : ∀ (i : Nat),wtL l = wtL (l.take i) + wtL (l.drop i) := by
 induction l with
 | nil => intro i;simp [wtL]
 | cons o l ih =>
   intro i
   cases i with
   | zero => simp [wtL]
   | succ i => rw [List.take_succ_cons,List.drop_succ_cons,wtL,wtL,ih i,Nat.add_assoc]
theorem sum_take (ks : List (List UInt8)) (i : Nat) (h : i < ks.length) : ((ks.take (i + 1)).map fun k => k.length / 16).sum = ((ks.take i).map fun k => k.length / 16).sum + ks[i].length / 16 := by
 rw [List.take_succ_eq_append_getElem h,List.map_append,List.sum_append];simp
end Go.Proofs.YtcpijmbdibgdmaaGreatDoor
namespace Go.Proofs.YtcpijmbdibgdmaaGreatDoor
open Go.RowKit
attribute [local go_sem] ba_get store_flt
def kwt (ks : List (List UInt8)) : Nat := (ks.map fun k => k.length / 16).sum
theorem kwt_take (ks : List (List UInt8)) (i : Nat) (h : i < ks.length) : kwt (ks.take (i + 1)) = kwt (ks.take i) + ks[i].length / 16 := sum_take ks i h
theorem kwt_le (ks : List (List UInt8)) (i : Nat) : kwt (ks.take i) ≤ kwt ks := by
 have : kwt ks = kwt (ks.take i) + kwt (ks.drop i) := by
  unfold kwt;rw [← List.sum_append,← List.map_append,List.take_append_drop]
 omega
theorem kwt_all (ks : List (List UInt8)) : kwt ks ≤ (ks.map fun k => k.length + 1).sum := sum_16 ks
structure FewS (w wr : World) (p b : Nat) (c : Array Value) (x : Int) : Prop where
 box : Blk wr b 28 c
 cnt : Blk wr p 3 #[.int .i64 x]
 oo : Only w wr p
 hb : w.heap.size ≤ b
section
variable {w wr w' : World} {p b : Nat} {c : Array Value} {x x' : Int}
theorem FewS.put (h : FewS w wr p b c x) (hp : p < w.heap.size) {v : Value} (hv : v = .int .i64 x') : FewS w (wr.setCell ⟨p,0,none⟩ v) p b c x' := by
 subst hv;have hb := h.hb;refine ⟨h.box.far (by simp only;omega) _,?_,only_set h.oo 0 _,hb⟩;have := Blk.set_ h.cnt 0 (.int .i64 x');simpa using this
theorem FewS.drewN (h : FewS w wr p b c x) (n : Nat) : FewS w (wr.drewN n) p b c x := ⟨h.box,h.cnt,only_drewN h.oo n,h.hb⟩
theorem FewS.drew (h : FewS w wr p b c x) : FewS w wr.drew p b c x := ⟨h.box,h.cnt,only_drew h.oo,h.hb⟩
theorem FewS.call (h : FewS w wr p b c x) (hp : p < w.heap.size) (hO : Only wr w' p) (hc : Blk w' p 3 #[.int .i64 x']) : FewS w w' p b c x' :=
 ⟨Blk.grown h.box hO (fun e => by have := h.hb;injection e with e;omega),hc,only_trans h.oo hO,h.hb⟩
theorem FewS.cells (h : FewS w wr p b c x) : (∀ i,wr.cell? ⟨b,i,none⟩ = c[i]?) ∧ wr.cell? ⟨p,0,none⟩ = some (.int .i64 x) ∧ wr.frozen? ⟨p,0,none⟩ = false := ⟨fun i => h.box.cell i,h.cnt.cell 0,h.cnt.frozen 0⟩
theorem FewS.row {W0 : World} {B bk off j : Nat} {xs : List Value} {u : Value} (h : FewS w wr p b c x) (hW : Below B W0 w) (hB : B ≤ w.heap.size) (hp : B ≤ p) (hr : RowAt W0 bk off xs) (hbk : bk < B) (hj : xs[j]? = some u) : wr.cell? ⟨bk,off + j,none⟩ = some u := by
 have h1 : wr.cell? ⟨bk,off + j,none⟩ = w.cell? ⟨bk,off + j,none⟩ := by
  have := h.oo.block bk (by omega) (fun e => by injection e with e;omega);simp only [World.cell?,this]
 exact h1.trans ((hW.cell (p := ⟨bk,off + j,none⟩) hbk).trans (hr j u hj))
end
theorem row7 {w : World} {b o : Nat} {xs c : List Value} (hrow : ∀ j u,xs[j]? = some u → w.cell? ⟨b,o + j,none⟩ = some u) {i : Nat} (hx : ∀ j,j < 7 → xs[i * 7 + j]? = c[j]?) {v0 v1 v2 v3 v4 v5 v6 : Value} (hc : c = [v0,v1,v2,v3,v4,v5,v6]) :
 w.cell? ⟨b,o + i * 7,none⟩ = some v0 ∧ w.cell? ⟨b,o + i * 7 + 1,none⟩ = some v1 ∧ w.cell? ⟨b,o + i * 7 + 2,none⟩ = some v2 ∧ w.cell? ⟨b,o + i * 7 + 3,none⟩ = some v3 ∧ w.cell? ⟨b,o + i * 7 + 4,none⟩ = some v4 ∧ w.cell? ⟨b,o + i * 7 + 5,none⟩ = some v5 ∧ w.cell? ⟨b,o + i * 7 + 6,none⟩ = some v6 := by
 subst hc
 have g : ∀ j u,j < 7 → [v0,v1,v2,v3,v4,v5,v6][j]? = some u → w.cell? ⟨b,o + i * 7 + j,none⟩ = some u := by
  intro j u hj hu;have := hrow (i * 7 + j) u ((hx j hj).trans hu)
  rwa [← Nat.add_assoc] at this
 exact ⟨g 0 v0 (by decide) rfl,g 1 v1 (by decide) rfl,g 2 v2 (by decide) rfl,g 3 v3 (by decide) rfl,g 4 v4 (by decide) rfl,g 5 v5 (by decide) rfl,g 6 v6 (by decide) rfl⟩
theorem few_any (W0 : World) : ∀ (n : Nat) (o : OObj) (c : List Value) (p L : Nat) (w : World),SizeOf.sizeOf o ≤ n → ORep W0 W0.heap.size o c → bulkO o ≤ 1048576 → Below W0.heap.size W0 w → W0.heap.size ≤ p → Blk w p 3 #[.int .i64 L] → L ≤ 20000 →
 Calls Tryz.prog 23 #[.agg c.toArray,.pointer (some ⟨p,0,none⟩)] w fun e w' => e = .returned (.bool (decide (wtO o ≤ L))) ∧ ∃ x : Int,(wtO o ≤ L → x = (L : Int) - wtO o) ∧ Blk w' p 3 #[.int .i64 x] ∧ Only w w' p
 | 0,o,_,_,_,_,hn,_,_,_,_,_,_ => by cases o;simp at hn
 | n + 1,.mk kd nn g x t ks l,c,p,L,w,hn,hR,hb,hW,hp0,hc0,hL => by
   have ih := few_any W0 n;unfold ORep at hR;obtain ⟨kv,lv,xs,rfl,hk,hl,hkids⟩ := hR;obtain ⟨A,kc,rfl,hkc1,hkc2,hkl,hkr⟩ := hk;obtain ⟨A2,lc,rfl,hlc1,hlc2,hll,hlr⟩ := hl;rw [bulkO] at hb;have hsl := sum_len ks;have hbl := bulkL_len l;have hwl := wtL_le l;have HB := Lib.hid hb;have hpl := Blk.lt hc0;have HIH := Lib.hid ih;have HW := Lib.hid hW;have HK := Lib.hid hkr;have HL := Lib.hid hlr;have HN := Lib.hid hn;have Hkl := Lib.hid hkl;clear ih hW hkr hlr hn hkl;have hks : ks.length ≤ 1048576 := by omega
   have hls : l.length ≤ 1048576 := by omega
   have hts : t.length ≤ 1048576 := by omega
   unfold maxLen at hkc2 hlc2;rw [wtO];obtain ⟨SS,hSS⟩ : ∃ SS,SS = kwt ks := ⟨_,rfl⟩;have hs16 := kwt_all ks;change Calls Tryz.prog 23 _ w (fun e w' => e = .returned (.bool (decide (1 + t.length / 16 + kwt ks + wtL l ≤ L))) ∧ ∃ x : Int,(1 + t.length / 16 + kwt ks + wtL l ≤ L → x = (L : Int) - (1 + t.length / 16 + kwt ks + wtL l : Nat)) ∧ Blk w' p 3 #[.int .i64 x] ∧ Only w w' p);rw [← hSS] at hs16 ⊢;have HSS := Lib.hid hSS;have hSb : SS ≤ 1048576 := by omega
   have hwb : wtL l ≤ 1048576 := by omega
   clear hSS hs16 hwl hsl hbl hb;obtain ⟨C,hC⟩ : ∃ C,C = (ov7 kd nn g x t (.slice A ks.length kc) (.slice A2 l.length lc)).toArray := ⟨_,rfl⟩;have HC := Lib.hid hC;have hC4 : C[4]? = some (S t) := by rw [hC];rfl
   have hC5 : C[5]? = some (.slice A ks.length kc) := by rw [hC];rfl
   have hC6 : C[6]? = some (.slice A2 l.length lc) := by rw [hC];rfl
   have H4 := Lib.hid hC4;have H5 := Lib.hid hC5;have H6 := Lib.hid hC6;clear hC hC4 hC5 hC6;have hhp : Hid (W0.heap.size ≤ p) := Lib.hid hp0;go_enter Tryz.func23,Tryz.ntmps23;go_wp2_with fail;refine wp_gen (fun wx => FewS w wx p w.heap.size C L) ⟨by rw [HC.out];exact Blk.new _ _ _,Blk.alloc hc0 _,only_alloc (only_refl _ _) _,Nat.le_refl _⟩ ?_;obtain ⟨b,hbz⟩ : ∃ b,b = w.heap.size := ⟨_,rfl⟩;rw [← hbz] at hpl ⊢;have Hbz := Lib.hid hbz;have hpw : Hid (p < w.heap.size) := Lib.hid (by rw [← hbz];exact hpl);clear hbz hc0;intro w1 hS1;obtain ⟨hcb,c0,f0⟩ := hS1.cells;have c4 : w1.cell? ⟨b,4,none⟩ = some (S t) := (hcb 4).trans H4.out;clear hcb;refine region_tailq 9 (by kernel_rfl) (by kernel_rfl) ?_;intro w2 e2;have hS2 : FewS w w2 p b C L := by rw [e2];exact hS1.drew
   clear e2 hS1 c0 c4 f0;obtain ⟨hcb,c0,f0⟩ := hS2.cells;have c4 : w2.cell? ⟨b,4,none⟩ = some (S t) := (hcb 4).trans H4.out;have c5 : w2.cell? ⟨b,5,none⟩ = some (.slice A ks.length kc) := (hcb 5).trans H5.out;clear hcb;simp only [List.take_succ_cons,List.take_zero,List.drop_succ_cons,List.drop_zero]
   repeat (go_big_quiet_step (fail))
   refine wpQuiet_nil ?_;go_wp2_with fail
   go_loopg [21] ks.length (fun g i wr => ∃ (k : Nat) (y : Int),i = .int .i64 k ∧ k + g = ks.length ∧ Hid (y = (L : Int) - (1 + (t.length / 16 : Nat)) - (kwt (ks.take k) : Nat)) ∧ (-2097152 ≤ y ∧ y ≤ 20000) ∧ FewS w wr p b C y)
   case atStart => exact ⟨0,(L : Int) - (1 + (t.length / 16 : Nat)),rfl,by omega,Lib.hid (by simp [kwt]),by omega,hS2.put hpw.out (by go_num)⟩
   case round =>
    clear hS2 c0 c4 c5 f0;obtain ⟨k,y,rfl,hg,Hy,hyb,hS⟩ := hrel;by_cases hk : k < ks.length
    · have tk : k < ks.length := hk;obtain ⟨bk,off,rfl,hbk,hrow⟩ := HK.out (by omega);have hku : (ks.map fun k => (Value.string ⟨k.toArray⟩ : Value))[k]? = some (S ks[k]) := by simp [hk]
      have ck := hS.row HW.out HW.out.size hhp.out hrow hbk hku;obtain ⟨q,hq⟩ : ∃ q,q = ks[k] := ⟨_,rfl⟩;rw [← hq] at ck
      have hql : q.length ≤ 1048576 := by
       have h1 := sum_at (List.getElem_mem hk);have := HB.out;rw [hq];omega
      have hst := kwt_take ks k hk;rw [← hq] at hst;have hsb := kwt_le ks (k + 1);rw [← HSS.out] at hsb;have Hyn : Hid (y - (q.length / 16 : Nat) = (L : Int) - (1 + (t.length / 16 : Nat)) - (kwt (ks.take (k + 1)) : Nat)) := Lib.hid (by rw [hst,Hy.out];omega);have hyn : -2097152 ≤ y - (q.length / 16 : Nat) := by rw [Hyn.out];omega
      clear hst;clear hq hrow hku hsb;obtain ⟨hcb,c0,f0⟩ := hS.cells;clear hcb;go_wp2_with fail
      go_roundg (ks.length - k - 1)
      case measure => omega
      case rel => exact ⟨k + 1,y - (q.length / 16 : Nat),by go_num,by omega,Hyn,by omega,hS.put hpw.out (by go_num)⟩
    have hke : k = ks.length := by omega
    have tk : ¬ k < ks.length := hk;have Hy2 : Hid (y = (L : Int) - (1 + (t.length / 16 : Nat)) - (SS : Nat)) := Lib.hid (by rw [Hy.out,hke,List.take_length,HSS.out]);clear hke Hy;obtain ⟨hcb,c0,f0⟩ := hS.cells;clear hcb;by_cases hy0 : y < 0
    · have t0 : decide (y < 0) = true := by rw [decide_eq_true_eq];exact hy0
      go_wp2_with fail;go_ret;have := Hy2.out;exact ⟨ret_bool (by symm;rw [decide_eq_false_iff_not];omega),y,fun h => by omega,hS.cnt,hS.oo⟩
    have t0 : decide (y < 0) = false := by rw [decide_eq_false_iff_not];exact hy0
    go_wp2_with fail
    go_loopg [7] l.length (fun g i wr => ∃ (k : Nat) (y' : Nat),i = .int .i64 k ∧ k + g = l.length ∧ Hid (y - (wtL (l.take k) : Nat) = (y' : Int)) ∧ y' ≤ 20000 ∧ FewS w wr p b C y')
    case atStart => exact ⟨0,y.toNat,rfl,by omega,Lib.hid (by simp [wtL];omega),by omega,by rw [show ((y.toNat : Nat) : Int) = y by omega];exact hS⟩
    case round =>
     clear hS c0 f0;obtain ⟨k,y',rfl,hg,Hy,hyb,hS⟩ := hrel;obtain ⟨hcb,c0,f0⟩ := hS.cells;have c6 := (hcb 6).trans H6.out;clear hcb;by_cases hk2 : k < l.length
     · have tk2 : k < l.length := hk2;obtain ⟨bk,off,rfl,hbk,hrow⟩ := HL.out (by omega);obtain ⟨c',hc7,hrep,hat⟩ := hkids.at_ k hk2;have hrep2 := hrep;obtain ⟨o',ho'⟩ : ∃ o',o' = l[k] := ⟨_,rfl⟩
       have hsz : SizeOf.sizeOf o' ≤ n := by
        have h1 := List.sizeOf_lt_of_mem (List.getElem_mem hk2);rw [← ho'] at h1;have h2 := HN.out;simp at h2;omega
       have hbo : bulkO o' ≤ 1048576 := by
        have h1 := bulkL_at k hk2;rw [← ho'] at h1;have := HB.out;omega
       have hwt := wtL_take l k hk2;have hws := wtL_split l (k + 1);rw [← ho'] at hwt hrep hrep2;obtain ⟨kd',n',g',x',t',ks',l'⟩ := o';unfold ORep at hrep;obtain ⟨kv',lv',xs',rfl,hk',hl',hkids'⟩ := hrep;obtain ⟨A',kc',rfl,_⟩ := hk';obtain ⟨A2',lc',rfl,_⟩ := hl';obtain ⟨d0,d1,d2,d3,d4,d5,d6⟩ := row7 (fun j u hj => hS.row HW.out HW.out.size hhp.out hrow hbk hj) hat rfl;go_wp2_with fail
       have hWr : Below W0.heap.size W0 wr := by
        refine ⟨hS.oo.os.trans HW.out.os,hS.oo.tape.trans HW.out.tape,hS.oo.output.trans HW.out.output,Nat.le_trans HW.out.size hS.oo.size,fun j hj => (hS.oo.block j (Nat.lt_of_lt_of_le hj HW.out.size) (fun e => by injection e with e;have := hhp.out;omega)).trans (HW.out.block j hj)⟩
       have hcall := HIH.out (.mk kd' n' g' x' t' ks' l') _ p y' wr hsz hrep2 hbo hWr hhp.out hS.cnt hyb;obtain ⟨wt,hwt2⟩ : ∃ wt,wt = wtO (.mk kd' n' g' x' t' ks' l') := ⟨_,rfl⟩;rw [← hwt2] at hcall hwt;clear hwt2;have hpl2 := hpw.out;refine hcall.mono ?_;rintro e w3 ⟨rfl,x3,hx3,hc3,hO3⟩;have hS3 := hS.call hpw.out hO3 hc3;clear hcall hc3 hO3 hS hWr d0 d1 d2 d3 d4 d5 d6 c0 f0 c6;by_cases hle : wt ≤ y'
       · have t1 : decide (wt ≤ y') = true := decide_eq_true hle;have hx3' := hx3 hle;have Hx3 : Hid (x3 = ((y' - wt : Nat) : Int)) := Lib.hid (by rw [hx3'];omega);rw [Hx3.out] at hS3;clear hx3 hx3';go_wp2_with fail
         go_roundg (l.length - k - 1)
         case measure => omega
         case rel => exact ⟨k + 1,y' - wt,by go_num,by omega,Lib.hid (by have := Hy.out;omega),by omega,hS3⟩
       have t1 : decide (wt ≤ y') = false := decide_eq_false hle;clear hx3;go_wp2_with fail;go_ret;have h1 := Hy.out;have h2 := Hy2.out;exact ⟨ret_bool (by symm;rw [decide_eq_false_iff_not];omega),x3,fun h => by omega,hS3.cnt,hS3.oo⟩
     have tk2 : ¬ k < l.length := hk2;have hke : k = l.length := by omega
     have Hy3 : Hid (y - (wtL l : Nat) = (y' : Int)) := Lib.hid (by have := Hy.out;rw [hke,List.take_length] at this;exact this);clear hke Hy;go_wp2_with fail;go_ret;have h1 := Hy3.out;have h2 := Hy2.out;exact ⟨ret_bool (by symm;rw [decide_eq_true_eq];omega),y',fun h => by omega,hS.cnt,hS.oo⟩
end Go.Proofs.YtcpijmbdibgdmaaGreatDoor
