/-
  spec.Prolog: the head of an object stream, read.
-/
import Derived.Test.YtcpijmbdibgdmaaGreatDoorMs22
set_option linter.all false
set_option maxHeartbeats 16000000
set_option maxRecDepth 100000
namespace Go.Proofs.YtcpijmbdibgdmaaGreatDoor
open Go.RowKit
attribute [local go_sem] ba_get store_flt
theorem Tryz.info3p : (Tryz.prog.info? 3).map (fun i => (i.zero,i.size,i.bytes)) = some (some (.int .i64 0),1,8) := by kernel_rfl
theorem headT_mono (l : List (Int × Nat)) (i : Nat) : (headT true (l.take i)).length ≤ (headT true l).length := by
 have h : ∀ (l : List (Int × Nat)) (f : Bool) (i : Nat),(headT f (l.take i)).length ≤ (headT f l).length := by
  intro l
  induction l with
  | nil => intro f i;simp
  | cons a l ih =>
    intro f i;obtain ⟨n,k⟩ := a
    cases i with
    | zero => simp [headT]
    | succ i =>
      have := ih false i;rw [List.take_succ_cons,headT,headT];simp;omega
 exact h l true i
structure PlS (w wr : World) (r : Nat) (s : List UInt8) (k : Nat) (odd : Bool) (nv pv : Value) (ns ps : List Int) : Prop where
 own1 : wr.ownsRow (r + 1) 3 1 nv ns.length (ns.map fun n => .int .i64 n)
 own2 : wr.ownsRow (r + 1) 3 1 pv ps.length (ps.map fun n => .int .i64 n)
 ne : ∀ g,nv.ownBlock = some g → pv.ownBlock ≠ some g
 rd : Rd wr r s k 0 0 odd false
 below : Below w.heap.size w wr
 hr : w.heap.size ≤ r
section
variable {w wr w' : World} {r : Nat} {s : List UInt8} {k k' : Nat} {odd odd' : Bool} {nv pv nv' pv' : Value} {ns ps : List Int}
theorem PlS.step (h : PlS w wr r s k odd nv pv ns ps) (hO : Only wr w' r) (hR : Rd w' r s k' 0 0 odd' false) : PlS w w' r s k' odd' nv pv ns ps :=
 ⟨ownsRow_keepB h.own1 (fun g hg => hO.block g (World.ownsRow.lt h.own1 g hg).2 (fun e => by injection e with e;have := (World.ownsRow.lt h.own1 g hg).1;omega)),
  ownsRow_keepB h.own2 (fun g hg => hO.block g (World.ownsRow.lt h.own2 g hg).2 (fun e => by injection e with e;have := (World.ownsRow.lt h.own2 g hg).1;omega)),h.ne,hR,only_new hO h.hr h.below,h.hr⟩
theorem PlS.app1 (h : PlS w wr r s k odd nv pv ns ps) {m : Int} (ho : w'.ownsRow (r + 1) 3 1 nv' (ns.length + 1) (ns.map (fun n => .int .i64 n) ++ [.int .i64 m])) (hg : wr.grownBy w' nv.ownBlock) (hat : nv'.ownBlock = nv.ownBlock ∨ nv'.ownBlock = some wr.heap.size) : PlS w w' r s k odd nv' pv (ns ++ [m]) ps := by
 have h1 := World.ownsRow.lt h.own1;have h2 := World.ownsRow.lt h.own2;have hr := h.hr;refine ⟨by simpa using ho,ownsRow_keepB h.own2 (fun g hg' => hg.block g (h2 g hg').2 (fun e => h.ne g e.symm hg')),fun g hg' e => ?_,Blk.grown h.rd hg (fun e => by have := h1 _ e.symm;omega),h.below.grown hg h.below.size (fun q hq => by have := h1 q hq;omega),hr⟩;rcases hat with hat | hat
 · exact h.ne g (hat.symm.trans hg') e
 rw [hat] at hg';injection hg' with hg';have := h2 g e;omega
theorem PlS.app2 (h : PlS w wr r s k odd nv pv ns ps) {m : Int} (ho : w'.ownsRow (r + 1) 3 1 pv' (ps.length + 1) (ps.map (fun n => .int .i64 n) ++ [.int .i64 m])) (hg : wr.grownBy w' pv.ownBlock) (hat : pv'.ownBlock = pv.ownBlock ∨ pv'.ownBlock = some wr.heap.size) : PlS w w' r s k odd nv pv' ns (ps ++ [m]) := by
 have h1 := World.ownsRow.lt h.own2;have h2 := World.ownsRow.lt h.own1;have hr := h.hr;refine ⟨ownsRow_keepB h.own1 (fun g hg' => hg.block g (h2 g hg').2 (fun e => h.ne g hg' e.symm)),by simpa using ho,fun g hg' e => ?_,Blk.grown h.rd hg (fun e => by have := h1 _ e.symm;omega),h.below.grown hg h.below.size (fun q hq => by have := h1 q hq;omega),hr⟩;rcases hat with hat | hat
 · exact h.ne g hg' (hat.symm.trans e)
 rw [hat] at e;injection e with e;have := h2 g hg';omega
theorem PlS.keep (h : PlS w wr r s k odd nv pv ns ps) (hB : Below wr.heap.size wr w') : PlS w w' r s k odd nv pv ns ps :=
 h.step (only_of_below hB) (Blk.below h.rd hB (Blk.lt h.rd))
end
theorem wpList_app3 {ops : Array Oper} {rest : List Oper} {o : Oper} {a : Act} {Q : Exit → Act → World → Prop} {wr : World} (hgd : o.guard = none) (s x : Operand) (ho : o.op = .call { callee := .builtin .append,args := #[s,x],argTypes := #[31,31] })
 (base : Nat) (v : Value) (ns : List Int) (hown : wr.ownsRow base 3 1 v ns.length (ns.map fun n => .int .i64 n)) (m : Int) (hs : a.eval s = v) (hx : a.eval x = .slice (some ⟨wr.heap.size,0,none⟩) 1 1) (hb : base ≤ wr.heap.size) (hn : ns.length ≤ 1000000)
 (h : ∀ v' w',w'.ownsRow base 3 1 v' (ns.length + 1) (ns.map (fun n => .int .i64 n) ++ [.int .i64 m]) → (wr.alloc (.cells #[.int .i64 m] 3)).grownBy w' v.ownBlock → (v'.ownBlock = v.ownBlock ∨ v'.ownBlock = some (wr.alloc (.cells #[.int .i64 m] 3)).heap.size) → wpList Tryz.prog ops Q rest (a.put o.dst v') w') : wpList Tryz.prog ops Q (o :: rest) a (wr.alloc (.cells #[.int .i64 m] 3)) := by
 obtain ⟨i0,hi,hz0,hz1,hz2⟩ := info_parts Tryz.info3p;refine wpList_append_own_at _ hgd s x 31 ho base 3 i0 (.int .i64 0) 1 8 Tryz.underlying31 hi hz0 hz1 hz2 rfl (by decide) v ns.length _ hs (hown.alloc _) ⟨wr.heap.size,0,none⟩ 1 1 [.int .i64 m] hx rfl (World.news_of_block (heap_alloc_new _ _)) (fun y hy => by rw [List.mem_singleton] at hy;rw [hy];rfl) (by unfold maxLen;omega) (by omega) (by simp;omega) ?_;intro v' w' h1 h2 _ h4;exact h v' w' h1 h2 h4
def ProPost (w : World) (l : List (Int × Nat)) (e : Ending) (w' : World) : Prop :=
 ∃ nv pv,e = .returned (.tuple #[nv,pv,.bool true]) ∧ w'.ownsRow 0 3 1 nv l.length ((l.map (·.1)).map fun n => .int .i64 n) ∧ w'.ownsRow 0 3 1 pv l.length ((l.map fun q => ((q.2 : Nat) : Int)).map fun n => .int .i64 n) ∧ (∀ g,nv.ownBlock = some g → w.heap.size ≤ g) ∧ (∀ g,pv.ownBlock = some g → w.heap.size ≤ g) ∧ Below w.heap.size w w'
theorem prolog_any (l : List (Int × Nat)) (hl : l.length ≤ 100) (hn : ∀ q ∈ l,∃ u : Nat,q.1 = (u : Int) ∧ u < 1000000000000000000) (hp : ∀ q ∈ l,q.2 < 1000000000000000000) (hs : (headT true l).length ≤ 268435456) (w : World) :
 Calls Tryz.prog 14 #[S (headT true l),.int .i64 (l.length : Nat)] w (ProPost w l) := by
 obtain ⟨s,hse⟩ : ∃ s,s = headT true l := ⟨_,rfl⟩;rw [← hse] at hs ⊢;have Hse := Lib.hid hse;have Hn := Lib.hid hn;have Hp := Lib.hid hp;clear hse hn hp;go_enter Tryz.func14,Tryz.ntmps14;go_wp2_with fail;refine wp_gen (fun wr => PlS w wr w.heap.size s 0 false (.slice none 0 0) (.slice none 0 0) [] []) ?_ ?_
 · refine ⟨World.ownsRow_nil _ _ _ _,World.ownsRow_nil _ _ _ _,(fun g hg => by cases hg),Blk.newAt _ 54 _ _ rfl,(Below.refl _ w).alloc (Nat.le_refl _) _,Nat.le_refl _⟩
 obtain ⟨r,hr⟩ : ∃ r,r = w.heap.size := ⟨_,rfl⟩;rw [← hr];clear hr;intro w0 hS0
 go_loopg [15,4,5] l.length (fun g j nv pv wr => ∃ (i : Nat) (odd : Bool),j = .int .i64 i ∧ i + g = l.length ∧ PlS w wr r s (headT true (l.take i)).length odd nv pv ((l.take i).map (·.1)) ((l.take i).map fun q => ((q.2 : Nat) : Int)))
 case atStart => exact ⟨0,false,by go_num,by omega,by simpa [headT] using hS0⟩
 case round =>
  clear hS0;obtain ⟨i,odd0,rfl,hg,hS0⟩ := hrel;by_cases hi : i < l.length
  · have ti : i < l.length := hi;have hat := headT_at l true i hi;have hlen := headT_len l i hi;obtain ⟨u,hu,hub⟩ := Hn.out _ (List.getElem_mem hi);have hvb := Hp.out _ (List.getElem_mem hi);have htk : l.take (i + 1) = l.take i ++ [l[i]] := List.take_succ_eq_append_getElem hi;have hst := headT_stop (l.drop (i + 1));obtain ⟨v,hv⟩ : ∃ v,v = l[i].2 := ⟨_,rfl⟩;rw [← Hse.out,hu,← hv] at hat;rw [hu,← hv] at hlen;rw [← hv] at hvb;obtain ⟨p0,hp0⟩ : ∃ p,p = (headT true (l.take i)).length := ⟨_,rfl⟩;rw [← hp0] at hat hlen hS0;obtain ⟨ws,hws⟩ : ∃ ws : List UInt8,ws = (if (true && decide (i = 0)) = true then [] else [32]) := ⟨_,rfl⟩;have hwl : ws.length = if i = 0 then 0 else 1 := by rw [hws];by_cases h0 : i = 0 <;> simp [h0]
    have hwW : WS ws := by rw [hws];exact ws_sp _
    rw [← hws] at hat;obtain ⟨q0,hq0⟩ : ∃ q,q = p0 + ws.length := ⟨_,rfl⟩;obtain ⟨p1,hp1⟩ : ∃ q,q = q0 + (Lib.itoa (u : Int)).length := ⟨_,rfl⟩;obtain ⟨q1,hq1⟩ : ∃ q,q = p1 + 1 := ⟨_,rfl⟩;obtain ⟨p2,hp2⟩ : ∃ q,q = q1 + (Lib.itoa (v : Int)).length := ⟨_,rfl⟩
    have hd1 : ∀ o o2,(skipAt s p0 o).1 = q0 ∧ (wordAt s q0 o2).1 = Lib.itoa (u : Int) ∧ (wordAt s q0 o2).2.1 = p1 ∧ s.drop p1 = 32 :: (Lib.itoa (v : Int) ++ headT false (l.drop (i + 1))) := fun o o2 => by
     rw [hp1,hq0];exact head_word hwW hat (fun b r e => by injection e with e _;subst e;decide)
    have hd2 : ∀ o o2,(skipAt s p1 o).1 = q1 ∧ (wordAt s q1 o2).1 = Lib.itoa (v : Int) ∧ (wordAt s q1 o2).2.1 = p2 ∧ s.drop p2 = headT false (l.drop (i + 1)) := fun o o2 => by
     have h := (hd1 false false).2.2.2;rw [hp2,hq1];exact head_word (ws := [32]) (fun b hb => by simp at hb;subst hb;decide) (by rw [h];rfl) hst
    have hp2e : p2 = (headT true (l.take (i + 1))).length := by rw [hlen];omega
    have p2le : p2 ≤ s.length := by
     rw [hp2e,Hse.out];exact headT_mono l (i + 1)
    have q1le : q1 ≤ s.length := by omega
    have p1le : p1 ≤ s.length := by omega
    have q0le : q0 ≤ s.length := by omega
    have p0le : p0 ≤ s.length := by omega
    have hau := (itoa_nat hub).2;have hav := (itoa_nat hvb).2;have uil : (Lib.itoa (u : Int)).length ≤ 268435456 := by omega
    have vil : (Lib.itoa (v : Int)).length ≤ 268435456 := by omega
    obtain ⟨N0,hN0⟩ : ∃ N,N = (l.take i).map (·.1) := ⟨_,rfl⟩;obtain ⟨M0,hM0⟩ : ∃ N,N = (l.take i).map (fun q => ((q.2 : Nat) : Int)) := ⟨_,rfl⟩;have hN1 : (l.take (i + 1)).map (·.1) = N0 ++ [(u : Int)] := by rw [htk,hN0,List.map_append,List.map_cons,List.map_nil,hu]
    have hM1 : (l.take (i + 1)).map (fun q => ((q.2 : Nat) : Int)) = M0 ++ [(v : Int)] := by rw [htk,hM0,List.map_append,List.map_cons,List.map_nil,hv]
    have hNl : N0.length = i := by rw [hN0];simp;omega
    have hMl : M0.length = i := by rw [hM0];simp;omega
    rw [← hN0,← hM0] at hS0;have Hd1 := Lib.hid hd1;have Hd2 := Lib.hid hd2;have HN1 := Lib.hid hN1;have HM1 := Lib.hid hM1;have Hp2e := Lib.hid hp2e;have Hau := Lib.hid hau;have Hav := Lib.hid hav;clear hd1 hd2 hN1 hM1 hp2e hau hav hat hlen hu hv htk hst hws hwl hwW hp0 hq0 hp1 hq1 hp2 hN0 hM0;go_wp2_with fail
    go_loopg [17,4,5] 2 (fun g j nv pv wr => ∃ (k : Nat) (odd : Bool),j = .int .i64 k ∧ k + g = 2 ∧ PlS w wr r s (if k = 0 then p0 else if k = 1 then p1 else p2) odd nv pv (if k = 0 then N0 else N0 ++ [(u : Int)]) (if k ≤ 1 then M0 else M0 ++ [(v : Int)]))
    case atStart => exact ⟨0,odd0,by go_num,by omega,by simpa using hS0⟩
    case round =>
     clear hS0;obtain ⟨k,odd,rfl,hgk,hS⟩ := hrel;by_cases hk0 : k = 0
     · subst hk0;simp only [if_true,Nat.zero_le] at hS;go_wp2_with fail;refine (pass_any r s p0 0 0 odd false wr p0le hs hS.rd).mono ?_;rintro e w1 ⟨rfl,hA,hO⟩;have e1 : p0 + (passM false (s.drop p0) odd).1 = q0 := by have := (Hd1.out odd odd).1;unfold skipAt at this;exact this
       rw [e1] at hA;have hS := hS.step hO hA;clear hA hO;go_wp2_with fail;refine (word_any r s q0 0 0 _ false w1 q0le hs hS.rd).mono ?_;rintro e w2 ⟨rfl,hA,hO⟩;have e2 : (s.drop q0).take (wordR (s.drop q0) (passM false (s.drop p0) odd).2).1 = Lib.itoa (u : Int) := by have := (Hd1.out odd (passM false (s.drop p0) odd).2).2.1;unfold wordAt at this;exact this
       have e3 : q0 + (wordR (s.drop q0) (passM false (s.drop p0) odd).2).1 = p1 := by have := (Hd1.out odd (passM false (s.drop p0) odd).2).2.2.1;unfold wordAt at this;exact this
       rw [e3] at hA;rw [e2];have hS := hS.step hO hA;clear hA hO e1 e2 e3;go_wp2_with fail;refine (atoi_any _ _ Hau.out uil w2).mono ?_;rintro e w3 ⟨rfl,hB⟩;have hS := hS.keep hB;clear hB;have t0 : decide (((u : Nat) : Int) < 0) = false := by rw [decide_eq_false_iff_not];omega
       go_wp2_with (at_builtin;refine wpList_app3 rfl (.tmp 36) (.tmp 38) rfl (r + 1) _ _ hS.own1 _ (by simp [Act.eval,Act.put]) (by simp [Act.eval,Act.put]) (Blk.lt hS.rd) (by first | omega | (simp;omega)) ?_;intro v4 w4 ho4 hg4 hat4;have hS := (hS.keep ((Below.refl _ w3).alloc (Nat.le_refl _) _)).app1 ho4 hg4 hat4)
       go_roundg (1)
       case measure => omega
       case rel => exact ⟨1,_,by go_num,by omega,by simpa using hS⟩
     by_cases hk1 : k = 1
     · subst hk1;simp only [Nat.one_ne_zero,if_false,if_true,Nat.le_refl] at hS;go_wp2_with fail;refine (pass_any r s p1 0 0 odd false wr p1le hs hS.rd).mono ?_;rintro e w1 ⟨rfl,hA,hO⟩;have e1 : p1 + (passM false (s.drop p1) odd).1 = q1 := by have := (Hd2.out odd odd).1;unfold skipAt at this;exact this
       rw [e1] at hA;have hS := hS.step hO hA;clear hA hO;go_wp2_with fail;refine (word_any r s q1 0 0 _ false w1 q1le hs hS.rd).mono ?_;rintro e w2 ⟨rfl,hA,hO⟩;have e2 : (s.drop q1).take (wordR (s.drop q1) (passM false (s.drop p1) odd).2).1 = Lib.itoa (v : Int) := by have := (Hd2.out odd (passM false (s.drop p1) odd).2).2.1;unfold wordAt at this;exact this
       have e3 : q1 + (wordR (s.drop q1) (passM false (s.drop p1) odd).2).1 = p2 := by have := (Hd2.out odd (passM false (s.drop p1) odd).2).2.2.1;unfold wordAt at this;exact this
       rw [e3] at hA;rw [e2];have hS := hS.step hO hA;clear hA hO e1 e2 e3;go_wp2_with fail;refine (atoi_any _ _ Hav.out vil w2).mono ?_;rintro e w3 ⟨rfl,hB⟩;have hS := hS.keep hB;clear hB;have t0 : decide (((v : Nat) : Int) < 0) = false := by rw [decide_eq_false_iff_not];omega
       go_wp2_with (at_builtin;refine wpList_app3 rfl (.tmp 40) (.tmp 42) rfl (r + 1) _ _ hS.own2 _ (by simp [Act.eval,Act.put]) (by simp [Act.eval,Act.put]) (Blk.lt hS.rd) (by first | omega | (simp;omega)) ?_;intro v4 w4 ho4 hg4 hat4;have hS := (hS.keep ((Below.refl _ w3).alloc (Nat.le_refl _) _)).app2 ho4 hg4 hat4)
       go_roundg (0)
       case measure => omega
       case rel => exact ⟨2,_,by go_num,by omega,by simpa using hS⟩
     have hk2 : k = 2 := by omega
     subst hk2;simp only [show ¬ ((2 : Nat) = 0) by decide,show ¬ ((2 : Nat) = 1) by decide,show ¬ ((2 : Nat) ≤ 1) by decide,if_false] at hS;go_wp2_with fail
     go_roundg (l.length - (i + 1))
     case measure => omega
     case rel => exact ⟨i + 1,odd,by go_num,by omega,by rw [HN1.out,HM1.out,← Hp2e.out];exact hS⟩
  have ti : ¬ i < l.length := hi;rw [List.take_of_length_le (by omega),← Hse.out] at hS0;have hS := hS0;clear hS0;go_wp2_with fail;refine (pass_any r s s.length 0 0 odd0 false wr (Nat.le_refl _) hs hS.rd).mono ?_;rintro e w1 ⟨rfl,hA,hO⟩;have e1 : s.length + (passM false (s.drop s.length) odd0).1 = s.length := by rw [List.drop_length];simp [passM]
  rw [e1] at hA;have hS := hS.step hO hA;clear hA hO e1;obtain ⟨c0,c1,c2,c3,c4,c5⟩ := hS.rd.cs;go_wp2_with fail;go_quiet (fail);go_wp2_with fail;have hS := hS.step (only_drewN (only_refl _ _) nq) hS.rd;refine bodyPost_ret (v := .tuple #[u4,u5,.bool true]) (by simp [results,Tryz.results14,go_sem]) rfl ?_;exact ⟨u4,u5,rfl,by simpa using ownsRow_base hS.own1,by simpa using ownsRow_base hS.own2,fun g hg => by have := World.ownsRow.lt hS.own1 g hg;have := hS.hr;omega,fun g hg => by have := World.ownsRow.lt hS.own2 g hg;have := hS.hr;omega,hS.below⟩
end Go.Proofs.YtcpijmbdibgdmaaGreatDoor
