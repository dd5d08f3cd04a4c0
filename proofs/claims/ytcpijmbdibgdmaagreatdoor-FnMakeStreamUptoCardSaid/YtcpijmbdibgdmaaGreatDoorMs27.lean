/-
  types.Dict.PDFString, over what is said of smaller objects.
  Every array's and dictionary's writer.
  impl.object.
-/
import Derived.Test.YtcpijmbdibgdmaaGreatDoorMs21
import Derived.Sort.OwnSorted
import Derived.Shelf.Slices.In.SortNone2
set_option linter.all false
set_option maxHeartbeats 16000000
set_option maxRecDepth 100000
namespace Go.Proofs.YtcpijmbdibgdmaaGreatDoor
open Go.RowKit
attribute [local go_sem] ba_get store_flt
theorem run_op_range {P : Program} {w : World} {b : Nat} {ks : List (List UInt8)} {vs : List Value} {T K E : TypeId} {o : Oper} {a : Act} {m : Operand} (ho : o.op = .range T m) (hT : P.underlying T = some (.map K E)) (h : MapIs w b ks vs) (em : a.eval m = .map (some b)) :
 (execOp a.eval o).run P w = .ok (.value (.pointer (some ⟨w.heap.size,0,none⟩))) (w.alloc (.mapIter (some b) ks.length #[] ks.length)) := by
 have hr := run_range_map (P := P) hT h;unfold execOp;simp only [ho,em,Sem.run_bind,Sem.run_pure,hr,Result.andThen_ok]
theorem run_op_next {P : Program} {w w' : World} {r : Nat} {v : Value} {o : Oper} {a : Act} {m : Operand} (ho : o.op = .next m false) (em : a.eval m = .pointer (some ⟨r,0,none⟩)) (hr : (Instr.next (.pointer (some ⟨r,0,none⟩)) false o.type).run P w = .ok v w') :
 (execOp a.eval o).run P w = .ok (.value v) w' := by
 unfold execOp;simp only [ho,em,Sem.run_bind,Sem.run_pure,hr,Result.andThen_ok]
def shownK (ks : List (List UInt8)) (seen : List Nat) : List (List UInt8) := seen.filterMap fun i => ks[i]?
def mkB (l : List (List UInt8)) : List ByteArray := l.map fun k => ⟨k.toArray⟩
theorem shownK_snoc {ks : List (List UInt8)} {seen : List Nat} {j : Nat} (h : j < ks.length) : mkB (shownK ks (seen ++ [j])) = mkB (shownK ks seen) ++ [⟨ks[j].toArray⟩] := by
 unfold shownK mkB;rw [List.filterMap_append];simp [h]
theorem nodup_lt : ∀ (n : Nat) (l : List Nat),l.Nodup → (∀ i ∈ l,i < n) → l.length ≤ n
 | 0,l,_,h => by
   cases l with
   | nil => simp
   | cons a l => exact absurd (h a (by simp)) (by omega)
 | n + 1,l,hn,h => by
   have h1 := nodup_lt n (l.erase n) (hn.erase n) (fun i hi => by
    have h2 := h i (List.mem_of_mem_erase hi)
    have h3 : i ≠ n := fun e => by subst e;exact (hn.not_mem_erase) hi
    omega)
   have h4 := List.length_erase (a := n) (l := l);split at h4 <;> omega
theorem mkB_enc (l : List (List UInt8)) : (mkB l).map Value.string = l.map encStr := by simp [mkB]
theorem sort_own {w wr : World} {mb n : Nat} {seen : List Nat} {yl ks : List (List UInt8)} {v : Value} (hK : RK w wr mb n seen (mkB yl) v) (hp : yl.Perm ks) (hup : upB ks = true) (hlen : ks.length ≤ 1048576) :
 Calls Tryz.prog 94 #[v] wr fun e w' => e = .returned (.tuple #[]) ∧ w'.ownsRow (w.heap.size + 1) 9 1 v ks.length ((mkB ks).map .string) ∧ Below w.heap.size w w' := by
 have hl := hp.length_eq;have hown := hK.own;have hml : (mkB yl).length = yl.length := by simp [mkB]
 rw [mkB_enc,hml] at hown;have hsort := sort_keys hp hup;have hown2 := hown;obtain ⟨hx,h⟩ := hown;rcases h with ⟨rfl,h0⟩ | ⟨g,cap,cur,rfl,hbg,hg,hn,hc,hs,ht⟩
 · have he : ks = [] := List.eq_nil_of_length_eq_zero (by omega);subst he;refine (Any.sort_Strings_none Tryz.lays192 none 0 wr).mono ?_;rintro e w' ⟨rfl,rfl⟩;exact ⟨rfl,World.ownsRow_nil _ _ _ _,hK.below⟩
 · refine (Tryz.sort_Strings g 0 cap yl wr (holds_of_block hg (by simpa using ht)) (World.ownsRow.lt hown2 g rfl).2 (by omega)).mono ?_;rintro e w' ⟨rfl,m,os,rfl⟩;rw [hsort];have h1 := ownsRow_sorted (n := m) (os := os) hl.symm hbg hg hn hc hs;refine ⟨rfl,?_,hK.below.grown (grownBy_sorted _) hK.below.size (fun k hk => by injection hk with hk;omega)⟩;rw [mkB_enc,← hl];exact h1
structure KsR (w wr : World) (xs : List ByteArray) (s : Value) (n : Nat) (kx : List Value) (kv : Value) : Prop where
 ss : SS w wr xs s
 keys : wr.ownsRow 0 9 1 kv n kx
 ne : ∀ g,kv.ownBlock = some g → s.ownBlock ≠ some g
theorem KsR.keep {w wr w' : World} {xs : List ByteArray} {s kv : Value} {n : Nat} {kx : List Value} (h : KsR w wr xs s n kx kv) (hB : Below wr.heap.size wr w') : KsR w w' xs s n kx kv :=
 ⟨h.ss.keep hB,ownsRow_keepB h.keys (fun g hg => hB.block g (World.ownsRow.lt h.keys g hg).2),h.ne⟩
theorem KsR.start {w w9 w2 : World} {xs : List ByteArray} {s kv : Value} {n : Nat} {kx : List Value} (h : SS w w9 xs s) (hk : w2.ownsRow (w9.heap.size + 1) 9 1 kv n kx) (hB : Below w9.heap.size w9 w2) : KsR w w2 xs s n kx kv :=
 ⟨h.keep hB,ownsRow_base hk,fun g hg e => by have h1 := (World.ownsRow.lt hk g hg).1;have h2 := (World.ownsRow.lt h.own g e).2;omega⟩
theorem wpList_app9k {ops : Array Oper} {rest : List Oper} {o : Oper} {a : Act} {Q : Exit → Act → World → Prop} {w wr : World} {xs : List ByteArray} {v kv : Value} {n : Nat} {kx : List Value} (hgd : o.guard = none) (s x : Operand)
 (ho : o.op = .call { callee := .builtin .append,args := #[s,x],argTypes := #[25,25] }) (hS : KsR w wr xs v n kx kv) (hn : xs.length ≤ 8000000) (u : ByteArray) (hs : a.eval s = v) (hx : a.eval x = .slice (some ⟨wr.heap.size,0,none⟩) 1 1)
 (h : ∀ v' w',KsR w w' (xs ++ [u]) v' n kx kv → wpList Tryz.prog ops Q rest (a.put o.dst v') w') : wpList Tryz.prog ops Q (o :: rest) a (wr.alloc (.cells #[.string u] 9)) := by
 obtain ⟨i0,hi,hi0,hi1,hi2⟩ := info_parts Tryz.info9;refine wpList_append_own_at _ hgd s x 25 ho w.heap.size 9 i0 (.string ⟨#[]⟩) 1 16 Tryz.underlying25 hi hi0 hi1 hi2 rfl (by decide) v xs.length (xs.map .string) hs (hS.ss.own.alloc _) ⟨wr.heap.size,0,none⟩ 1 1 [.string u] hx rfl (World.news_of_block (heap_alloc_new _ _)) (fun y hy => by rw [List.mem_singleton] at hy;rw [hy];rfl) (by unfold maxLen;omega) (by omega) (by have := hS.ss.below.size;simp;omega) ?_;intro v' w' h1 h2 _ h4;have hb := hS.ss.below;have hog := fun g hg => World.ownsRow.lt hS.ss.own g hg
 have hkg := fun g hg => (World.ownsRow.lt hS.keys g hg).2
 refine h v' w' ⟨⟨by simpa using h1,(hb.alloc hb.size _).grown h2 (by have := hb.size;simp;omega) (fun k hk => (hog k hk).1)⟩,ownsRow_keepB hS.keys (fun g hg => (h2.block g (by have := hkg g hg;simp;omega) (fun e => hS.ne g hg e.symm)).trans (Below.heap_alloc wr _ g (hkg g hg))),fun g hg e => ?_⟩;have hlt := hkg g hg;rcases h4 with h4 | h4
 · exact hS.ne g hg (h4.symm.trans e)
 · rw [h4] at e;injection e with e;simp at e;omega
theorem run_op_lookup {P : Program} {w : World} {b p : Nat} {ks : List (List UInt8)} {vs : List Value} {T K E : TypeId} {o : Oper} {a : Act} {m x : Operand} (ho : o.op = .lookup T m x false) (hT : P.underlying T = some (.map K E)) (hK : P.underlying K = some .string) (h : MapIs w b ks vs) (hp : p < ks.length) (hd : ks.Pairwise (· ≠ ·)) {u : Value} (hu : vs[p]? = some u) (em : a.eval m = .map (some b)) {kk : List UInt8} (hkk : kk = ks[p]) (ex : a.eval x = .string ⟨kk.toArray⟩) :
 (execOp a.eval o).run P w = .ok (.value u) w := by
 subst hkk;have hr := run_lookup_some (P := P) hT hK h hp hd
 have hv : vs[p]'(h.2 ▸ hp) = u := by
  have := List.getElem?_eq_getElem (l := vs) (i := p) (h.2 ▸ hp);rw [this] at hu;injection hu
 rw [hv] at hr;unfold execOp;simp only [ho,em,ex,Sem.run_bind,Sem.run_pure,hr,Result.andThen_ok]
section
variable (FF : Nat → List UInt8)
theorem printD_snoc : ∀ (ks : List (List UInt8)) (l : List PObj) (k : List UInt8) (p : PObj),ks.length = l.length → printD FF (ks ++ [k]) (l ++ [p]) = printD FF ks l ++ (47 :: (encB k ++ ((if spB p then [32] else []) ++ printP FF p)))
 | [],[],k,p,_ => by simp [printD]
 | a :: ks,b :: l,k,p,h => by
   rw [List.cons_append,List.cons_append,printD,printD,printD_snoc ks l k p (by simpa using h)];simp
 | [],_ :: _,_,_,h => by simp at h
 | _ :: _,[],_,_,h => by simp at h
end
theorem str_dict {hi lo : Nat → Nat} {W0 : World} (hF : FFW hi lo W0) (ks : List (List UInt8)) (l : List PObj) (hst : ∀ p ∈ l,StrOk (ffB hi lo) W0 p) (hpn : LNum (ffB hi lo) l) (hkl : ks.length = l.length) (hup : upB ks = true) (hsz : szL l + (ks.map fun k => k.length + 1).sum ≤ 1048576) : StrOk (ffB hi lo) W0 (.dict ks l) := by
 unfold StrOk;intro w F b vs hW hmap hkids;obtain ⟨fin,hfin⟩ : ∃ fin,fin = printP (ffB hi lo) (.dict ks l) := ⟨_,rfl⟩;rw [← hfin];have Hfin := Lib.hid hfin;have Hst := Lib.hid hst;have Hpn := Lib.hid hpn;have Hkl := Lib.hid hkl;have Hup := Lib.hid hup;have Hsz := Lib.hid hsz;have HW := Lib.hid hW;have Hmap := Lib.hid hmap;have Hkids := Lib.hid hkids;have hn := sum_len ks;have hks : ks.length ≤ 1048576 := by omega
 clear hst hpn hkl hup hsz hW hmap hkids hfin hn;go_enter Tryz.func269,Tryz.ntmps269
 go_wp2_with (first
  | (at_builtin;refine wpList_app9 rfl (.tmp 22) (.tmp 23) rfl (SS.start w) (by simp) _ (by simp [Act.eval,Act.put]) (by simp [Act.eval,Act.put]) ?_;intro v9 w9 hS9;have hm9 := Hmap.out.below hS9.below Hmap.out.lt)
  | (at_range;refine wpList_run _ rfl (run_op_range rfl Tryz.underlying74 hm9 (by simp [Act.eval,Act.put])) ?_;go_simp))
 go_loopg [4] ks.length (fun g s4 wr => ∃ (seen : List Nat),RK w9 wr b ks.length seen (mkB (shownK ks seen)) s4 ∧ Hid (seen.Nodup ∧ (∀ i ∈ seen,i < ks.length)) ∧ seen.length + g = ks.length)
 case atStart => exact ⟨[],⟨World.ownsRow_nil _ _ _ _,heap_alloc_new _ _,(Below.refl _ w9).alloc (Nat.le_refl _) _⟩,Lib.hid ⟨List.nodup_nil,fun i h => by simp at h⟩,by simp⟩
 case round =>
  obtain ⟨seen,hK,Hs,hg⟩ := hrel;have hmr := hm9.below hK.below hm9.lt;rcases run_next_map' (P := Tryz.prog) hmr hK.it _ with ⟨hall,hrun⟩ | ⟨j,hj,hv,w1,hnj,hw1,hrun⟩
  · go_wp2_with (at_next;refine wpList_run _ rfl (run_op_next rfl (by simp [Act.eval,Act.put]) hrun) ?_);have hperm : (shownK ks seen).Perm ks := shown_perm ks seen Hs.out.1 Hs.out.2 hall;refine (sort_own hK hperm Hup.out hks).mono ?_;rintro e w2 ⟨rfl,hown2,hB2⟩;have hKS0 := KsR.start hS9 hown2 hB2;clear hK hall hrun hmr hg Hs hperm hm9 hS9 hB2;obtain ⟨vp,va,vb,rfl⟩ := ownsRow_slice hown2
    have hva : va = ks.length := by
     rcases hown2.2 with ⟨h,h0⟩ | ⟨g,cap,cur,h,_⟩
     · injection h with _ h2 _;omega
     injection h with _ h2 _
    subst hva;clear hown2;have Hnd := Lib.hid (upB_ne Hup.out);go_wp2_with fail
    go_loopg [3,39] ks.length (fun g s3 s39 wr => ∃ (k : Nat) (xs : List ByteArray),s39 = .int .i64 k ∧ k + g = ks.length ∧ KsR w wr xs s3 ks.length ((mkB ks).map .string) (.slice vp ks.length vb) ∧ xs.length = k + 1 ∧ Hid (flat xs = 60 :: 60 :: printD (ffB hi lo) (ks.take k) (l.take k)))
    case atStart => exact ⟨0,_,by go_num,by omega,hKS0,rfl,Lib.hid (by simp [flat,printD])⟩
    case round =>
     clear hKS0;obtain ⟨k,xs',rfl,hg,hKS,hxl,Hfl⟩ := hrel;by_cases hk : k < ks.length
     · have tk : k < ks.length := hk;have hkl' : k < l.length := by rw [← Hkl.out];exact hk
       have hWr := HW.out.trans (hKS.ss.below.mono HW.out.size);obtain ⟨v',hv',hT0⟩ := Hkids.out.at_ k hkl';have hT := hT0.below hKS.ss.below;have hm := Hmap.out.below hKS.ss.below Hmap.out.lt
       obtain ⟨g0,rfl,hc0⟩ : ∃ g,vp = some ⟨g,0,none⟩ ∧ wr.cell? ⟨g,k,none⟩ = some (S ks[k]) := by
        rcases hKS.keys.2 with ⟨h,h0⟩ | ⟨g,cap,cur,h,_⟩
        · omega
        injection h with h1 _ h3;subst h1 h3;refine ⟨g,rfl,?_⟩;rw [World.ownsRow.cellAt hKS.keys k (by omega)];simp [mkB,hk]
       have hst := Hst.out _ (List.getElem_mem hkl');have hpn := Hpn.out.at_ k hkl';have hps := szL_at (l := l) k hkl';have hsum := sum_at (List.getElem_mem hk);have hps2 : szP l[k] ≤ 1048576 := by have := Hsz.out;omega
       have hkey2 : ks[k].length ≤ 1048576 := by have := Hsz.out;omega
       have hpl := print_len l[k] hpn
       have hpa : printD (ffB hi lo) (ks.take (k + 1)) (l.take (k + 1)) = printD (ffB hi lo) (ks.take k) (l.take k) ++ (47 :: (encB ks[k] ++ ((if spB l[k] then [32] else []) ++ printP (ffB hi lo) l[k]))) := by
        rw [List.take_succ_eq_append_getElem hk,List.take_succ_eq_append_getElem hkl',printD_snoc _ _ _ _ _ (by rw [List.length_take,List.length_take,Hkl.out])]
       have hec := fun (h : ks[k].length ≤ 1048576) => enc_any ks[k] wr h
       have hel := encB_len ks[k];obtain ⟨key,hkey⟩ : ∃ key,key = ks[k] := ⟨_,rfl⟩;have Hkey := Lib.hid hkey;rw [← hkey] at hc0 hkey2 hpa hec hel;have hec := hec hkey2;obtain ⟨ec,hecc⟩ : ∃ ec,ec = encB key := ⟨_,rfl⟩;rw [← hecc] at hpa hec hel;have Hec := Lib.hid hec;obtain ⟨p,hp⟩ : ∃ p,p = l[k] := ⟨_,rfl⟩;rw [← hp] at hT hst hpn hps2 hpl hpa;have hps := hps2;clear hp hT0 hps2 hec hecc hkey hsum
       cases p with
       | null =>
         unfold TRep at hT;subst hT;have hpe : printP (ffB hi lo) .null = [110,117,108,108] := by rw [printP]
         rw [hpe] at hpa;have Hpa := Lib.hid hpa;clear hpa hpe;go_wp2_with (first | (at_lookup;refine wpList_run _ rfl (run_op_lookup rfl Tryz.underlying74 Tryz.underlying9 hm (by omega) Hnd.out hv' (by simp [Act.eval,Act.put]) Hkey.out (by simp [Act.eval,Act.put])) ?_;go_simp) | (at_builtin;refine wpList_app9k rfl (.tmp 50) (.tmp 54) rfl hKS (by omega) _ (by simp [Act.eval,Act.put]) (by simp [Act.eval,Act.put]) ?_;intro v9 w9 hS9));refine Hec.out.mono ?_;rintro e w4 ⟨rfl,hB4⟩;have hKS := hKS.keep hB4;clear hB4;go_wp2_with (first | (at_lookup;refine wpList_run _ rfl (run_op_lookup rfl Tryz.underlying74 Tryz.underlying9 hm (by omega) Hnd.out hv' (by simp [Act.eval,Act.put]) Hkey.out (by simp [Act.eval,Act.put])) ?_;go_simp) | (at_builtin;refine wpList_app9k rfl (.tmp 50) (.tmp 54) rfl hKS (by omega) _ (by simp [Act.eval,Act.put]) (by simp [Act.eval,Act.put]) ?_;intro v9 w9 hS9))
         go_roundg (ks.length - (k + 1))
         case measure => omega
         case rel => exact ⟨k + 1,_,by go_num,by omega,hS9,by simp [hxl],Lib.hid (by rw [flat_snoc,Hfl.out,Hpa.out];simp [spB])⟩
       | bool b =>
         unfold TRep at hT;subst hT;have hpe : printP (ffB hi lo) (.bool b) = if b then [116,114,117,101] else [102,97,108,115,101] := by rw [printP]
         have hcall : ∀ w2,Below wr.heap.size wr w2 → Calls Tryz.prog 276 #[.bool b] w2 fun e w' => e = .returned (S (printP (ffB hi lo) (.bool b))) ∧ Below w2.heap.size w2 w' := fun w2 hB2 => by
          rw [hpe];exact (str_bool b w2).mono (by rintro e w3 ⟨rfl,rfl⟩;exact ⟨rfl,Below.refl _ _⟩)
         obtain ⟨tx,htx⟩ : ∃ tx,tx = printP (ffB hi lo) (.bool b) := ⟨_,rfl⟩;rw [← htx] at hcall hpl hpa;have Hcall := Lib.hid hcall;have Hpa := Lib.hid hpa;clear hcall htx hpa hpe;go_wp2_with (first | (at_lookup;refine wpList_run _ rfl (run_op_lookup rfl Tryz.underlying74 Tryz.underlying9 hm (by omega) Hnd.out hv' (by simp [Act.eval,Act.put]) Hkey.out (by simp [Act.eval,Act.put])) ?_;go_simp) | (at_builtin;refine wpList_app9k rfl (.tmp 128) (.tmp 135) rfl hKS (by omega) _ (by simp [Act.eval,Act.put]) (by simp [Act.eval,Act.put]) ?_;intro v9 w9 hS9));refine Hec.out.mono ?_;rintro e w4 ⟨rfl,hB4⟩;have hKS := hKS.keep hB4;go_wp2_with (first | (at_lookup;refine wpList_run _ rfl (run_op_lookup rfl Tryz.underlying74 Tryz.underlying9 hm (by omega) Hnd.out hv' (by simp [Act.eval,Act.put]) Hkey.out (by simp [Act.eval,Act.put])) ?_;go_simp) | (at_builtin;refine wpList_app9k rfl (.tmp 128) (.tmp 135) rfl hKS (by omega) _ (by simp [Act.eval,Act.put]) (by simp [Act.eval,Act.put]) ?_;intro v9 w9 hS9));refine (Hcall.out _ hB4).mono ?_;rintro e w5 ⟨rfl,hB5⟩;have hKS := hKS.keep hB5;clear hB4 hB5;go_wp2_with (first | (at_lookup;refine wpList_run _ rfl (run_op_lookup rfl Tryz.underlying74 Tryz.underlying9 hm (by omega) Hnd.out hv' (by simp [Act.eval,Act.put]) Hkey.out (by simp [Act.eval,Act.put])) ?_;go_simp) | (at_builtin;refine wpList_app9k rfl (.tmp 128) (.tmp 135) rfl hKS (by omega) _ (by simp [Act.eval,Act.put]) (by simp [Act.eval,Act.put]) ?_;intro v9 w9 hS9))
         go_roundg (ks.length - (k + 1))
         case measure => omega
         case rel => exact ⟨k + 1,_,by go_num,by omega,hS9,by simp [hxl],Lib.hid (by rw [flat_snoc,Hfl.out,Hpa.out];simp [spB])⟩
       | int n =>
         unfold TRep at hT;subst hT;unfold PNum at hpn;have hpe : printP (ffB hi lo) (.int n) = Lib.itoa n := by rw [printP]
         have hcall : ∀ w2,Below wr.heap.size wr w2 → Calls Tryz.prog 274 #[.int .i64 n] w2 fun e w' => e = .returned (S (printP (ffB hi lo) (.int n))) ∧ Below w2.heap.size w2 w' := fun w2 hB2 => by
          rw [hpe];exact str_int hF n (by omega) (by omega) w2 (hWr.trans (hB2.mono hWr.size))
         obtain ⟨tx,htx⟩ : ∃ tx,tx = printP (ffB hi lo) (.int n) := ⟨_,rfl⟩;rw [← htx] at hcall hpl hpa;have Hcall := Lib.hid hcall;have Hpa := Lib.hid hpa;clear hcall htx hpa hpe hpn;go_wp2_with (first | (at_lookup;refine wpList_run _ rfl (run_op_lookup rfl Tryz.underlying74 Tryz.underlying9 hm (by omega) Hnd.out hv' (by simp [Act.eval,Act.put]) Hkey.out (by simp [Act.eval,Act.put])) ?_;go_simp) | (at_builtin;refine wpList_app9k rfl (.tmp 104) (.tmp 111) rfl hKS (by omega) _ (by simp [Act.eval,Act.put]) (by simp [Act.eval,Act.put]) ?_;intro v9 w9 hS9));refine Hec.out.mono ?_;rintro e w4 ⟨rfl,hB4⟩;have hKS := hKS.keep hB4;go_wp2_with (first | (at_lookup;refine wpList_run _ rfl (run_op_lookup rfl Tryz.underlying74 Tryz.underlying9 hm (by omega) Hnd.out hv' (by simp [Act.eval,Act.put]) Hkey.out (by simp [Act.eval,Act.put])) ?_;go_simp) | (at_builtin;refine wpList_app9k rfl (.tmp 104) (.tmp 111) rfl hKS (by omega) _ (by simp [Act.eval,Act.put]) (by simp [Act.eval,Act.put]) ?_;intro v9 w9 hS9));refine (Hcall.out _ hB4).mono ?_;rintro e w5 ⟨rfl,hB5⟩;have hKS := hKS.keep hB5;clear hB4 hB5;go_wp2_with (first | (at_lookup;refine wpList_run _ rfl (run_op_lookup rfl Tryz.underlying74 Tryz.underlying9 hm (by omega) Hnd.out hv' (by simp [Act.eval,Act.put]) Hkey.out (by simp [Act.eval,Act.put])) ?_;go_simp) | (at_builtin;refine wpList_app9k rfl (.tmp 104) (.tmp 111) rfl hKS (by omega) _ (by simp [Act.eval,Act.put]) (by simp [Act.eval,Act.put]) ?_;intro v9 w9 hS9))
         go_roundg (ks.length - (k + 1))
         case measure => omega
         case rel => exact ⟨k + 1,_,by go_num,by omega,hS9,by simp [hxl],Lib.hid (by rw [flat_snoc,Hfl.out,Hpa.out];simp [spB])⟩
       | real x =>
         unfold TRep at hT;subst hT;unfold PNum at hpn;have hpe : printP (ffB hi lo) (.real x) = ffB hi lo x := by rw [printP]
         have hcall : ∀ w2,Below wr.heap.size wr w2 → Calls Tryz.prog 275 #[.float .f64 x] w2 fun e w' => e = .returned (S (printP (ffB hi lo) (.real x))) ∧ Below w2.heap.size w2 w' := fun w2 hB2 => by
          rw [hpe];exact str_real hF x w2 (hWr.trans (hB2.mono hWr.size)) hpn.1 hpn.2.1
         obtain ⟨tx,htx⟩ : ∃ tx,tx = printP (ffB hi lo) (.real x) := ⟨_,rfl⟩;rw [← htx] at hcall hpl hpa;have Hcall := Lib.hid hcall;have Hpa := Lib.hid hpa;clear hcall htx hpa hpe hpn;go_wp2_with (first | (at_lookup;refine wpList_run _ rfl (run_op_lookup rfl Tryz.underlying74 Tryz.underlying9 hm (by omega) Hnd.out hv' (by simp [Act.eval,Act.put]) Hkey.out (by simp [Act.eval,Act.put])) ?_;go_simp) | (at_builtin;refine wpList_app9k rfl (.tmp 116) (.tmp 123) rfl hKS (by omega) _ (by simp [Act.eval,Act.put]) (by simp [Act.eval,Act.put]) ?_;intro v9 w9 hS9));refine Hec.out.mono ?_;rintro e w4 ⟨rfl,hB4⟩;have hKS := hKS.keep hB4;go_wp2_with (first | (at_lookup;refine wpList_run _ rfl (run_op_lookup rfl Tryz.underlying74 Tryz.underlying9 hm (by omega) Hnd.out hv' (by simp [Act.eval,Act.put]) Hkey.out (by simp [Act.eval,Act.put])) ?_;go_simp) | (at_builtin;refine wpList_app9k rfl (.tmp 116) (.tmp 123) rfl hKS (by omega) _ (by simp [Act.eval,Act.put]) (by simp [Act.eval,Act.put]) ?_;intro v9 w9 hS9));refine (Hcall.out _ hB4).mono ?_;rintro e w5 ⟨rfl,hB5⟩;have hKS := hKS.keep hB5;clear hB4 hB5;go_wp2_with (first | (at_lookup;refine wpList_run _ rfl (run_op_lookup rfl Tryz.underlying74 Tryz.underlying9 hm (by omega) Hnd.out hv' (by simp [Act.eval,Act.put]) Hkey.out (by simp [Act.eval,Act.put])) ?_;go_simp) | (at_builtin;refine wpList_app9k rfl (.tmp 116) (.tmp 123) rfl hKS (by omega) _ (by simp [Act.eval,Act.put]) (by simp [Act.eval,Act.put]) ?_;intro v9 w9 hS9))
         go_roundg (ks.length - (k + 1))
         case measure => omega
         case rel => exact ⟨k + 1,_,by go_num,by omega,hS9,by simp [hxl],Lib.hid (by rw [flat_snoc,Hfl.out,Hpa.out];simp [spB])⟩
       | lit t =>
         unfold TRep at hT;subst hT;have hpe : printP (ffB hi lo) (.lit t) = 40 :: (t ++ [41]) := by rw [printP]
         have hcall : ∀ w2,Below wr.heap.size wr w2 → Calls Tryz.prog 277 #[S t] w2 fun e w' => e = .returned (S (printP (ffB hi lo) (.lit t))) ∧ Below w2.heap.size w2 w' := fun w2 hB2 => by
          rw [hpe];exact (str_lit t w2 (by rw [szP] at hps;omega)).mono (by rintro e w3 ⟨rfl,rfl⟩;exact ⟨rfl,Below.refl _ _⟩)
         obtain ⟨tx,htx⟩ : ∃ tx,tx = printP (ffB hi lo) (.lit t) := ⟨_,rfl⟩;rw [← htx] at hcall hpl hpa;have Hcall := Lib.hid hcall;have Hpa := Lib.hid hpa;clear hcall htx hpa hpe;go_wp2_with (first | (at_lookup;refine wpList_run _ rfl (run_op_lookup rfl Tryz.underlying74 Tryz.underlying9 hm (by omega) Hnd.out hv' (by simp [Act.eval,Act.put]) Hkey.out (by simp [Act.eval,Act.put])) ?_;go_simp) | (at_builtin;refine wpList_app9k rfl (.tmp 140) (.tmp 146) rfl hKS (by omega) _ (by simp [Act.eval,Act.put]) (by simp [Act.eval,Act.put]) ?_;intro v9 w9 hS9));refine Hec.out.mono ?_;rintro e w4 ⟨rfl,hB4⟩;have hKS := hKS.keep hB4;go_wp2_with (first | (at_lookup;refine wpList_run _ rfl (run_op_lookup rfl Tryz.underlying74 Tryz.underlying9 hm (by omega) Hnd.out hv' (by simp [Act.eval,Act.put]) Hkey.out (by simp [Act.eval,Act.put])) ?_;go_simp) | (at_builtin;refine wpList_app9k rfl (.tmp 140) (.tmp 146) rfl hKS (by omega) _ (by simp [Act.eval,Act.put]) (by simp [Act.eval,Act.put]) ?_;intro v9 w9 hS9));refine (Hcall.out _ hB4).mono ?_;rintro e w5 ⟨rfl,hB5⟩;have hKS := hKS.keep hB5;clear hB4 hB5;go_wp2_with (first | (at_lookup;refine wpList_run _ rfl (run_op_lookup rfl Tryz.underlying74 Tryz.underlying9 hm (by omega) Hnd.out hv' (by simp [Act.eval,Act.put]) Hkey.out (by simp [Act.eval,Act.put])) ?_;go_simp) | (at_builtin;refine wpList_app9k rfl (.tmp 140) (.tmp 146) rfl hKS (by omega) _ (by simp [Act.eval,Act.put]) (by simp [Act.eval,Act.put]) ?_;intro v9 w9 hS9))
         go_roundg (ks.length - (k + 1))
         case measure => omega
         case rel => exact ⟨k + 1,_,by go_num,by omega,hS9,by simp [hxl],Lib.hid (by rw [flat_snoc,Hfl.out,Hpa.out];simp [spB])⟩
       | hex t =>
         unfold TRep at hT;subst hT;have hpe : printP (ffB hi lo) (.hex t) = 60 :: (t ++ [62]) := by rw [printP]
         have hcall : ∀ w2,Below wr.heap.size wr w2 → Calls Tryz.prog 278 #[S t] w2 fun e w' => e = .returned (S (printP (ffB hi lo) (.hex t))) ∧ Below w2.heap.size w2 w' := fun w2 hB2 => by
          rw [hpe];exact (str_hex t w2 (by rw [szP] at hps;omega)).mono (by rintro e w3 ⟨rfl,rfl⟩;exact ⟨rfl,Below.refl _ _⟩)
         obtain ⟨tx,htx⟩ : ∃ tx,tx = printP (ffB hi lo) (.hex t) := ⟨_,rfl⟩;rw [← htx] at hcall hpl hpa;have Hcall := Lib.hid hcall;have Hpa := Lib.hid hpa;clear hcall htx hpa hpe;go_wp2_with (first | (at_lookup;refine wpList_run _ rfl (run_op_lookup rfl Tryz.underlying74 Tryz.underlying9 hm (by omega) Hnd.out hv' (by simp [Act.eval,Act.put]) Hkey.out (by simp [Act.eval,Act.put])) ?_;go_simp) | (at_builtin;refine wpList_app9k rfl (.tmp 151) (.tmp 157) rfl hKS (by omega) _ (by simp [Act.eval,Act.put]) (by simp [Act.eval,Act.put]) ?_;intro v9 w9 hS9));refine Hec.out.mono ?_;rintro e w4 ⟨rfl,hB4⟩;have hKS := hKS.keep hB4;go_wp2_with (first | (at_lookup;refine wpList_run _ rfl (run_op_lookup rfl Tryz.underlying74 Tryz.underlying9 hm (by omega) Hnd.out hv' (by simp [Act.eval,Act.put]) Hkey.out (by simp [Act.eval,Act.put])) ?_;go_simp) | (at_builtin;refine wpList_app9k rfl (.tmp 151) (.tmp 157) rfl hKS (by omega) _ (by simp [Act.eval,Act.put]) (by simp [Act.eval,Act.put]) ?_;intro v9 w9 hS9));refine (Hcall.out _ hB4).mono ?_;rintro e w5 ⟨rfl,hB5⟩;have hKS := hKS.keep hB5;clear hB4 hB5;go_wp2_with (first | (at_lookup;refine wpList_run _ rfl (run_op_lookup rfl Tryz.underlying74 Tryz.underlying9 hm (by omega) Hnd.out hv' (by simp [Act.eval,Act.put]) Hkey.out (by simp [Act.eval,Act.put])) ?_;go_simp) | (at_builtin;refine wpList_app9k rfl (.tmp 151) (.tmp 157) rfl hKS (by omega) _ (by simp [Act.eval,Act.put]) (by simp [Act.eval,Act.put]) ?_;intro v9 w9 hS9))
         go_roundg (ks.length - (k + 1))
         case measure => omega
         case rel => exact ⟨k + 1,_,by go_num,by omega,hS9,by simp [hxl],Lib.hid (by rw [flat_snoc,Hfl.out,Hpa.out];simp [spB])⟩
       | name t =>
         unfold TRep at hT;subst hT;have hpe : printP (ffB hi lo) (.name t) = 47 :: (if t = [] then [32] else encB t) := by rw [printP]
         have hcall : ∀ w2,Below wr.heap.size wr w2 → Calls Tryz.prog 273 #[S t] w2 fun e w' => e = .returned (S (printP (ffB hi lo) (.name t))) ∧ Below w2.heap.size w2 w' := fun w2 hB2 => by
          rw [hpe];exact str_name t w2 (by rw [szP] at hps;omega)
         obtain ⟨tx,htx⟩ : ∃ tx,tx = printP (ffB hi lo) (.name t) := ⟨_,rfl⟩;rw [← htx] at hcall hpl hpa;have Hcall := Lib.hid hcall;have Hpa := Lib.hid hpa;clear hcall htx hpa hpe;go_wp2_with (first | (at_lookup;refine wpList_run _ rfl (run_op_lookup rfl Tryz.underlying74 Tryz.underlying9 hm (by omega) Hnd.out hv' (by simp [Act.eval,Act.put]) Hkey.out (by simp [Act.eval,Act.put])) ?_;go_simp) | (at_builtin;refine wpList_app9k rfl (.tmp 93) (.tmp 99) rfl hKS (by omega) _ (by simp [Act.eval,Act.put]) (by simp [Act.eval,Act.put]) ?_;intro v9 w9 hS9));refine Hec.out.mono ?_;rintro e w4 ⟨rfl,hB4⟩;have hKS := hKS.keep hB4;go_wp2_with (first | (at_lookup;refine wpList_run _ rfl (run_op_lookup rfl Tryz.underlying74 Tryz.underlying9 hm (by omega) Hnd.out hv' (by simp [Act.eval,Act.put]) Hkey.out (by simp [Act.eval,Act.put])) ?_;go_simp) | (at_builtin;refine wpList_app9k rfl (.tmp 93) (.tmp 99) rfl hKS (by omega) _ (by simp [Act.eval,Act.put]) (by simp [Act.eval,Act.put]) ?_;intro v9 w9 hS9));refine (Hcall.out _ hB4).mono ?_;rintro e w5 ⟨rfl,hB5⟩;have hKS := hKS.keep hB5;clear hB4 hB5;go_wp2_with (first | (at_lookup;refine wpList_run _ rfl (run_op_lookup rfl Tryz.underlying74 Tryz.underlying9 hm (by omega) Hnd.out hv' (by simp [Act.eval,Act.put]) Hkey.out (by simp [Act.eval,Act.put])) ?_;go_simp) | (at_builtin;refine wpList_app9k rfl (.tmp 93) (.tmp 99) rfl hKS (by omega) _ (by simp [Act.eval,Act.put]) (by simp [Act.eval,Act.put]) ?_;intro v9 w9 hS9))
         go_roundg (ks.length - (k + 1))
         case measure => omega
         case rel => exact ⟨k + 1,_,by go_num,by omega,hS9,by simp [hxl],Lib.hid (by rw [flat_snoc,Hfl.out,Hpa.out];simp [spB])⟩
       | ref n g =>
         unfold TRep at hT;subst hT;unfold PNum at hpn;have hpe : printP (ffB hi lo) (.ref n g) = Lib.itoa n ++ 32 :: (Lib.itoa g ++ [32,82]) := by rw [printP]
         have hcall : ∀ w2,Below wr.heap.size wr w2 → Calls Tryz.prog 272 #[.agg #[.int .i64 n,.int .i64 g]] w2 fun e w' => e = .returned (S (printP (ffB hi lo) (.ref n g))) ∧ Below w2.heap.size w2 w' := fun w2 hB2 => by
          rw [hpe];exact str_ref hF n g hpn.1.1 hpn.1.2 hpn.2.1 hpn.2.2 w2 (hWr.trans (hB2.mono hWr.size))
         obtain ⟨tx,htx⟩ : ∃ tx,tx = printP (ffB hi lo) (.ref n g) := ⟨_,rfl⟩;rw [← htx] at hcall hpl hpa;have Hcall := Lib.hid hcall;have Hpa := Lib.hid hpa;clear hcall htx hpa hpe hpn;go_wp2_with (first | (at_lookup;refine wpList_run _ rfl (run_op_lookup rfl Tryz.underlying74 Tryz.underlying9 hm (by omega) Hnd.out hv' (by simp [Act.eval,Act.put]) Hkey.out (by simp [Act.eval,Act.put])) ?_;go_simp) | (at_builtin;refine wpList_app9k rfl (.tmp 81) (.tmp 88) rfl hKS (by omega) _ (by simp [Act.eval,Act.put]) (by simp [Act.eval,Act.put]) ?_;intro v9 w9 hS9));refine Hec.out.mono ?_;rintro e w4 ⟨rfl,hB4⟩;have hKS := hKS.keep hB4;go_wp2_with (first | (at_lookup;refine wpList_run _ rfl (run_op_lookup rfl Tryz.underlying74 Tryz.underlying9 hm (by omega) Hnd.out hv' (by simp [Act.eval,Act.put]) Hkey.out (by simp [Act.eval,Act.put])) ?_;go_simp) | (at_builtin;refine wpList_app9k rfl (.tmp 81) (.tmp 88) rfl hKS (by omega) _ (by simp [Act.eval,Act.put]) (by simp [Act.eval,Act.put]) ?_;intro v9 w9 hS9));have hBa := (Below.refl _ w4).alloc (Nat.le_refl _) (.cells #[.int .i64 n,.int .i64 g] 107);refine (Hcall.out _ (hB4.trans (hBa.mono hB4.size))).mono ?_;rintro e w5 ⟨rfl,hB5⟩;have hKS := hKS.keep (hBa.trans (hB5.mono hBa.size));clear hB4 hB5 hBa;go_wp2_with (first | (at_lookup;refine wpList_run _ rfl (run_op_lookup rfl Tryz.underlying74 Tryz.underlying9 hm (by omega) Hnd.out hv' (by simp [Act.eval,Act.put]) Hkey.out (by simp [Act.eval,Act.put])) ?_;go_simp) | (at_builtin;refine wpList_app9k rfl (.tmp 81) (.tmp 88) rfl hKS (by omega) _ (by simp [Act.eval,Act.put]) (by simp [Act.eval,Act.put]) ?_;intro v9 w9 hS9))
         go_roundg (ks.length - (k + 1))
         case measure => omega
         case rel => exact ⟨k + 1,_,by go_num,by omega,hS9,by simp [hxl],Lib.hid (by rw [flat_snoc,Hfl.out,Hpa.out];simp [spB])⟩
       | arr l' =>
         unfold TRep at hT;obtain ⟨s1,xs1,rfl,hr1,_,hk1⟩ := hT;unfold StrOk at hst
         have hcall : ∀ w2,Below wr.heap.size wr w2 → Calls Tryz.prog 271 #[s1] w2 fun e w' => e = .returned (S (printP (ffB hi lo) (.arr l'))) ∧ Below w2.heap.size w2 w' := fun w2 hB2 => by
          exact hst w2 F s1 xs1 (hWr.trans (hB2.mono hWr.size)) (ownsRow_keepB hr1 (fun g hg => hB2.block g (World.ownsRow.lt hr1 g hg).2)) (TKids.mono (fun i hi hlt => ⟨hB2.block i hlt,hi⟩) _ _ hk1)
         obtain ⟨tx,htx⟩ : ∃ tx,tx = printP (ffB hi lo) (.arr l') := ⟨_,rfl⟩;rw [← htx] at hcall hpl hpa;have Hcall := Lib.hid hcall;have Hpa := Lib.hid hpa;clear hcall htx hpa hst hr1 hk1;go_wp2_with (first | (at_lookup;refine wpList_run _ rfl (run_op_lookup rfl Tryz.underlying74 Tryz.underlying9 hm (by omega) Hnd.out hv' (by simp [Act.eval,Act.put]) Hkey.out (by simp [Act.eval,Act.put])) ?_;go_simp) | (at_builtin;refine wpList_app9k rfl (.tmp 70) (.tmp 76) rfl hKS (by omega) _ (by simp [Act.eval,Act.put]) (by simp [Act.eval,Act.put]) ?_;intro v9 w9 hS9));refine Hec.out.mono ?_;rintro e w4 ⟨rfl,hB4⟩;have hKS := hKS.keep hB4;go_wp2_with (first | (at_lookup;refine wpList_run _ rfl (run_op_lookup rfl Tryz.underlying74 Tryz.underlying9 hm (by omega) Hnd.out hv' (by simp [Act.eval,Act.put]) Hkey.out (by simp [Act.eval,Act.put])) ?_;go_simp) | (at_builtin;refine wpList_app9k rfl (.tmp 70) (.tmp 76) rfl hKS (by omega) _ (by simp [Act.eval,Act.put]) (by simp [Act.eval,Act.put]) ?_;intro v9 w9 hS9));refine (Hcall.out _ hB4).mono ?_;rintro e w5 ⟨rfl,hB5⟩;have hKS := hKS.keep hB5;clear hB4 hB5;go_wp2_with (first | (at_lookup;refine wpList_run _ rfl (run_op_lookup rfl Tryz.underlying74 Tryz.underlying9 hm (by omega) Hnd.out hv' (by simp [Act.eval,Act.put]) Hkey.out (by simp [Act.eval,Act.put])) ?_;go_simp) | (at_builtin;refine wpList_app9k rfl (.tmp 70) (.tmp 76) rfl hKS (by omega) _ (by simp [Act.eval,Act.put]) (by simp [Act.eval,Act.put]) ?_;intro v9 w9 hS9))
         go_roundg (ks.length - (k + 1))
         case measure => omega
         case rel => exact ⟨k + 1,_,by go_num,by omega,hS9,by simp [hxl],Lib.hid (by rw [flat_snoc,Hfl.out,Hpa.out];simp [spB])⟩
       | dict ks' l' =>
         unfold TRep at hT;obtain ⟨b1,vs1,rfl,_,hm1,hk1⟩ := hT;unfold StrOk at hst
         have hcall : ∀ w2,Below wr.heap.size wr w2 → Calls Tryz.prog 269 #[.map (some b1)] w2 fun e w' => e = .returned (S (printP (ffB hi lo) (.dict ks' l'))) ∧ Below w2.heap.size w2 w' := fun w2 hB2 => by
          exact hst w2 F b1 vs1 (hWr.trans (hB2.mono hWr.size)) (hm1.below hB2 hm1.lt) (TKids.mono (fun i hi hlt => ⟨hB2.block i hlt,hi⟩) _ _ hk1)
         obtain ⟨tx,htx⟩ : ∃ tx,tx = printP (ffB hi lo) (.dict ks' l') := ⟨_,rfl⟩;rw [← htx] at hcall hpl hpa;have Hcall := Lib.hid hcall;have Hpa := Lib.hid hpa;clear hcall htx hpa hst hm1 hk1;go_wp2_with (first | (at_lookup;refine wpList_run _ rfl (run_op_lookup rfl Tryz.underlying74 Tryz.underlying9 hm (by omega) Hnd.out hv' (by simp [Act.eval,Act.put]) Hkey.out (by simp [Act.eval,Act.put])) ?_;go_simp) | (at_builtin;refine wpList_app9k rfl (.tmp 59) (.tmp 65) rfl hKS (by omega) _ (by simp [Act.eval,Act.put]) (by simp [Act.eval,Act.put]) ?_;intro v9 w9 hS9));refine Hec.out.mono ?_;rintro e w4 ⟨rfl,hB4⟩;have hKS := hKS.keep hB4;go_wp2_with (first | (at_lookup;refine wpList_run _ rfl (run_op_lookup rfl Tryz.underlying74 Tryz.underlying9 hm (by omega) Hnd.out hv' (by simp [Act.eval,Act.put]) Hkey.out (by simp [Act.eval,Act.put])) ?_;go_simp) | (at_builtin;refine wpList_app9k rfl (.tmp 59) (.tmp 65) rfl hKS (by omega) _ (by simp [Act.eval,Act.put]) (by simp [Act.eval,Act.put]) ?_;intro v9 w9 hS9));refine (Hcall.out _ hB4).mono ?_;rintro e w5 ⟨rfl,hB5⟩;have hKS := hKS.keep hB5;clear hB4 hB5;go_wp2_with (first | (at_lookup;refine wpList_run _ rfl (run_op_lookup rfl Tryz.underlying74 Tryz.underlying9 hm (by omega) Hnd.out hv' (by simp [Act.eval,Act.put]) Hkey.out (by simp [Act.eval,Act.put])) ?_;go_simp) | (at_builtin;refine wpList_app9k rfl (.tmp 59) (.tmp 65) rfl hKS (by omega) _ (by simp [Act.eval,Act.put]) (by simp [Act.eval,Act.put]) ?_;intro v9 w9 hS9))
         go_roundg (ks.length - (k + 1))
         case measure => omega
         case rel => exact ⟨k + 1,_,by go_num,by omega,hS9,by simp [hxl],Lib.hid (by rw [flat_snoc,Hfl.out,Hpa.out];simp [spB])⟩
     have tk : ¬ k < ks.length := hk;have hte : ks.take k = ks := List.take_of_length_le (by omega);have hte2 : l.take k = l := List.take_of_length_le (by rw [← Hkl.out];omega);have hff : flat xs' ++ [62,62] = fin := by rw [Hfl.out,hte,hte2,Hfin.out,printP];simp
     have hfl : fin.length ≤ 140737488355328 := by
      have h1 := printD_len ks l Hpn.out;have h2 := Hsz.out;rw [Hfin.out,printP];simp only [List.length_cons,List.length_append,List.length_nil];omega
     have Hff := Lib.hid hff;have hxs : xs'.length ≤ 1048577 := by omega
     have hS := hKS.ss;clear Hfl hte hte2 hff hKS;go_wp2_with (at_builtin;refine wpList_app9 rfl (.tmp 160) (.tmp 161) rfl hS (by omega) _ (by simp [Act.eval,Act.put]) (by simp [Act.eval,Act.put]) ?_;intro v9 w9 hS9);refine (join_any hS9 (by simp) (by simp;omega) (by rw [flat_snoc];simp only [Hff.out];exact hfl)).mono ?_;rintro e w2 ⟨rfl,hB2⟩;go_wp2_with fail;go_ret;exact ⟨by rw [flat_snoc];simp only [Hff.out];rfl,hS9.below.trans (hB2.mono hS9.below.size)⟩
  have hsl : seen.length < ks.length := by
   have h1 : (j :: seen).Nodup := List.nodup_cons.2 ⟨hnj,Hs.out.1⟩
   have h2 : (j :: seen) ⊆ List.range ks.length := fun i hi => by
    rw [List.mem_range];rcases List.mem_cons.1 hi with rfl | hi
    · exact hj
    exact Hs.out.2 i hi
   have h3 := nodup_lt ks.length (j :: seen) h1 (fun i hi => List.mem_range.1 (h2 hi));rw [List.length_cons] at h3;omega
  have hK2 := hK.shown (j := j) hw1;have hent := run_entry_map (P := Tryz.prog) (hm9.below hK2.below hm9.lt) hK2.it hj hv;have hq : (shownK ks seen).length ≤ seen.length := List.length_filterMap_le _ _;have hqn : (mkB (shownK ks seen)).length ≤ 8000000 := by unfold mkB;rw [List.length_map];omega
  have Hsn : Hid ((seen ++ [j]).Nodup ∧ (∀ i ∈ seen ++ [j],i < ks.length)) := Lib.hid ⟨List.nodup_append.2 ⟨Hs.out.1,by simp,fun a ha b hb => by rw [List.mem_singleton] at hb;subst hb;exact fun e => hnj (e ▸ ha)⟩,fun i hi => by
   rcases List.mem_append.1 hi with hi | hi
   · exact Hs.out.2 i hi
   · rw [List.mem_singleton] at hi;subst hi;exact hj⟩
  have hss := shownK_snoc (seen := seen) hj;obtain ⟨key,hkey⟩ : ∃ key,key = ks[j] := ⟨_,rfl⟩;rw [← hkey] at hrun hent hss;have Hss := Lib.hid hss;clear hss hkey
  go_wp2_with (first
   | (at_next;refine wpList_run _ rfl (run_op_next rfl (by simp [Act.eval,Act.put]) hrun) ?_)
   | (at_builtin;refine wpList_app9r rfl (.tmp 31) (.tmp 33) rfl hK2 hqn _ (by simp [Act.eval,Act.put]) (by simp [Act.eval,Act.put]) ?_;intro v8 w8 hK8))
  go_roundg (ks.length - (seen.length + 1))
  case measure => omega
  case rel => exact ⟨seen ++ [j],by rw [Hss.out];exact hK8,Hsn,by rw [List.length_append,List.length_singleton];omega⟩
end Go.Proofs.YtcpijmbdibgdmaaGreatDoor
namespace Go.Proofs.YtcpijmbdibgdmaaGreatDoor
open Go.RowKit
theorem str_all {hi lo : Nat → Nat} {W0 : World} (hF : FFW hi lo W0) : ∀ (n : Nat) (p : PObj),SizeOf.sizeOf p ≤ n → PNum (ffB hi lo) p → szP p ≤ 1048576 → StrOk (ffB hi lo) W0 p
 | 0,p,hn,_,_ => by cases p <;> simp at hn
 | n + 1,.arr l,hn,hp,hs => by
   unfold PNum at hp;rw [szP] at hs;refine str_arr hF l (fun q hq => ?_) hp (by omega);obtain ⟨i,hi,rfl⟩ := List.getElem_of_mem hq;have h1 := List.sizeOf_lt_of_mem hq;have h2 := szL_at (l := l) i hi;simp at hn;exact str_all hF n _ (by omega) (hp.at_ i hi) (by omega)
 | n + 1,.dict ks l,hn,hp,hs => by
   unfold PNum at hp;rw [szP] at hs;refine str_dict hF ks l (fun q hq => ?_) hp.2.2 hp.1 hp.2.1 (by omega);obtain ⟨i,hi,rfl⟩ := List.getElem_of_mem hq;have h1 := List.sizeOf_lt_of_mem hq;have h2 := szL_at (l := l) i hi;simp at hn;exact str_all hF n _ (by omega) (hp.2.2.at_ i hi) (by omega)
 | n + 1,.null,_,_,_ => by unfold StrOk;trivial
 | n + 1,.bool _,_,_,_ => by unfold StrOk;trivial
 | n + 1,.int _,_,_,_ => by unfold StrOk;trivial
 | n + 1,.real _,_,_,_ => by unfold StrOk;trivial
 | n + 1,.lit _,_,_,_ => by unfold StrOk;trivial
 | n + 1,.hex _,_,_,_ => by unfold StrOk;trivial
 | n + 1,.name _,_,_,_ => by unfold StrOk;trivial
 | n + 1,.ref _ _,_,_,_ => by unfold StrOk;trivial
end Go.Proofs.YtcpijmbdibgdmaaGreatDoor
namespace Go.Proofs.YtcpijmbdibgdmaaGreatDoor
open Go.RowKit
attribute [local go_sem] ba_get store_flt
theorem newref_any (n g : Int) (w : World) : Calls Tryz.prog 60 #[.int .i64 n,.int .i64 g] w fun e w' => e = .returned (.pointer (some ⟨w.heap.size,0,none⟩)) ∧ w' = w.alloc (.cells #[.int .i64 n,.int .i64 g] 107) := by
 go_enter Tryz.func60,Tryz.ntmps60;go_wp2_with fail;go_ret;exact ⟨rfl,rfl⟩
theorem ob_0 (p : PObj) (n g : Int) (x : Nat) (t : List UInt8) (nk nl : Nat) (A A2 : Option Addr) (kc lc : Nat) (w : World) (hp : p = .null) :
 Calls Tryz.prog 27 #[.agg #[.int .i64 0,.int .i64 n,.int .i64 g,.float .f64 x,S t,.slice A nk kc,.slice A2 nl lc]] w (ObjPost w p) := by
 subst hp;go_enter Tryz.func27,Tryz.ntmps27;go_wp2_with fail;go_ret2;exact ⟨_,rfl,by unfold TRep;rfl,(Below.refl _ w).alloc (Nat.le_refl _) _⟩
theorem ob_2 (p : PObj) (n g : Int) (x : Nat) (t : List UInt8) (nk nl : Nat) (A A2 : Option Addr) (kc lc : Nat) (w : World) (hp : p = .int n) :
 Calls Tryz.prog 27 #[.agg #[.int .i64 2,.int .i64 n,.int .i64 g,.float .f64 x,S t,.slice A nk kc,.slice A2 nl lc]] w (ObjPost w p) := by
 subst hp;go_enter Tryz.func27,Tryz.ntmps27;go_wp2_with fail;go_ret2;exact ⟨_,rfl,by unfold TRep;rfl,(Below.refl _ w).alloc (Nat.le_refl _) _⟩
theorem ob_3 (p : PObj) (n g : Int) (x : Nat) (t : List UInt8) (nk nl : Nat) (A A2 : Option Addr) (kc lc : Nat) (w : World) (hp : p = .real x) :
 Calls Tryz.prog 27 #[.agg #[.int .i64 3,.int .i64 n,.int .i64 g,.float .f64 x,S t,.slice A nk kc,.slice A2 nl lc]] w (ObjPost w p) := by
 subst hp;go_enter Tryz.func27,Tryz.ntmps27;go_wp2_with fail;go_ret2;exact ⟨_,rfl,by unfold TRep;rfl,(Below.refl _ w).alloc (Nat.le_refl _) _⟩
theorem ob_4 (p : PObj) (n g : Int) (x : Nat) (t : List UInt8) (nk nl : Nat) (A A2 : Option Addr) (kc lc : Nat) (w : World) (hp : p = .lit t) :
 Calls Tryz.prog 27 #[.agg #[.int .i64 4,.int .i64 n,.int .i64 g,.float .f64 x,S t,.slice A nk kc,.slice A2 nl lc]] w (ObjPost w p) := by
 subst hp;go_enter Tryz.func27,Tryz.ntmps27;go_wp2_with fail;go_ret2;exact ⟨_,rfl,by unfold TRep;rfl,(Below.refl _ w).alloc (Nat.le_refl _) _⟩
theorem ob_5 (p : PObj) (n g : Int) (x : Nat) (t : List UInt8) (nk nl : Nat) (A A2 : Option Addr) (kc lc : Nat) (w : World) (hp : p = .hex t) :
 Calls Tryz.prog 27 #[.agg #[.int .i64 5,.int .i64 n,.int .i64 g,.float .f64 x,S t,.slice A nk kc,.slice A2 nl lc]] w (ObjPost w p) := by
 subst hp;go_enter Tryz.func27,Tryz.ntmps27;go_wp2_with fail;go_ret2;exact ⟨_,rfl,by unfold TRep;rfl,(Below.refl _ w).alloc (Nat.le_refl _) _⟩
theorem ob_6 (p : PObj) (n g : Int) (x : Nat) (t : List UInt8) (nk nl : Nat) (A A2 : Option Addr) (kc lc : Nat) (w : World) (hp : p = .name t) :
 Calls Tryz.prog 27 #[.agg #[.int .i64 6,.int .i64 n,.int .i64 g,.float .f64 x,S t,.slice A nk kc,.slice A2 nl lc]] w (ObjPost w p) := by
 subst hp;go_enter Tryz.func27,Tryz.ntmps27;go_wp2_with fail;go_ret2;exact ⟨_,rfl,by unfold TRep;rfl,(Below.refl _ w).alloc (Nat.le_refl _) _⟩
theorem ob_1 (p : PObj) (n g : Int) (x : Nat) (t : List UInt8) (nk nl : Nat) (A A2 : Option Addr) (kc lc : Nat) (w : World) (hp : n = 0 ∧ p = .bool false ∨ n = 1 ∧ p = .bool true) :
 Calls Tryz.prog 27 #[.agg #[.int .i64 1,.int .i64 n,.int .i64 g,.float .f64 x,S t,.slice A nk kc,.slice A2 nl lc]] w (ObjPost w p) := by
 rcases hp with ⟨rfl,rfl⟩ | ⟨rfl,rfl⟩
 all_goals
  go_enter Tryz.func27,Tryz.ntmps27;go_wp2_with fail;go_ret2;exact ⟨_,rfl,by unfold TRep;rfl,(Below.refl _ w).alloc (Nat.le_refl _) _⟩
theorem ob_9 (p : PObj) (n g : Int) (x : Nat) (t : List UInt8) (nk nl : Nat) (A A2 : Option Addr) (kc lc : Nat) (w : World) (hp : p = .ref n g) :
 Calls Tryz.prog 27 #[.agg #[.int .i64 9,.int .i64 n,.int .i64 g,.float .f64 x,S t,.slice A nk kc,.slice A2 nl lc]] w (ObjPost w p) := by
 subst hp;go_enter Tryz.func27,Tryz.ntmps27;go_wp2_with fail;refine (newref_any n g _).mono ?_;rintro e w2 ⟨rfl,rfl⟩;go_wp2_with fail;go_ret2;exact ⟨_,rfl,by unfold TRep;rfl,((Below.refl _ w).alloc (Nat.le_refl _) _).alloc (by simp) _⟩
theorem ob_7 (p : PObj) (n g : Int) (x : Nat) (t : List UInt8) (nk nl : Nat) (A A2 : Option Addr) (kc lc : Nat) (w : World) (q : List PObj) (hp : p = .arr q) (hc : ∀ w2,Below w.heap.size w w2 → Calls Tryz.prog 61 #[.slice A2 nl lc] w2 (ObjsPost w2 q)) :
 Calls Tryz.prog 27 #[.agg #[.int .i64 7,.int .i64 n,.int .i64 g,.float .f64 x,S t,.slice A nk kc,.slice A2 nl lc]] w (ObjPost w p) := by
 subst hp;have HC := Lib.hid hc;clear hc;go_enter Tryz.func27,Tryz.ntmps27;go_wp2_with fail;refine (HC.out _ ((Below.refl _ w).alloc (Nat.le_refl _) _)).mono ?_;rintro e w2 ⟨v,xs,rfl,h1,h2,h3,h4⟩;have HB : Hid (Below w.heap.size w w2) := Lib.hid (((Below.refl _ w).alloc (Nat.le_refl _) _).trans (h4.mono (by simp)));have H1 := Lib.hid h1;have H2 : Hid (∀ g,v.ownBlock = some g → w.heap.size ≤ g) := Lib.hid (fun g hg => by have := h2 g hg;simp at this;omega);have H3 : Hid (TKids w2 (fun i => w.heap.size ≤ i) q xs) := Lib.hid (TKids.mono (fun i hi _ => ⟨rfl,by simp at hi;omega⟩) _ _ h3);clear h1 h2 h3 h4;go_wp2_with fail;go_ret2;exact ⟨_,rfl,by unfold TRep;exact ⟨v,xs,rfl,H1.out,H2.out,H3.out⟩,HB.out⟩
theorem ob_8 (p : PObj) (n g : Int) (x : Nat) (t : List UInt8) (nk nl : Nat) (A A2 : Option Addr) (kc lc : Nat) (w : World) (ks : List (List UInt8)) (q : List PObj) (hp : p = .dict ks q) (hc : ∀ w2,Below w.heap.size w w2 → Calls Tryz.prog 62 #[.slice A nk kc,.slice A2 nl lc] w2 (DictPost w2 ks q)) :
 Calls Tryz.prog 27 #[.agg #[.int .i64 8,.int .i64 n,.int .i64 g,.float .f64 x,S t,.slice A nk kc,.slice A2 nl lc]] w (ObjPost w p) := by
 subst hp;have HC := Lib.hid hc;clear hc;go_enter Tryz.func27,Tryz.ntmps27;go_wp2_with fail;refine (HC.out _ ((Below.refl _ w).alloc (Nat.le_refl _) _)).mono ?_;rintro e w2 ⟨b,vs,rfl,h1,h2,h3,h4⟩;have HB : Hid (Below w.heap.size w w2) := Lib.hid (((Below.refl _ w).alloc (Nat.le_refl _) _).trans (h4.mono (by simp)));have H2 := Lib.hid h2;have H1 : Hid (w.heap.size ≤ b) := Lib.hid (by simp at h1;omega);have H3 : Hid (TKids w2 (fun i => w.heap.size ≤ i) q vs) := Lib.hid (TKids.mono (fun i hi _ => ⟨rfl,by simp at hi;omega⟩) _ _ h3);clear h1 h2 h3 h4;go_wp2_with fail;go_ret2;exact ⟨_,rfl,by unfold TRep;exact ⟨b,vs,rfl,H1.out,H2.out,H3.out⟩,HB.out⟩
theorem object_any (tw : Nat → Bool) (W0 : World) : ∀ m : Nat,ObjSaid tw W0 m
 | 0 => fun o p c w hn _ _ _ _ _ => by cases o;simp at hn
 | m + 1 => fun o p c w hn hR hI hb hp hW => by
   have ih := object_any tw W0 m;obtain ⟨kd,n,g,x,t,ks,l⟩ := o;unfold ORep at hR;obtain ⟨kv,lv,xs,rfl,hk,hl,hkids⟩ := hR;obtain ⟨A,kc,rfl,hkc1,hkc2,hkl,hkr⟩ := hk;obtain ⟨A2,lc,rfl,hlc1,hlc2,hll,hlr⟩ := hl;rw [bulkO] at hb;have hsl := sum_len ks;have hbl := bulkL_len l;unfold OInt at hI;obtain ⟨_,_,_,hx,hIl⟩ := hI
   have hsz : ∀ o ∈ l,SizeOf.sizeOf o ≤ m := fun o ho => by
    have := List.sizeOf_lt_of_mem ho;simp at hn;omega
   change Calls Tryz.prog 27 #[.agg #[.int .i64 kd,.int .i64 n,.int .i64 g,.float .f64 x,S t,.slice A ks.length kc,.slice A2 l.length lc]] w _;rw [objM] at hp;by_cases h1 : onlyB kd n g x t ks.length l.length = false
   · rw [if_pos h1] at hp;cases hp
   rw [if_neg h1] at hp;by_cases h0 : kd = 0
   · subst h0;rw [if_pos rfl] at hp;injection hp with hp;exact ob_0 p n g x t _ _ A A2 kc lc w hp.symm
   rw [if_neg h0] at hp;by_cases h0 : kd = 1
   · subst h0;rw [if_pos rfl] at hp;refine ob_1 p n g x t _ _ A A2 kc lc w ?_;split at hp
     · rename_i h;injection hp with hp;exact .inl ⟨h,hp.symm⟩
     split at hp
     · rename_i h;injection hp with hp;exact .inr ⟨h,hp.symm⟩
     cases hp
   rw [if_neg h0] at hp;by_cases h0 : kd = 2
   · subst h0;rw [if_pos rfl] at hp;refine ob_2 p n g x t _ _ A A2 kc lc w ?_;split at hp
     · injection hp with hp;exact hp.symm
     cases hp
   rw [if_neg h0] at hp;by_cases h0 : kd = 3
   · subst h0;rw [if_pos rfl] at hp;refine ob_3 p n g x t _ _ A A2 kc lc w ?_;split at hp
     · injection hp with hp;exact hp.symm
     cases hp
   rw [if_neg h0] at hp;by_cases h0 : kd = 4
   · subst h0;rw [if_pos rfl] at hp;refine ob_4 p n g x t _ _ A A2 kc lc w ?_;split at hp
     · injection hp with hp;exact hp.symm
     cases hp
   rw [if_neg h0] at hp;by_cases h0 : kd = 5
   · subst h0;rw [if_pos rfl] at hp;refine ob_5 p n g x t _ _ A A2 kc lc w ?_;split at hp
     · injection hp with hp;exact hp.symm
     cases hp
   rw [if_neg h0] at hp;by_cases h0 : kd = 6
   · subst h0;rw [if_pos rfl] at hp;refine ob_6 p n g x t _ _ A A2 kc lc w ?_;split at hp
     · injection hp with hp;exact hp.symm
     cases hp
   rw [if_neg h0] at hp;by_cases h0 : kd = 9
   · subst h0;rw [if_pos rfl] at hp;refine ob_9 p n g x t _ _ A A2 kc lc w ?_;split at hp
     · injection hp with hp;exact hp.symm
     cases hp
   rw [if_neg h0] at hp;by_cases h0 : kd = 7
   · subst h0;rw [if_pos rfl] at hp
     cases hl : objL tw l with
     | none => rw [hl] at hp;cases hp
     | some q =>
       rw [hl] at hp;injection hp with hp;exact ob_7 p n g x t _ _ A A2 kc lc w q hp.symm (fun w2 h => objects_any tw W0 m ih l q xs A2 lc w2 hsz ⟨A2,lc,rfl,hlc1,hlc2,hll,hlr⟩ hkids hIl (by omega) hl (hW.trans (h.mono hW.size)))
   rw [if_neg h0] at hp;by_cases h0 : kd = 8
   · subst h0;rw [if_pos rfl] at hp;split at hp
     · rename_i hks
       cases hl : objL tw l with
       | none => rw [hl] at hp;cases hp
       | some q =>
         rw [hl] at hp;injection hp with hp
         have hup : upB ks = true := by
          have := hks.2;unfold keysOk at this;rw [Bool.and_eq_true] at this;exact this.2
         exact ob_8 p n g x t _ _ A A2 kc lc w ks q hp.symm (fun w2 h => dict_any tw W0 m ih ks l q xs A A2 kc lc w2 hsz hks.1 ⟨A,kc,rfl,hkc1,hkc2,hkl,hkr⟩ (upB_ne hup) ⟨A2,lc,rfl,hlc1,hlc2,hll,hlr⟩ hkids hIl (by omega) hl (hW.trans (h.mono hW.size)))
     cases hp
   rw [if_neg h0] at hp;cases hp
end Go.Proofs.YtcpijmbdibgdmaaGreatDoor
