/-
  The words that all texts of this seat share: blocks known whole, 'only one block has changed', character classes.
  Slices of bytes that a call makes itself: one byte appended; a string made of them.
  The spec's values: what seven cells and the memory behind them stand for.
  The character classes of package spec: each returns what its name says; the world stays as it is.
  spec.reader.is, fail: whether the text goes on with a string; what becomes of the text is noted.
  spec.reader.escape: what stands behind a reverse solidus.
-/
import Derived.Test.YtcpijmbdibgdmaaGreatDoorProg
import Derived.WalkKit
import Derived.WalkSpells
import Derived.WalkLawsBesides
import Derived.Outline
import Derived.Lib.Hide
import Derived.Deep.QuietTactic
import Derived.BigQuiet
import Derived.StillTailTactics
import Derived.Deep.Draws
import Derived.Deep.OwnRows
import Derived.Laws.BytesString
import Derived.OwnWalk
import Derived.Deep.LoopGhost
set_option linter.all false
set_option maxHeartbeats 16000000
set_option maxRecDepth 100000
namespace Go.Proofs.YtcpijmbdibgdmaaGreatDoor
open Go.RowKit
abbrev S (l : List UInt8) : Value := .string ⟨l.toArray⟩
def Blk (w : World) (g : Nat) (t : TypeId) (cs : Array Value) : Prop := w.heap[g]? = some (.cells cs t (0,0))
section
variable {w w' : World} {g : Nat} {t : TypeId} {cs : Array Value}
theorem Blk.lt (h : Blk w g t cs) : g < w.heap.size := by
 rcases Nat.lt_or_ge g w.heap.size with hlt | hge
 · exact hlt
 unfold Blk at h;rw [Array.getElem?_eq_none hge] at h;cases h
theorem Blk.cell (h : Blk w g t cs) (i : Nat) : w.cell? ⟨g,i,none⟩ = cs[i]? := cell_of_row w g i cs t (0,0) h
theorem Blk.frozen (h : Blk w g t cs) (i : Nat) : w.frozen? ⟨g,i,none⟩ = false := by
 unfold Blk at h;simp [World.frozen?,h]
theorem Blk.new (w : World) (t : TypeId) (cs : Array Value) : Blk (w.alloc (.cells cs t)) w.heap.size t cs := heap_alloc_new w _
theorem Blk.drew (h : Blk w g t cs) : Blk w.drew g t cs := h
theorem Blk.drewN (h : Blk w g t cs) (n : Nat) : Blk (w.drewN n) g t cs := h
theorem Blk.alloc (h : Blk w g t cs) (o : Obj) : Blk (w.alloc o) g t cs := (Below.heap_alloc w o g h.lt).trans h
theorem Blk.set_ (h : Blk w g t cs) (i : Nat) (u : Value) : Blk (w.setCell ⟨g,i,none⟩ u) g t (cs.setIfInBounds i u) := by
 unfold Blk at h ⊢;simp [World.setCell,Array.getElem?_modify,h]
theorem Blk.far (h : Blk w g t cs) {p : Addr} (hp : g ≠ p.block) (u : Value) : Blk (w.setCell p u) g t cs := (Below.heap_setCell w p u g hp).trans h
theorem Blk.below {B : Nat} (h : Blk w g t cs) (hb : Below B w w') (hg : g < B) : Blk w' g t cs := (hb.block g hg).trans h
theorem Blk.grown {row : Option Nat} (h : Blk w g t cs) (hb : w.grownBy w' row) (hg : some g ≠ row) : Blk w' g t cs := (hb.block g h.lt hg).trans h
end
abbrev Only (a w : World) (g : Nat) : Prop := a.grownBy w (some g)
section
variable {a w : World} {g : Nat}
theorem only_refl (a : World) (g : Nat) : Only a a g := World.grownBy.refl a _
theorem only_drewN (h : Only a w g) (n : Nat) : Only a (w.drewN n) g := ⟨h.os,h.tape,h.output,h.size,h.block⟩
theorem only_drew (h : Only a w g) : Only a w.drew g := ⟨h.os,h.tape,h.output,h.size,h.block⟩
theorem only_alloc (h : Only a w g) (o : Obj) : Only a (w.alloc o) g :=
 ⟨h.os,h.tape,h.output,Nat.le_trans h.size (by simp),fun i hi hne => (Below.heap_alloc w o i (Nat.lt_of_lt_of_le hi h.size)).trans (h.block i hi hne)⟩
theorem only_setCell (h : Only a w g) {p : Addr} (hp : p.block = g ∨ a.heap.size ≤ p.block) (u : Value) : Only a (w.setCell p u) g :=
 ⟨h.os,h.tape,h.output,by simpa [World.setCell] using h.size,fun i hi hne => (Below.heap_setCell w p u i (by
  rintro rfl
  rcases hp with hp | hp
  · exact hne (by rw [hp])
  · omega)).trans (h.block i hi hne)⟩
theorem only_set (h : Only a w g) (i : Nat) (u : Value) : Only a (w.setCell ⟨g,i,none⟩ u) g := only_setCell h (.inl rfl) u
theorem only_of_below (h : Below a.heap.size a w) : Only a w g := ⟨h.os,h.tape,h.output,h.size,fun i hi _ => h.block i hi⟩
theorem only_trans {b : World} (h : Only a b g) (k : Only b w g) : Only a w g :=
 ⟨k.os.trans h.os,k.tape.trans h.tape,k.output.trans h.output,Nat.le_trans h.size k.size,fun i hi hn => (k.block i (Nat.lt_of_lt_of_le hi h.size) hn).trans (h.block i hi hn)⟩
theorem only_below {b : World} (h : Only a b g) (k : Below b.heap.size b w) : Only a w g := only_trans h (only_of_below k)
end
theorem quiet_left {P : Program} {f : FuncId} {args : Array Value} {w : World} {n : Nat} {v : Value}
 (h : Calls P f args (w.drewN n) fun e w' => e = .returned v ∧ w.drewN n = w') : Calls P f args (w.drewN n) fun e w'' => e = .returned v ∧ ∃ m,w'' = w.drewN m :=
 h.mono fun _ _ ⟨he,hm⟩ => ⟨he,n,hm.symm⟩
theorem quiet_add_left {P : Program} {f : FuncId} {args : Array Value} {w : World} {a n : Nat} {v : Value}
 (h : Calls P f args (w.drewN (a + n)) fun e w' => e = .returned v ∧ w.drewN (a + n) = w') :
 Calls P f args (w.drewN (a + n)) fun e w'' => e = .returned v ∧ ∃ m,w'' = w.drewN (a + m) :=
 h.mono fun _ _ ⟨he,hm⟩ => ⟨he,n,hm.symm⟩
theorem wp_gen {P : Program} {c : Code} {Q : Exit → Act → World → Prop} {a : Act} {w : World} (C : World → Prop) (hC : C w) (h : ∀ w,C w → c.wp P Q a w) : c.wp P Q a w := h w hC
theorem region_tail {P : Program} {id : Nat} {Q : Exit → Act → World → Prop} {a : Act} {w : World} {l : List Oper} (n : Nat) (hm : P.follows .mixedOrders = true) (hB : Region.lexTailB .any l.toArray n = true)
 (h : ∀ w2,w2 = w.drew → wpStill P l.toArray w2 (fun a' => wpList P l.toArray Q (l.drop n) a' w2) (l.take n) a) : (Code.region id l.toArray true).wp P Q a w :=
 wp_region_still_tail n hm hB (h _ rfl)
theorem still_of_quiet {P : Program} {o : Oper} {a : Act} {w : World} {K K' : Act → Prop} (hK : ∀ a,K a → K' a) (h : o.quiet P a (fun w' => w' = w) K) : o.still P a w K' := by
 obtain ⟨v,h1,h2⟩ := h;have h1 := h1 w rfl;have h2 := hK _ h2;unfold Oper.still Oper.stillUpon;unfold Oper.quietAt Oper.quietUpon at h1;revert h1;generalize (execOp a.eval o).run P w = res;intro h1;split at h1
 · obtain ⟨rfl,rfl⟩ := h1;exact ⟨rfl,h2⟩
 · obtain ⟨rfl,rfl⟩ := h1;exact ⟨rfl,h2⟩
 · obtain ⟨rfl,h⟩ := h1;exact ⟨rfl,v,h,h2⟩
 exact h1.elim
theorem wpStill_of_quiet {P : Program} {ops : Array Oper} {w : World} {Q : Act → Prop} : ∀ (l : List Oper) (a : Act),wpQuiet P ops (fun w' => w' = w) Q l a → wpStill P ops w Q l a
 | [],_,h => h
 | o :: rest,a,h => by
   unfold wpQuiet at h;unfold wpStill;split
   · rename_i hw;rw [if_pos hw] at h;exact still_of_quiet (fun a' => wpStill_of_quiet rest a') h
   rename_i hw;rw [if_neg hw] at h;exact wpStill_of_quiet rest _ h
theorem region_tailq {P : Program} {id : Nat} {Q : Exit → Act → World → Prop} {a : Act} {w : World} {l : List Oper} (n : Nat) (hm : P.follows .mixedOrders = true) (hB : Region.lexTailB .any l.toArray n = true)
 (h : ∀ w2,w2 = w.drew → wpQuiet P l.toArray (fun w' => w' = w2) (fun a' => wpList P l.toArray Q (l.drop n) a' w2) (l.take n) a) : (Code.region id l.toArray true).wp P Q a w :=
 region_tail n hm hB (fun w2 e => wpStill_of_quiet _ _ (h w2 e))
def Rd (w : World) (r : Nat) (s : List UInt8) (at_ bad deep : Nat) (odd ends : Bool) : Prop :=
 Blk w r 54 #[S s,.int .i64 at_,.int .i64 bad,.int .i64 deep,.bool odd,.bool ends]
section
variable {w w' : World} {r : Nat} {s : List UInt8} {at_ bad deep : Nat} {odd ends : Bool}
theorem Rd.c0 (h : Rd w r s at_ bad deep odd ends) : w.cell? ⟨r,0,none⟩ = some (S s) := Blk.cell h 0
theorem Rd.c1 (h : Rd w r s at_ bad deep odd ends) : w.cell? ⟨r,1,none⟩ = some (.int .i64 at_) := Blk.cell h 1
theorem Rd.c2 (h : Rd w r s at_ bad deep odd ends) : w.cell? ⟨r,2,none⟩ = some (.int .i64 bad) := Blk.cell h 2
theorem Rd.c3 (h : Rd w r s at_ bad deep odd ends) : w.cell? ⟨r,3,none⟩ = some (.int .i64 deep) := Blk.cell h 3
theorem Rd.c4 (h : Rd w r s at_ bad deep odd ends) : w.cell? ⟨r,4,none⟩ = some (.bool odd) := Blk.cell h 4
theorem Rd.c5 (h : Rd w r s at_ bad deep odd ends) : w.cell? ⟨r,5,none⟩ = some (.bool ends) := Blk.cell h 5
theorem Rd.fz (h : Rd w r s at_ bad deep odd ends) (i : Nat) : w.frozen? ⟨r,i,none⟩ = false := Blk.frozen h i
end
section
variable {w w' : World} {r : Nat} {s : List UInt8} {k bad deep : Nat} {odd ends : Bool}
theorem Rd.cs (h : Rd w r s k bad deep odd ends) : w.cell? ⟨r,0,none⟩ = some (S s) ∧ w.cell? ⟨r,1,none⟩ = some (.int .i64 k) ∧ w.cell? ⟨r,2,none⟩ = some (.int .i64 bad) ∧
 w.cell? ⟨r,3,none⟩ = some (.int .i64 deep) ∧ w.cell? ⟨r,4,none⟩ = some (.bool odd) ∧ w.cell? ⟨r,5,none⟩ = some (.bool ends) := ⟨h.c0,h.c1,h.c2,h.c3,h.c4,h.c5⟩
theorem Rd.fs (h : Rd w r s k bad deep odd ends) : w.frozen? ⟨r,1,none⟩ = false ∧ w.frozen? ⟨r,2,none⟩ = false ∧ w.frozen? ⟨r,3,none⟩ = false ∧ w.frozen? ⟨r,4,none⟩ = false ∧ w.frozen? ⟨r,5,none⟩ = false :=
 ⟨h.fz 1,h.fz 2,h.fz 3,h.fz 4,h.fz 5⟩
theorem Rd.dr (h : Rd w r s k bad deep odd ends) (n : Nat) : Rd (w.drewN n) r s k bad deep odd ends := h
theorem Rd.at_ (h : Rd w r s k bad deep odd ends) (n : Nat) {v : Value} (hv : v = .int .i64 n) : Rd (w.setCell ⟨r,1,none⟩ v) r s n bad deep odd ends := by subst hv;exact Blk.set_ h 1 _
theorem Rd.bad_ (h : Rd w r s k bad deep odd ends) (n : Nat) {v : Value} (hv : v = .int .i64 n) : Rd (w.setCell ⟨r,2,none⟩ v) r s k n deep odd ends := by subst hv;exact Blk.set_ h 2 _
theorem Rd.deep_ (h : Rd w r s k bad deep odd ends) (n : Nat) {v : Value} (hv : v = .int .i64 n) : Rd (w.setCell ⟨r,3,none⟩ v) r s k bad n odd ends := by subst hv;exact Blk.set_ h 3 _
theorem Rd.odd_ (h : Rd w r s k bad deep odd ends) (b : Bool) {v : Value} (hv : v = .bool b) : Rd (w.setCell ⟨r,4,none⟩ v) r s k bad deep b ends := by subst hv;exact Blk.set_ h 4 _
theorem Rd.ends_ (h : Rd w r s k bad deep odd ends) (b : Bool) {v : Value} (hv : v = .bool b) : Rd (w.setCell ⟨r,5,none⟩ v) r s k bad deep odd b := by subst hv;exact Blk.set_ h 5 _
end
theorem store_flt (P : Program) (w : World) (a : Addr) (m : Mode) (k : FloatKind) (b : Nat) : (store a (.float k b) m).run P w = stored P w a (.float k b) m := run_store P w a _ m rfl
theorem ba_get (l : List UInt8) (i : Nat) (h : i < (ByteArray.mk l.toArray).size) : (ByteArray.mk l.toArray)[i]'h = l[i]'(show i < l.length from h) := rfl
theorem drop_at {s : List UInt8} {j : Nat} (h : j < s.length) : s.drop j = s[j] :: s.drop (j + 1) := List.drop_eq_getElem_cons h
theorem ret_ext {s l : List UInt8} {a b : Nat} (h : (s.drop a).take (b - a) = l) : Ending.returned (.string ((ByteArray.mk s.toArray).extract a b)) = .returned (S l) := by rw [ByteArray.extract_mk,h]
theorem ret_bool {a b : Bool} (h : a = b) : Ending.returned (.bool a) = .returned (.bool b) := by rw [h]
theorem ret_int {k : IntKind} {a b : Int} (h : a = b) : Ending.returned (.int k a) = .returned (.int k b) := by rw [h]
def whiteB (b : UInt8) : Bool := decide (b.toNat = 0 ∨ b.toNat = 9 ∨ b.toNat = 10 ∨ b.toNat = 12 ∨ b.toNat = 13 ∨ b.toNat = 32)
def delimB (b : UInt8) : Bool := decide (b.toNat = 40 ∨ b.toNat = 41 ∨ b.toNat = 60 ∨ b.toNat = 62 ∨ b.toNat = 91 ∨ b.toNat = 93 ∨ b.toNat = 123 ∨ b.toNat = 125 ∨ b.toNat = 47 ∨ b.toNat = 37)
def regB (b : UInt8) : Bool := !whiteB b && !delimB b
def plainB (b : UInt8) : Bool := decide (32 ≤ b.toNat ∧ b.toNat ≤ 126)
def digitB (b : UInt8) : Bool := decide (48 ≤ b.toNat ∧ b.toNat ≤ 57)
def hexV (b : UInt8) : Int := if 48 ≤ b.toNat ∧ b.toNat ≤ 57 then b.toNat - 48 else if 97 ≤ b.toNat ∧ b.toNat ≤ 102 then b.toNat - 87 else if 65 ≤ b.toNat ∧ b.toNat ≤ 70 then b.toNat - 55 else -1
end Go.Proofs.YtcpijmbdibgdmaaGreatDoor
namespace Go.Proofs.YtcpijmbdibgdmaaGreatDoor
open Go.RowKit
theorem Tryz.info5 : (Tryz.prog.info? 5).map (fun i => (i.zero,i.size,i.bytes)) = some (some (.int .u8 0),1,1) := by kernel_rfl
abbrev bcell (b : UInt8) : Value := .int .u8 b.toNat
def Own (w : World) (base : Nat) (v : Value) (bs : List UInt8) : Prop := w.ownsRow base 5 1 v bs.length (bs.map bcell)
section
variable {w w' : World} {base : Nat} {v : Value} {bs : List UInt8}
theorem Own.nil (w : World) (base : Nat) : Own w base (.slice none 0 0) [] := World.ownsRow_nil _ _ _ _
theorem Own.alloc (h : Own w base v bs) (o : Obj) : Own (w.alloc o) base v bs := World.ownsRow.alloc h o
theorem Own.drew (h : Own w base v bs) : Own w.drew base v bs := h
theorem Own.drewN (h : Own w base v bs) (n : Nat) : Own (w.drewN n) base v bs := h
theorem Own.kept {row : Option Nat} (h : Own w base v bs) (hg : w.grownBy w' row) (hr : ∀ k,row = some k → k < base) : Own w' base v bs := by
 refine World.ownsRow.kept h hg ?_;rcases hb : v.ownBlock with _ | k
 · exact .inl rfl
 right;intro e;have := (World.ownsRow.lt h k hb).1;have := hr k e.symm;omega
theorem Own.set (h : Own w base v bs) {p : Addr} (hp : p.block < base) (u : Value) : Own (w.setCell p u) base v bs := by
 refine World.ownsRow.kept (row := some p.block) h ⟨rfl,rfl,rfl,by simp [World.setCell],fun k _ hne => Below.heap_setCell _ _ _ _ (fun e => hne (by rw [e]))⟩ ?_;rcases hb : v.ownBlock with _ | k
 · exact .inl rfl
 right;intro e;have := (World.ownsRow.lt h k hb).1;injection e with e;omega
theorem Own.below {B : Nat} (h : Own w base v bs) (hb : Below B w w') (hB : w.heap.size ≤ B) : Own w' base v bs := by
 refine World.ownsRow.kept (row := none) h ⟨hb.os,hb.tape,hb.output,hb.size,fun k hk _ => hb.block k (by omega)⟩ ?_;rcases hb' : v.ownBlock with _ | k
 · exact .inl rfl
 right;simp
theorem Own.lt (h : Own w base v bs) : ∀ k,v.ownBlock = some k → base ≤ k ∧ k < w.heap.size := World.ownsRow.lt h
end
theorem below_drewN {B : Nat} {a w : World} (h : Below B a w) (n : Nat) : Below B a (w.drewN n) := ⟨h.os,h.tape,h.output,h.size,h.block⟩
theorem Blk.newAt (w : World) (t : TypeId) (cs : Array Value) (g : Nat) (hg : g = w.heap.size) : Blk (w.alloc (.cells cs t)) g t cs := by subst hg;exact Blk.new _ _ _
theorem only_grown {a w w' : World} {g : Nat} {row : Option Nat} (h : Only a w g) (hg : w.grownBy w' row) (hr : ∀ k,row = some k → a.heap.size ≤ k) : Only a w' g :=
 ⟨hg.os.trans h.os,hg.tape.trans h.tape,hg.output.trans h.output,Nat.le_trans h.size hg.size,fun i hi hne =>
  (hg.block i (Nat.lt_of_lt_of_le hi h.size) (fun e => by have := hr i e.symm;omega)).trans (h.block i hi hne)⟩
theorem wp_app_byte {ops : Array Oper} {rest : List Oper} {o : Oper} {a : Act} {Q : Exit → Act → World → Prop} (w : World) (hgd : o.guard = none) (s x : Operand)
 (ho : o.op = .call { callee := .builtin .append,args := #[s,x],argTypes := #[40,40] }) (base : Nat) (v : Value) (bs : List UInt8) (hs : a.eval s = v) (hown : Own w base v bs)
 (c : UInt8) (g : Nat) (hx : a.eval x = .slice (some ⟨g,0,none⟩) 1 1) (hc : w.cell? ⟨g,0,none⟩ = some (bcell c)) (hlen : bs.length ≤ 1099511627776) (hbase : base ≤ w.heap.size)
 (h : ∀ v' w',Own w' base v' (bs ++ [c]) → w.grownBy w' v.ownBlock → wpList Tryz.prog ops Q rest (a.put o.dst v') w') : wpList Tryz.prog ops Q (o :: rest) a w := by
 obtain ⟨i0,hi,hz0,hz1,hz2⟩ := info_parts Tryz.info5;refine wpList_append_own w hgd s x 40 ho base 5 i0 (.int .u8 0) 1 1 Tryz.underlying40 hi hz0 hz1 hz2 rfl (by decide) v bs.length (bs.map bcell) hs hown ⟨g,0,none⟩ 1 1 [bcell c] hx rfl ?_ ?_ ?_ ?_ hbase ?_
 · intro j u hj
   match j,hj with
   | 0,hj => simp at hj;subst hj;simpa [Addr.add] using hc
 · intro u hu;simp at hu;subst hu;rfl
 · unfold maxLen;omega
 · omega
 · intro v' w' h1 h2 _;refine h v' w' ?_ h2;unfold Own;simpa using h1
theorem cell_new_byte (w : World) (c : UInt8) (g : Nat) (hg : g = w.heap.size) : (w.alloc (.cells #[bcell c] 5)).cell? ⟨g,0,none⟩ = some (bcell c) := by
 subst hg;exact Blk.cell (Blk.new w 5 #[bcell c]) 0
theorem fold_push (bs : List UInt8) : ∀ acc : List UInt8,(bs.map (fun b : UInt8 => (b.toNat : Int))).foldl (fun r n => r.push (UInt8.ofNat n.toNat)) (ByteArray.mk acc.toArray) = ByteArray.mk (acc ++ bs).toArray := by
 induction bs with
 | nil => intro acc;simp
 | cons b bs ih =>
   intro acc;simp only [List.map_cons,List.foldl_cons,Int.toNat_natCast,UInt8.ofNat_toNat];have e : (ByteArray.mk acc.toArray).push b = ByteArray.mk (acc ++ [b]).toArray := by simp [ByteArray.push]
   rw [e,ih];simp
theorem run_str_own {w : World} {base : Nat} {v : Value} {bs : List UInt8} (h : Own w base v bs) : (convert 40 9 v).run Tryz.prog w = .ok (S bs) w := by
 rcases h.2 with ⟨rfl,hn⟩ | ⟨g,cap,cur,rfl,hb,hh,hnc,hcm,hsz,htk⟩
 · have : bs = [] := List.eq_nil_of_length_eq_zero hn;subst this;rw [run_convert_bytes_string w 40 9 5 _ _ _ Tryz.underlying40 Tryz.underlying5 Tryz.underlying9];simp [Conv.bytesToString];rfl
 rw [run_convert_bytes_string w 40 9 5 _ _ _ Tryz.underlying40 Tryz.underlying5 Tryz.underlying9];rw [run_bytesToString w ⟨g,0,none⟩ bs.length cap (bs.map fun b => (b.toNat : Int))]
 · have := fold_push bs [];simp only [List.nil_append] at this;exact congrArg (fun b => Result.ok (Value.string b) w) this
 have hl := World.ownsRow.cells h (g := g) rfl;have := run_loadCells_list (P := Tryz.prog) (w := w) ⟨g,0,none⟩ (bs.map bcell) hl;simpa [Function.comp_def] using this
end Go.Proofs.YtcpijmbdibgdmaaGreatDoor
namespace Go.Proofs.YtcpijmbdibgdmaaGreatDoor
open Go.RowKit
inductive SVal where
 | null
 | bool (b : Bool)
 | int (n : Int)
 | real (x : Nat)
 | str (l : List UInt8)
 | name (l : List UInt8)
 | arr (l : List SVal)
 | dict (ks : List (List UInt8)) (l : List SVal)
 | ref (n g : Int)
def sv7 (kd n g : Int) (x : Nat) (t : List UInt8) (ks vs : Value) : List Value := [.int .i64 kd,.int .i64 n,.int .i64 g,.float .f64 x,S t,ks,vs]
def sNil : Value := .slice none 0 0
def KeysAt (w : World) (F : Nat → Prop) (v : Value) (ks : List (List UInt8)) : Prop :=
 ∃ A c,v = .slice A ks.length c ∧ ks.length ≤ c ∧ (0 < ks.length → ∃ b off,A = some ⟨b,off,none⟩ ∧ F b ∧ b < w.heap.size ∧ ∀ j u,(ks.map S)[j]? = some u → w.cell? ⟨b,off + j,none⟩ = some u)
theorem KeysAt.mono {w w' : World} {F F' : Nat → Prop} {v : Value} {ks : List (List UInt8)} (hk : ∀ i,F i → i < w.heap.size → w'.heap[i]? = w.heap[i]? ∧ F' i) (h : KeysAt w F v ks) : KeysAt w' F' v ks := by
 obtain ⟨A,c,h1,h2,h3⟩ := h;refine ⟨A,c,h1,h2,fun hn => ?_⟩;obtain ⟨b,off,h4,h5,h6,h7⟩ := h3 hn;obtain ⟨h8,h9⟩ := hk b h5 h6;refine ⟨b,off,h4,h9,?_,fun j u hu => ?_⟩
 · rcases Nat.lt_or_ge b w'.heap.size with h | h
   · exact h
   rw [Array.getElem?_eq_none h,Array.getElem?_eq_getElem h6] at h8;cases h8
 rw [← h7 j u hu];simp only [World.cell?,h8]
theorem KeysAt.slice {w : World} {F : Nat → Prop} {v : Value} {ks : List (List UInt8)} (h : KeysAt w F v ks) : ∃ p a b,v = .slice p a b := by
 obtain ⟨A,c,h1,_⟩ := h;exact ⟨_,_,_,h1⟩
mutual
def VRep (w : World) (F : Nat → Prop) : SVal → List Value → Prop
 | .null,c => c = sv7 0 0 0 0 [] sNil sNil
 | .bool b,c => c = sv7 1 (if b then 1 else 0) 0 0 [] sNil sNil
 | .int n,c => c = sv7 2 n 0 0 [] sNil sNil
 | .real x,c => c = sv7 3 0 0 x [] sNil sNil
 | .str l,c => c = sv7 4 0 0 0 l sNil sNil
 | .name l,c => c = sv7 5 0 0 0 l sNil sNil
 | .arr l,c => ∃ v xs,c = sv7 6 0 0 0 [] sNil v ∧ w.ownsRow 0 34 7 v l.length xs ∧ (∀ g,v.ownBlock = some g → F g) ∧ KRep w F l xs
 | .dict ks l,c => ∃ k v xs,c = sv7 7 0 0 0 [] k v ∧ KeysAt w F k ks ∧ w.ownsRow 0 34 7 v l.length xs ∧ (∀ g,v.ownBlock = some g → F g) ∧ KRep w F l xs
 | .ref n g,c => c = sv7 8 n g 0 [] sNil sNil
def KRep (w : World) (F : Nat → Prop) : List SVal → List Value → Prop
 | [],xs => xs = []
 | v :: l,xs => ∃ c ys,xs = c ++ ys ∧ c.length = 7 ∧ VRep w F v c ∧ KRep w F l ys
end
theorem ownsRow_keep {w w' : World} {e : TypeId} {size n : Nat} {v : Value} {xs : List Value} (h : w.ownsRow 0 e size v n xs) (hb : ∀ g,v.ownBlock = some g → w'.heap[g]? = w.heap[g]?) : w'.ownsRow 0 e size v n xs := by
 refine ⟨h.1,?_⟩;rcases h.2 with hn | ⟨g,cap,cur,hv,hbg,hg,rest⟩
 · exact .inl hn
 refine .inr ⟨g,cap,cur,hv,hbg,?_,rest⟩;rw [hb g (by rw [hv];rfl)];exact hg
theorem ownsRow_lt {w : World} {e : TypeId} {size n : Nat} {v : Value} {xs : List Value} (h : w.ownsRow 0 e size v n xs) : ∀ g,v.ownBlock = some g → g < w.heap.size := by
 intro g hg;exact (World.ownsRow.lt h g hg).2
mutual
theorem VRep.mono {w w' : World} {F F' : Nat → Prop} (hk : ∀ i,F i → i < w.heap.size → w'.heap[i]? = w.heap[i]? ∧ F' i) : ∀ (v : SVal) (c : List Value),VRep w F v c → VRep w' F' v c
 | .null,c,h => by unfold VRep at h ⊢;exact h
 | .bool b,c,h => by unfold VRep at h ⊢;exact h
 | .int n,c,h => by unfold VRep at h ⊢;exact h
 | .real x,c,h => by unfold VRep at h ⊢;exact h
 | .str l,c,h => by unfold VRep at h ⊢;exact h
 | .name l,c,h => by unfold VRep at h ⊢;exact h
 | .ref n g,c,h => by unfold VRep at h ⊢;exact h
 | .arr l,c,h => by
   unfold VRep at h ⊢;obtain ⟨v,xs,h1,h2,h3,h4⟩ := h;exact ⟨v,xs,h1,ownsRow_keep h2 (fun g hg => (hk g (h3 g hg) (ownsRow_lt h2 g hg)).1),fun g hg => (hk g (h3 g hg) (ownsRow_lt h2 g hg)).2,KRep.mono hk l xs h4⟩
 | .dict ks l,c,h => by
   unfold VRep at h ⊢;obtain ⟨k,v,xs,h1,h5,h2,h3,h4⟩ := h;exact ⟨k,v,xs,h1,KeysAt.mono hk h5,ownsRow_keep h2 (fun g hg => (hk g (h3 g hg) (ownsRow_lt h2 g hg)).1),fun g hg => (hk g (h3 g hg) (ownsRow_lt h2 g hg)).2,KRep.mono hk l xs h4⟩
theorem KRep.mono {w w' : World} {F F' : Nat → Prop} (hk : ∀ i,F i → i < w.heap.size → w'.heap[i]? = w.heap[i]? ∧ F' i) : ∀ (l : List SVal) (xs : List Value),KRep w F l xs → KRep w' F' l xs
 | [],xs,h => by unfold KRep at h ⊢;exact h
 | v :: l,xs,h => by
   unfold KRep at h ⊢;obtain ⟨c,ys,h1,h2,h3,h4⟩ := h;exact ⟨c,ys,h1,h2,VRep.mono hk v c h3,KRep.mono hk l ys h4⟩
end
theorem VRep.len {w : World} {F : Nat → Prop} : ∀ (v : SVal) (c : List Value),VRep w F v c → c.length = 7 := by
 intro v c h;cases v <;> unfold VRep at h <;> first | (rw [h];rfl) | (obtain ⟨_,_,rfl,_⟩ := h;rfl) | (obtain ⟨_,_,_,rfl,_⟩ := h;rfl)
theorem KRep.snoc {w : World} {F : Nat → Prop} {v : SVal} {c : List Value} (hv : VRep w F v c) : ∀ (l : List SVal) (xs : List Value),KRep w F l xs → KRep w F (l ++ [v]) (xs ++ c)
 | [],xs,h => by
   unfold KRep at h;subst h;unfold KRep;exact ⟨c,[],by simp,VRep.len v c hv,hv,by unfold KRep;rfl⟩
 | u :: l,xs,h => by
   unfold KRep at h;obtain ⟨d,ys,rfl,h2,h3,h4⟩ := h;show KRep w F (u :: (l ++ [v])) _;unfold KRep;exact ⟨d,ys ++ c,by simp,h2,h3,KRep.snoc hv l ys h4⟩
end Go.Proofs.YtcpijmbdibgdmaaGreatDoor
namespace Go.Proofs.YtcpijmbdibgdmaaGreatDoor
open Go.RowKit
theorem white_any (b : UInt8) (w : World) : Calls Tryz.prog 67 #[.int .u8 b.toNat] w fun e w' => e = .returned (.bool (whiteB b)) ∧ w = w' := by
 go_enter Tryz.func67,Tryz.ntmps67;go_wp2
 all_goals go_ret
 all_goals (refine ⟨ret_bool ?_,rfl⟩;simp only [beq_iff_eq,beq_eq_false_iff_ne,ne_eq] at *;rw [Bool.eq_iff_iff];simp [whiteB];omega)
theorem delim_any (b : UInt8) (w : World) : Calls Tryz.prog 48 #[.int .u8 b.toNat] w fun e w' => e = .returned (.bool (delimB b)) ∧ w = w' := by
 go_enter Tryz.func48,Tryz.ntmps48;go_wp2
 all_goals go_ret
 all_goals (refine ⟨ret_bool ?_,rfl⟩;simp only [beq_iff_eq,beq_eq_false_iff_ne,ne_eq] at *;rw [Bool.eq_iff_iff];simp [delimB];omega)
theorem plain_any (b : UInt8) (w : World) : Calls Tryz.prog 68 #[.int .u8 b.toNat] w fun e w' => e = .returned (.bool (plainB b)) ∧ w = w' := by
 go_enter Tryz.func68,Tryz.ntmps68;by_cases h : 32 ≤ b.toNat
 all_goals go_wp2
 all_goals go_ret
 all_goals (refine ⟨ret_bool ?_,rfl⟩;rw [Bool.eq_iff_iff];simp [plainB];omega)
theorem digit_any (b : UInt8) (w : World) : Calls Tryz.prog 93 #[.int .u8 b.toNat] w fun e w' => e = .returned (.bool (digitB b)) ∧ w = w' := by
 go_enter Tryz.func93,Tryz.ntmps93;by_cases h : 48 ≤ b.toNat
 all_goals go_wp2
 all_goals go_ret
 all_goals (refine ⟨ret_bool ?_,rfl⟩;rw [Bool.eq_iff_iff];simp [digitB];omega)
theorem reg_any (b : UInt8) (w : World) : Calls Tryz.prog 71 #[.int .u8 b.toNat] w fun e w' => e = .returned (.bool (regB b)) ∧ w = w' := by
 go_enter Tryz.func71,Tryz.ntmps71;cases h : whiteB b
 all_goals
  have H := Lib.hid h;clear h;go_wp2_with (first | (go_at_call 67;refine (white_any b _).mono ?_;rintro e w' ⟨rfl,rfl⟩;simp only [H.out]) | (go_at_call 48;refine (delim_any b _).mono ?_;rintro e w' ⟨rfl,rfl⟩))
 all_goals go_ret
 all_goals (refine ⟨ret_bool ?_,rfl⟩;simp [regB,H.out])
theorem hex_any (b : UInt8) (w : World) : Calls Tryz.prog 73 #[.int .u8 b.toNat] w fun e w' => e = .returned (.int .i64 (hexV b)) ∧ w = w' := by
 go_enter Tryz.func73,Tryz.ntmps73;go_wp2_with (first | (go_at_call 93;refine (digit_any b _).mono ?_;rintro e w' ⟨rfl,rfl⟩))
 all_goals go_ret
 all_goals (refine ⟨ret_int ?_,rfl⟩;simp only [digitB,decide_eq_true_eq,decide_eq_false_iff_not] at *;have := b.toNat_lt;unfold hexV;(repeat' split) <;> omega)
end Go.Proofs.YtcpijmbdibgdmaaGreatDoor
namespace Go.Proofs.YtcpijmbdibgdmaaGreatDoor
open Go.RowKit
attribute [local go_sem] ba_get store_flt
theorem toList_mk (l : List UInt8) : (ByteArray.mk l.toArray).toList = l := by rw [ByteArray.toList_eq]
theorem toList_ext (s : List UInt8) (a b : Nat) : ((ByteArray.mk s.toArray).extract a b).toList = (s.drop a).take (b - a) := by rw [ByteArray.extract_mk,toList_mk]
theorem take_prefix (t l : List UInt8) (h : t.length ≤ l.length) : (l.take t.length == t) = t.isPrefixOf l := by
 rw [Bool.eq_iff_iff,beq_iff_eq,List.isPrefixOf_iff_prefix,List.prefix_iff_eq_take];exact eq_comm
theorem not_prefix (t l : List UInt8) (h : l.length < t.length) : t.isPrefixOf l = false := by
 rw [Bool.eq_false_iff];intro hp;have := (List.isPrefixOf_iff_prefix.1 hp).length_le;omega
theorem is_any (r : Nat) (s t : List UInt8) (k bad deep : Nat) (odd ends : Bool) (w : World) (hk : k ≤ s.length) (hs : s.length ≤ 268435456) (ht : t.length ≤ 1000) (h : Rd w r s k bad deep odd ends) :
 Calls Tryz.prog 43 #[.pointer (some ⟨r,0,none⟩),S t] w fun e w' => e = .returned (.bool (t.isPrefixOf (s.drop k))) ∧ ∃ n,w' = w.drewN n := by
 obtain ⟨c0,c1,c2,c3,c4,c5⟩ := h.cs;by_cases hl : t.length ≤ s.length - k
 · have hl' : (t.length : Int) ≤ (s.length : Int) - (k : Int) := by omega
   have hl2 : (k : Int) + (t.length : Int) ≤ (s.length : Int) := by omega
   go_enter Tryz.func43,Tryz.ntmps43;go_wp2_with fail;go_quiet (fail);go_wp2_with fail;go_ret;refine ⟨ret_bool ?_,_,rfl⟩;rw [toList_ext,show k + t.length - k = t.length by omega,take_prefix t _ (by rw [List.length_drop];omega)]
 · have hl' : decide ((t.length : Int) ≤ (s.length : Int) - (k : Int)) = false := by rw [decide_eq_false_iff_not];omega
   go_enter Tryz.func43,Tryz.ntmps43;go_wp2_with fail;go_quiet (fail);go_wp2_with fail;go_ret;exact ⟨ret_bool (not_prefix t _ (by rw [List.length_drop];omega)).symm,_,rfl⟩
def vZero : Array Value := #[.int .i64 0,.int .i64 0,.int .i64 0,.float .f64 0,S [],.slice none 0 0,.slice none 0 0]
theorem fail_any (r : Nat) (s : List UInt8) (k bad deep what : Nat) (odd ends : Bool) (w : World) (hR : Rd w r s k bad deep odd ends) :
 Calls Tryz.prog 41 #[.pointer (some ⟨r,0,none⟩),.int .i64 what] w fun e w' => e = .returned (.agg vZero) ∧
  Rd w' r s k (if bad = 0 then what else bad) deep odd ends ∧ Only w w' r := by
 obtain ⟨c0,c1,c2,c3,c4,c5⟩ := hR.cs;obtain ⟨f1,f2,f3,f4,f5⟩ := hR.fs;have hlt : r < w.heap.size := Blk.lt hR;by_cases hb : bad = 0
 · subst hb;go_enter Tryz.func41,Tryz.ntmps41;go_wp2_with fail;refine bodyPost_ret (v := .agg vZero) (by simp [results,Tryz.results41,go_sem,vZero]) rfl ⟨rfl,?_,?_⟩
   · exact Blk.alloc (Rd.bad_ hR what rfl) _
   exact only_alloc (only_set (only_refl _ _) _ _) _
 · have tb : ((bad : Int) == 0) = false := by rw [beq_eq_false_iff_ne];omega
   go_enter Tryz.func41,Tryz.ntmps41;go_wp2_with fail;refine bodyPost_ret (v := .agg vZero) (by simp [results,Tryz.results41,go_sem,vZero]) rfl ⟨rfl,?_,?_⟩
   · first | (rw [if_neg hb];exact Blk.alloc hR _) | exact Blk.alloc hR _
   exact only_alloc (only_refl _ _) _
end Go.Proofs.YtcpijmbdibgdmaaGreatDoor
namespace Go.Proofs.YtcpijmbdibgdmaaGreatDoor
open Go.RowKit
attribute [local go_sem] ba_get
def octM : Nat → List UInt8 → Nat → Nat × Nat
 | 0,_,o => (o,0)
 | _ + 1,[],o => (o,0)
 | n + 1,b :: l,o => if 48 ≤ b.toNat ∧ b.toNat ≤ 55 then ((octM n l (8 * o + (b.toNat - 48))).1,(octM n l (8 * o + (b.toNat - 48))).2 + 1) else (o,0)
def escF : List UInt8 → UInt8 × Bool × Nat
 | [] => (0,false,0)
 | b :: l =>
   if b.toNat = 110 then (10,true,1) else if b.toNat = 114 then (13,true,1) else if b.toNat = 116 then (9,true,1) else if b.toNat = 98 then (8,true,1) else if b.toNat = 102 then (12,true,1)
   else if b.toNat = 10 then (0,false,1) else if b.toNat = 13 then (0,false,if (l.head?.map UInt8.toNat) = some 10 then 2 else 1)
   else if b.toNat < 48 ∨ 55 < b.toNat then (b,true,1)
   else (UInt8.ofNat (octM 2 l (b.toNat - 48)).1,true,(octM 2 l (b.toNat - 48)).2 + 1)
theorem escF_cons (b : UInt8) (l : List UInt8) : escF (b :: l) =
 if b.toNat = 110 then (10,true,1) else if b.toNat = 114 then (13,true,1) else if b.toNat = 116 then (9,true,1) else if b.toNat = 98 then (8,true,1) else if b.toNat = 102 then (12,true,1)
 else if b.toNat = 10 then (0,false,1) else if b.toNat = 13 then (0,false,if (l.head?.map UInt8.toNat) = some 10 then 2 else 1)
 else if b.toNat < 48 ∨ 55 < b.toNat then (b,true,1)
 else (UInt8.ofNat (octM 2 l (b.toNat - 48)).1,true,(octM 2 l (b.toNat - 48)).2 + 1) := rfl
theorem escF_110 {b : UInt8} {l : List UInt8} (h : b.toNat = 110) : escF (b :: l) = (10,true,1) := by rw [escF_cons];simp [h]
theorem escF_114 {b : UInt8} {l : List UInt8} (h : b.toNat = 114) : escF (b :: l) = (13,true,1) := by rw [escF_cons];simp [h]
theorem escF_116 {b : UInt8} {l : List UInt8} (h : b.toNat = 116) : escF (b :: l) = (9,true,1) := by rw [escF_cons];simp [h]
theorem escF_98 {b : UInt8} {l : List UInt8} (h : b.toNat = 98) : escF (b :: l) = (8,true,1) := by rw [escF_cons];simp [h]
theorem escF_102 {b : UInt8} {l : List UInt8} (h : b.toNat = 102) : escF (b :: l) = (12,true,1) := by rw [escF_cons];simp [h]
theorem escF_10 {b : UInt8} {l : List UInt8} (h : b.toNat = 10) : escF (b :: l) = (0,false,1) := by rw [escF_cons];simp [h]
theorem escF_13 {b : UInt8} {l : List UInt8} (h : b.toNat = 13) : escF (b :: l) = (0,false,if (l.head?.map UInt8.toNat) = some 10 then 2 else 1) := by rw [escF_cons];simp [h]
theorem escF_else {b : UInt8} {l : List UInt8} (h0 : b.toNat ≠ 110) (h1 : b.toNat ≠ 114) (h2 : b.toNat ≠ 116) (h3 : b.toNat ≠ 98) (h4 : b.toNat ≠ 102) (h5 : b.toNat ≠ 10) (h6 : b.toNat ≠ 13) (h : b.toNat < 48 ∨ 55 < b.toNat) : escF (b :: l) = (b,true,1) := by
 rw [escF_cons,if_neg h0,if_neg h1,if_neg h2,if_neg h3,if_neg h4,if_neg h5,if_neg h6,if_pos h]
theorem escF_oct {b : UInt8} {l : List UInt8} (h : 48 ≤ b.toNat) (h' : b.toNat ≤ 55) : escF (b :: l) = (UInt8.ofNat (octM 2 l (b.toNat - 48)).1,true,(octM 2 l (b.toNat - 48)).2 + 1) := by
 rw [escF_cons,if_neg (by omega),if_neg (by omega),if_neg (by omega),if_neg (by omega),if_neg (by omega),if_neg (by omega),if_neg (by omega),if_neg (by omega)]
theorem and255 (a : Nat) (h : a < 512) : (bits .and .i64 (a : Int) 255) % 256 = ((UInt8.ofNat a).toNat : Int) := by
 have H : ∀ a : Fin 512,(bits .and .i64 (a.val : Int) 255) % 256 = ((UInt8.ofNat a.val).toNat : Int) := by decide +kernel
 exact H ⟨a,h⟩
theorem escape_any (r : Nat) (s : List UInt8) (k bad deep : Nat) (odd ends : Bool) (w : World) (hk : k ≤ s.length) (hs : s.length ≤ 268435456) (hR : Rd w r s k bad deep odd ends) :
 Calls Tryz.prog 72 #[.pointer (some ⟨r,0,none⟩)] w fun e w' => e = .returned (.tuple #[.int .u8 (escF (s.drop k)).1.toNat,.bool (escF (s.drop k)).2.1]) ∧
  Rd w' r s (k + (escF (s.drop k)).2.2) bad deep odd ends ∧ Only w w' r := by
 have hO := only_refl w r;obtain ⟨c0,c1,c2,c3,c4,c5⟩ := hR.cs;obtain ⟨f1,f2,f3,f4,f5⟩ := hR.fs;by_cases hlt : k < s.length
 · by_cases h110 : s[k].toNat = 110
   · have t110 : ((s[k].toNat : Int) == 110) = true := by rw [beq_iff_eq];omega
     have E := Lib.hid (show escF (s.drop k) = (10,true,1) by rw [drop_at hlt];exact escF_110 h110);go_enter Tryz.func72,Tryz.ntmps72;go_wp2_with fail;go_quiet (fail);go_wp2_with fail;go_quiet (fail);go_wp2_with fail;go_ret2;rw [E.out];exact ⟨rfl,hR.at_ (k + 1) rfl,(by repeat first | exact hO | refine only_drewN ?_ _ | refine only_set ?_ _ _ | refine only_drew ?_)⟩
   have t110 : ((s[k].toNat : Int) == 110) = false := by rw [beq_eq_false_iff_ne];omega
   by_cases h114 : s[k].toNat = 114
   · have t114 : ((s[k].toNat : Int) == 114) = true := by rw [beq_iff_eq];omega
     have E := Lib.hid (show escF (s.drop k) = (13,true,1) by rw [drop_at hlt];exact escF_114 h114);go_enter Tryz.func72,Tryz.ntmps72;go_wp2_with fail;go_quiet (fail);go_wp2_with fail;go_quiet (fail);go_wp2_with fail;go_ret2;rw [E.out];exact ⟨rfl,hR.at_ (k + 1) rfl,(by repeat first | exact hO | refine only_drewN ?_ _ | refine only_set ?_ _ _ | refine only_drew ?_)⟩
   have t114 : ((s[k].toNat : Int) == 114) = false := by rw [beq_eq_false_iff_ne];omega
   by_cases h116 : s[k].toNat = 116
   · have t116 : ((s[k].toNat : Int) == 116) = true := by rw [beq_iff_eq];omega
     have E := Lib.hid (show escF (s.drop k) = (9,true,1) by rw [drop_at hlt];exact escF_116 h116);go_enter Tryz.func72,Tryz.ntmps72;go_wp2_with fail;go_quiet (fail);go_wp2_with fail;go_quiet (fail);go_wp2_with fail;go_ret2;rw [E.out];exact ⟨rfl,hR.at_ (k + 1) rfl,(by repeat first | exact hO | refine only_drewN ?_ _ | refine only_set ?_ _ _ | refine only_drew ?_)⟩
   have t116 : ((s[k].toNat : Int) == 116) = false := by rw [beq_eq_false_iff_ne];omega
   by_cases h98 : s[k].toNat = 98
   · have t98 : ((s[k].toNat : Int) == 98) = true := by rw [beq_iff_eq];omega
     have E := Lib.hid (show escF (s.drop k) = (8,true,1) by rw [drop_at hlt];exact escF_98 h98);go_enter Tryz.func72,Tryz.ntmps72;go_wp2_with fail;go_quiet (fail);go_wp2_with fail;go_quiet (fail);go_wp2_with fail;go_ret2;rw [E.out];exact ⟨rfl,hR.at_ (k + 1) rfl,(by repeat first | exact hO | refine only_drewN ?_ _ | refine only_set ?_ _ _ | refine only_drew ?_)⟩
   have t98 : ((s[k].toNat : Int) == 98) = false := by rw [beq_eq_false_iff_ne];omega
   by_cases h102 : s[k].toNat = 102
   · have t102 : ((s[k].toNat : Int) == 102) = true := by rw [beq_iff_eq];omega
     have E := Lib.hid (show escF (s.drop k) = (12,true,1) by rw [drop_at hlt];exact escF_102 h102);go_enter Tryz.func72,Tryz.ntmps72;go_wp2_with fail;go_quiet (fail);go_wp2_with fail;go_quiet (fail);go_wp2_with fail;go_ret2;rw [E.out];exact ⟨rfl,hR.at_ (k + 1) rfl,(by repeat first | exact hO | refine only_drewN ?_ _ | refine only_set ?_ _ _ | refine only_drew ?_)⟩
   have t102 : ((s[k].toNat : Int) == 102) = false := by rw [beq_eq_false_iff_ne];omega
   by_cases h10 : s[k].toNat = 10
   · have t10 : ((s[k].toNat : Int) == 10) = true := by rw [beq_iff_eq];omega
     have E := Lib.hid (show escF (s.drop k) = (0,false,1) by rw [drop_at hlt];exact escF_10 h10);go_enter Tryz.func72,Tryz.ntmps72;go_wp2_with fail;go_quiet (fail);go_wp2_with fail;go_quiet (fail);go_wp2_with fail;go_ret2;rw [E.out];exact ⟨rfl,hR.at_ (k + 1) rfl,(by repeat first | exact hO | refine only_drewN ?_ _ | refine only_set ?_ _ _ | refine only_drew ?_)⟩
   have t10 : ((s[k].toNat : Int) == 10) = false := by rw [beq_eq_false_iff_ne];omega
   obtain ⟨m,hm⟩ : ∃ m,m = k + 1 := ⟨_,rfl⟩;have Hm := Lib.hid hm;have hm1 : k < m := by omega
   have hm2 : m ≤ s.length := by omega
   by_cases h13 : s[k].toNat = 13
   · have t13 : ((s[k].toNat : Int) == 13) = true := by rw [beq_iff_eq];omega
     by_cases hl2 : m < s.length
     · by_cases q10 : s[m].toNat = 10
       · have q10' : ((s[m].toNat : Int) == 10) = true := by rw [beq_iff_eq];omega
         have E := Lib.hid (show escF (s.drop k) = (0,false,2) by rw [drop_at hlt,escF_13 h13,← hm];rw [drop_at hl2];simp [List.getElem?_eq_getElem hl2,q10]);clear hm;go_enter Tryz.func72,Tryz.ntmps72;go_wp2_with fail;go_quiet (fail);go_wp2_with fail;go_quiet (fail);go_wp2_with fail;refine wp_gen (fun wo => Rd wo r s m bad deep odd ends ∧ Only w wo r) ⟨hR.at_ m (by rw [Hm.out];rfl),(by repeat first | exact hO | refine only_drewN ?_ _ | refine only_set ?_ _ _ | refine only_drew ?_)⟩ ?_;rintro w2 ⟨hR2,hO2⟩;clear c0 c1 c2 c3 c4 c5 f1 f2 f3 f4 f5 hR hO;have hR := hR2;have hO := hO2;clear hR2 hO2;obtain ⟨c0,c1,c2,c3,c4,c5⟩ := hR.cs;obtain ⟨f1,f2,f3,f4,f5⟩ := hR.fs;go_quiet (fail);go_wp2_with fail;go_ret2;rw [E.out];exact ⟨rfl,hR.at_ (k + 2) (by rw [Hm.out];rfl),(by repeat first | exact hO | refine only_drewN ?_ _ | refine only_set ?_ _ _ | refine only_drew ?_)⟩
       have q10' : ((s[m].toNat : Int) == 10) = false := by rw [beq_eq_false_iff_ne];omega
       have E := Lib.hid (show escF (s.drop k) = (0,false,1) by rw [drop_at hlt,escF_13 h13,← hm];rw [drop_at hl2];simp [List.getElem?_eq_getElem hl2,q10]);clear hm;go_enter Tryz.func72,Tryz.ntmps72;go_wp2_with fail;go_quiet (fail);go_wp2_with fail;go_quiet (fail);go_wp2_with fail;refine wp_gen (fun wo => Rd wo r s m bad deep odd ends ∧ Only w wo r) ⟨hR.at_ m (by rw [Hm.out];rfl),(by repeat first | exact hO | refine only_drewN ?_ _ | refine only_set ?_ _ _ | refine only_drew ?_)⟩ ?_;rintro w2 ⟨hR2,hO2⟩;clear c0 c1 c2 c3 c4 c5 f1 f2 f3 f4 f5 hR hO;have hR := hR2;have hO := hO2;clear hR2 hO2;obtain ⟨c0,c1,c2,c3,c4,c5⟩ := hR.cs;obtain ⟨f1,f2,f3,f4,f5⟩ := hR.fs;go_quiet (fail);go_wp2_with fail;go_ret2;rw [E.out];exact ⟨rfl,by rw [← Hm.out];exact hR,(by repeat first | exact hO | refine only_drewN ?_ _ | refine only_set ?_ _ _ | refine only_drew ?_)⟩
     have hl3 : s.length ≤ m := by omega
     have E := Lib.hid (show escF (s.drop k) = (0,false,1) by rw [drop_at hlt,escF_13 h13,← hm];rw [List.drop_eq_nil_of_le hl3];simp);clear hm;go_enter Tryz.func72,Tryz.ntmps72;go_wp2_with fail;go_quiet (fail);go_wp2_with fail;go_quiet (fail);go_wp2_with fail;refine wp_gen (fun wo => Rd wo r s m bad deep odd ends ∧ Only w wo r) ⟨hR.at_ m (by rw [Hm.out];rfl),(by repeat first | exact hO | refine only_drewN ?_ _ | refine only_set ?_ _ _ | refine only_drew ?_)⟩ ?_;rintro w2 ⟨hR2,hO2⟩;clear c0 c1 c2 c3 c4 c5 f1 f2 f3 f4 f5 hR hO;have hR := hR2;have hO := hO2;clear hR2 hO2;obtain ⟨c0,c1,c2,c3,c4,c5⟩ := hR.cs;obtain ⟨f1,f2,f3,f4,f5⟩ := hR.fs;go_quiet (fail);go_wp2_with fail;go_ret2;rw [E.out];exact ⟨rfl,by rw [← Hm.out];exact hR,(by repeat first | exact hO | refine only_drewN ?_ _ | refine only_set ?_ _ _ | refine only_drew ?_)⟩
   have t13 : ((s[k].toNat : Int) == 13) = false := by rw [beq_eq_false_iff_ne];omega
   by_cases hlo : s[k].toNat < 48
   · have E := Lib.hid (show escF (s.drop k) = (s[k],true,1) by rw [drop_at hlt];exact escF_else h110 h114 h116 h98 h102 h10 h13 (.inl hlo));have hd : decide ((s[k].toNat : Int) < 48) = true := by rw [decide_eq_true_eq];omega
     go_enter Tryz.func72,Tryz.ntmps72;go_wp2_with fail;go_quiet (fail);go_wp2_with fail;go_quiet (fail);go_wp2_with fail;go_ret2;rw [E.out];exact ⟨rfl,hR.at_ (k + 1) rfl,(by repeat first | exact hO | refine only_drewN ?_ _ | refine only_set ?_ _ _ | refine only_drew ?_)⟩
   by_cases hhi : 55 < s[k].toNat
   · have E := Lib.hid (show escF (s.drop k) = (s[k],true,1) by rw [drop_at hlt];exact escF_else h110 h114 h116 h98 h102 h10 h13 (.inr hhi));have hd : decide ((s[k].toNat : Int) < 48) = false := by rw [decide_eq_false_iff_not];omega
     go_enter Tryz.func72,Tryz.ntmps72;go_wp2_with fail;go_quiet (fail);go_wp2_with fail;go_quiet (fail);go_wp2_with fail;go_ret2;rw [E.out];exact ⟨rfl,hR.at_ (k + 1) rfl,(by repeat first | exact hO | refine only_drewN ?_ _ | refine only_set ?_ _ _ | refine only_drew ?_)⟩
   have E := Lib.hid (show escF (s.drop k) = (UInt8.ofNat (octM 2 (s.drop (k + 1)) (s[k].toNat - 48)).1,true,(octM 2 (s.drop (k + 1)) (s[k].toNat - 48)).2 + 1) by rw [drop_at hlt];exact escF_oct (by omega) (by omega));rw [← hm] at E;clear hm;have hd : decide ((s[k].toNat : Int) < 48) = false := by rw [decide_eq_false_iff_not];omega
   have hc1 : 48 ≤ s[k].toNat := by omega
   have hc2 : s[k].toNat ≤ 55 := by omega
   go_enter Tryz.func72,Tryz.ntmps72;go_wp2_with fail;go_quiet (fail);go_wp2_with fail;go_quiet (fail);go_wp2_with fail;refine wp_gen (fun wo => Rd wo r s m bad deep odd ends ∧ Only w wo r) ⟨hR.at_ m (by rw [Hm.out];rfl),(by repeat first | exact hO | refine only_drewN ?_ _ | refine only_set ?_ _ _ | refine only_drew ?_)⟩ ?_;rintro w2 ⟨hR2,hO2⟩;clear c0 c1 c2 c3 c4 c5 f1 f2 f3 f4 f5 hR hO;have hR := hR2;have hO := hO2;clear hR2 hO2;obtain ⟨c0,c1,c2,c3,c4,c5⟩ := hR.cs;obtain ⟨f1,f2,f3,f4,f5⟩ := hR.fs;obtain ⟨fin,hfin⟩ : ∃ fin,fin = octM 2 (s.drop m) (s[k].toNat - 48) := ⟨_,rfl⟩;rw [← hfin] at E;have Hf := Lib.hid hfin;clear hfin
   go_loopg [5,6] 2 (fun g u n wr => ∃ i a q : Nat,u = .int .i64 a ∧ n = .int .i64 q ∧ (g = 2 ∧ q = 1 ∧ a < 8 ∨ g = 1 ∧ q = 2 ∧ a < 64 ∨ g = 0 ∧ q = 3 ∧ a < 512) ∧ i ≤ s.length ∧ Rd wr r s i bad deep odd ends ∧ Only w wr r ∧ (octM g (s.drop i) a).1 = fin.1 ∧ (octM g (s.drop i) a).2 + i = fin.2 + m)
   case atStart => exact ⟨m,s[k].toNat - 48,1,by congr 1;omega,rfl,.inl ⟨rfl,rfl,by omega⟩,hm2,hR,hO,by rw [Hf.out],by rw [Hf.out]⟩
   case round =>
    obtain ⟨i,a,q,rfl,rfl,hq,hil,hR2,hO2,B⟩ := hrel;have B := Lib.hid B;rename_i B0;clear B0;have hq1 : q ≤ 3 := by omega
    have ha1 : a < 512 := by omega
    have hq := Lib.hid hq;rename_i hq0;clear hq0;clear c0 c1 c2 c3 c4 c5 f1 f2 f3 f4 f5 hR hO;have hR := hR2;have hO := hO2;clear hR2 hO2;obtain ⟨c0,c1,c2,c3,c4,c5⟩ := hR.cs;obtain ⟨f1,f2,f3,f4,f5⟩ := hR.fs;by_cases hlt2 : i < s.length
    · have tlt : decide ((i : Int) < (s.length : Int)) = true := by rw [decide_eq_true_eq];omega
      by_cases hq3 : q < 3
      · have tq : decide ((q : Int) < 3) = true := by rw [decide_eq_true_eq];omega
        obtain ⟨g,rfl⟩ : ∃ g,gk = g + 1 := ⟨gk - 1,by have := hq.out;omega⟩;by_cases hx : 48 ≤ s[i].toNat
        · have tx : decide (48 ≤ (s[i].toNat : Int)) = true := by rw [decide_eq_true_eq];omega
          by_cases hy : s[i].toNat ≤ 55
          · have ty : decide ((s[i].toNat : Int) ≤ 55) = true := by rw [decide_eq_true_eq];omega
            go_wp2_with fail;go_quiet (fail);go_wp2_with fail;go_quiet (fail);go_wp2_with fail
            go_roundg g
            case measure => omega
            case rel =>
             have B1 := B.out;rw [drop_at hlt2,octM,if_pos ⟨hx,hy⟩] at B1;refine ⟨i + 1,8 * a + (s[i].toNat - 48),q + 1,?_,by go_num,by have := hq.out;omega,by omega,hR.at_ _ rfl,(by repeat first | exact hO | refine only_drewN ?_ _ | refine only_set ?_ _ _ | refine only_drew ?_),B1.1,?_⟩
             · congr 1;omega
             have := B1.2;simp only at this;omega
          have ty : decide ((s[i].toNat : Int) ≤ 55) = false := by rw [decide_eq_false_iff_not];omega
          go_wp2_with fail;go_quiet (fail);go_wp2_with fail;go_ret2;have e1 : octM (g + 1) (s.drop i) a = (a,0) := by rw [drop_at hlt2,octM,if_neg (by omega)]
          have B1 := B.out;rw [e1] at B1;rw [E.out];refine ⟨?_,?_,(by repeat first | exact hO | refine only_drewN ?_ _ | refine only_set ?_ _ _ | refine only_drew ?_)⟩
          · refine congrArg (fun z => Ending.returned (.tuple #[.int .u8 z,.bool true])) ?_;rw [show fin.1 = a by have := B1.1;exact this.symm];clear E B B1 e1;exact and255 a ha1
          show Rd _ r s (k + (fin.2 + 1)) bad deep odd ends;have h1 : k + (fin.2 + 1) = i := by have := B1.2;have := Hm.out;simp only at *;omega
          rw [h1];exact hR
        have tx : decide (48 ≤ (s[i].toNat : Int)) = false := by rw [decide_eq_false_iff_not];omega
        go_wp2_with fail;go_quiet (fail);go_wp2_with fail;go_ret2;have e1 : octM (g + 1) (s.drop i) a = (a,0) := by rw [drop_at hlt2,octM,if_neg (by omega)]
        have B1 := B.out;rw [e1] at B1;rw [E.out];refine ⟨?_,?_,(by repeat first | exact hO | refine only_drewN ?_ _ | refine only_set ?_ _ _ | refine only_drew ?_)⟩
        · refine congrArg (fun z => Ending.returned (.tuple #[.int .u8 z,.bool true])) ?_;rw [show fin.1 = a by have := B1.1;exact this.symm];clear E B B1 e1;exact and255 a ha1
        show Rd _ r s (k + (fin.2 + 1)) bad deep odd ends;have h1 : k + (fin.2 + 1) = i := by have := B1.2;have := Hm.out;simp only at *;omega
        rw [h1];exact hR
      have tq : decide ((q : Int) < 3) = false := by rw [decide_eq_false_iff_not];omega
      go_wp2_with fail;go_quiet (fail);go_wp2_with fail;go_ret2;have e1 : octM gk (s.drop i) a = (a,0) := by rw [show gk = 0 by have := hq.out;omega,octM]
      have B1 := B.out;rw [e1] at B1;rw [E.out];refine ⟨?_,?_,(by repeat first | exact hO | refine only_drewN ?_ _ | refine only_set ?_ _ _ | refine only_drew ?_)⟩
      · refine congrArg (fun z => Ending.returned (.tuple #[.int .u8 z,.bool true])) ?_;rw [show fin.1 = a by have := B1.1;exact this.symm];clear E B B1 e1;exact and255 a ha1
      show Rd _ r s (k + (fin.2 + 1)) bad deep odd ends;have h1 : k + (fin.2 + 1) = i := by have := B1.2;have := Hm.out;simp only at *;omega
      rw [h1];exact hR
    have tlt : decide ((i : Int) < (s.length : Int)) = false := by rw [decide_eq_false_iff_not];omega
    go_wp2_with fail;go_quiet (fail);go_wp2_with fail;go_ret2;have e1 : octM gk (s.drop i) a = (a,0) := by rw [List.drop_eq_nil_of_le (by omega)];cases gk <;> rfl
    have B1 := B.out;rw [e1] at B1;rw [E.out];refine ⟨?_,?_,(by repeat first | exact hO | refine only_drewN ?_ _ | refine only_set ?_ _ _ | refine only_drew ?_)⟩
    · refine congrArg (fun z => Ending.returned (.tuple #[.int .u8 z,.bool true])) ?_;rw [show fin.1 = a by have := B1.1;exact this.symm];clear E B B1 e1;exact and255 a ha1
    show Rd _ r s (k + (fin.2 + 1)) bad deep odd ends;have h1 : k + (fin.2 + 1) = i := by have := B1.2;have := Hm.out;simp only at *;omega
    rw [h1];exact hR
 · have tl : decide ((s.length : Int) ≤ (k : Int)) = true := by rw [decide_eq_true_eq];omega
   have E := Lib.hid (show escF (s.drop k) = (0,false,0) by rw [List.drop_eq_nil_of_le (by omega)];rfl);go_enter Tryz.func72,Tryz.ntmps72;go_wp2_with fail;go_quiet (fail);go_wp2_with fail;go_ret2;rw [E.out];exact ⟨rfl,hR,(by repeat first | exact hO | refine only_drewN ?_ _ | refine only_set ?_ _ _ | refine only_drew ?_)⟩
end Go.Proofs.YtcpijmbdibgdmaaGreatDoor
