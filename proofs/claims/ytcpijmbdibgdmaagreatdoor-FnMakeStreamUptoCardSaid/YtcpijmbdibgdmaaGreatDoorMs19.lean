/-
  Decimal numerals of integers: plain law.
  The package's writers of plain objects.
  strings.Builder's writers at this program (after the kit's own walks of the same functions).
  types.EncodeName.
  The package's writers: names; how long what is written is.
  The spec's values, opened.
-/
import Derived.Test.YtcpijmbdibgdmaaGreatDoorMs18
import Derived.Lib.ItoaNum
import Derived.Lib.AtoiAll
import Derived.Test.YtcpijmbdibgdmaaGreatDoorMs16
import Derived.Lib.AppendIntMem
import Derived.BigRegion
set_option linter.all false
set_option maxHeartbeats 16000000
set_option maxRecDepth 100000
namespace Go.Proofs.YtcpijmbdibgdmaaGreatDoor
open Go.RowKit
theorem dd_small {u : Nat} (h : u < 10) : Lib.decDigits u = [UInt8.ofNat (48 + u)] := by rw [Lib.decDigits,dif_pos h]
theorem dd_big {u : Nat} (h : ¬ u < 10) : Lib.decDigits u = Lib.decDigits (u / 10) ++ [UInt8.ofNat (48 + u % 10)] := by rw [Lib.decDigits,dif_neg h]
theorem chr_nat {c : Nat} (h : c < 10) : (UInt8.ofNat (48 + c)).toNat = 48 + c := by
 rw [UInt8.toNat_ofNat'];omega
theorem dd_digits : ∀ (n u : Nat),u ≤ n → ∀ b ∈ Lib.decDigits u,digitB b = true
 | n,u,hn,b,hb => by
   by_cases h : u < 10
   · rw [dd_small h] at hb;rw [List.mem_singleton.1 hb];unfold digitB;rw [decide_eq_true_eq,chr_nat h];omega
   rw [dd_big h,List.mem_append] at hb;rcases hb with hb | hb
   · match n,hn with
     | 0,hn => omega
     | n + 1,hn => exact dd_digits n (u / 10) (by omega) b hb
   rw [List.mem_singleton.1 hb];unfold digitB;rw [decide_eq_true_eq,chr_nat (c := u % 10) (by omega)];omega
theorem dd_ne (u : Nat) : Lib.decDigits u ≠ [] := by
 by_cases h : u < 10
 · rw [dd_small h];simp
 rw [dd_big h];simp
theorem parse_app : ∀ (l r : List UInt8) (acc u : Nat),Lib.parseUint10 acc l = .ok u → Lib.parseUint10 acc (l ++ r) = Lib.parseUint10 u r
 | [],r,acc,u,h => by rw [Lib.parseUint10] at h;injection h with h;subst h;rfl
 | c :: l,r,acc,u,h => by
   rw [List.cons_append,Lib.parseUint10];rw [Lib.parseUint10] at h;split at h
   · rename_i hc;rw [if_pos hc];split at h
     · cases h
     rename_i h1;rw [if_neg h1];split at h
     · cases h
     rename_i h2;rw [if_neg h2];exact parse_app l r _ u h
   cases h
theorem parse_dd : ∀ (n u : Nat),u ≤ n → u < 1000000000000000000 → Lib.parseUint10 0 (Lib.decDigits u) = .ok u
 | n,u,hn,hu => by
   by_cases h : u < 10
   · rw [dd_small h,Lib.parseUint10,if_pos (by rw [chr_nat h];omega),if_neg (by omega),if_neg (by rw [chr_nat h];omega),Lib.parseUint10,chr_nat h];congr 1;omega
   rw [dd_big h]
   have ih : Lib.parseUint10 0 (Lib.decDigits (u / 10)) = .ok (u / 10) := by
    match n,hn with
    | 0,hn => omega
    | n + 1,hn => exact parse_dd n (u / 10) (by omega) (by omega)
   have hc := chr_nat (c := u % 10) (by omega);rw [parse_app _ _ _ _ ih,Lib.parseUint10,if_pos (by rw [hc];omega),if_neg (by omega),if_neg (by rw [hc];omega),Lib.parseUint10,hc];congr 1;omega
theorem mag_dd {u : Nat} (hu : u < 1000000000000000000) : Lib.parseMag (Lib.decDigits u) = .ok u := by
 unfold Lib.parseMag;rw [if_neg (dd_ne u)];exact parse_dd u u (Nat.le_refl _) hu
theorem atoi_dd {u : Nat} (hu : u < 1000000000000000000) : Lib.atoiAll (Lib.decDigits u) = .ok (u : Int) ∧ Lib.atoiAll (45 :: Lib.decDigits u) = .ok (-(u : Int)) := by
 have hm := mag_dd hu;constructor
 · cases hd : Lib.decDigits u with
   | nil => exact absurd hd (dd_ne u)
   | cons c r =>
     have hc := dd_digits u u (Nat.le_refl _) c (by rw [hd];simp);unfold digitB at hc;rw [decide_eq_true_eq] at hc;unfold Lib.atoiAll;simp only;rw [if_neg (by omega),← hd,hm];simp only;rw [if_neg (by omega),if_neg (by omega),if_neg (by omega)]
 unfold Lib.atoiAll;simp only;rw [if_pos (by decide),hm];simp only;rw [if_neg (by simp),if_neg (by omega),if_pos (by rfl)]
theorem cnt_digits : ∀ (l : List UInt8) (d a : Nat),(∀ b ∈ l,digitB b = true) → cntM l d 0 a = some (d + l.length,0,a + l.length)
 | [],d,a,_ => rfl
 | b :: l,d,a,h => by
   rw [cntM,if_pos (h b (by simp)),if_pos rfl,cnt_digits l _ _ (fun x hx => h x (by simp [hx]))];simp only [List.length_cons];rw [show d + 1 + l.length = d + (l.length + 1) by omega,show a + 1 + l.length = a + (l.length + 1) by omega]
theorem dd_len {u : Nat} (h : u < 10000000000) : (Lib.decDigits u).length ≤ 10 := by
 rw [Lib.decDigits_length];rcases Nat.lt_or_ge 10 (Lib.nDigits u) with h1 | h1
 · exfalso
   have : ∀ (k u : Nat),k < Lib.nDigits u → 10 ^ k ≤ u ∨ k = 0 := by
    intro k
    induction k with
    | zero => intro u _;right;rfl
    | succ k ih =>
      intro u hk;left;by_cases h10 : u < 10
      · rw [Lib.nDigits_small h10] at hk;omega
      rw [Lib.nDigits_big h10] at hk;rcases ih (u / 10) (by omega) with h2 | h2
      · rw [Nat.pow_succ];omega
      subst h2;omega
   rcases this 10 u h1 with h2 | h2 <;> omega
 exact h1
theorem num_dd {u : Nat} (hu : u < 10000000000) : cntM (Lib.decDigits u) 0 0 0 = some ((Lib.decDigits u).length,0,(Lib.decDigits u).length) := by
 rw [cnt_digits _ 0 0 (dd_digits u u (Nat.le_refl _))];simp
theorem unsign_dd (u : Nat) : unsign (Lib.decDigits u) = Lib.decDigits u := by
 cases hd : Lib.decDigits u with
 | nil => rfl
 | cons c r =>
   have hc := dd_digits u u (Nat.le_refl _) c (by rw [hd];simp);unfold digitB at hc;rw [decide_eq_true_eq] at hc;rw [unsign,if_neg (by omega)]
theorem itoa_ok : ItoaOk := by
 intro n h0 h1;by_cases hn : n < 0
 · refine ⟨?_,fun h => by omega⟩;unfold Lib.itoa;rw [if_pos hn];have hl := dd_len (u := n.natAbs) (by omega);have hp : 0 < (Lib.decDigits n.natAbs).length := List.length_pos_iff.2 (dd_ne _);unfold numM;rw [show unsign (45 :: Lib.decDigits n.natAbs) = Lib.decDigits n.natAbs by rw [unsign,if_pos (by decide)],num_dd (by omega)];simp only;rw [if_neg (by omega),if_neg (by omega),if_neg (by decide),(atoi_dd (by omega)).2];simp only;rw [if_neg (by omega),show -((n.natAbs : Nat) : Int) = n by omega]
 unfold Lib.itoa;rw [if_neg hn];have hl := dd_len (u := n.toNat) (by omega);have hp : 0 < (Lib.decDigits n.toNat).length := List.length_pos_iff.2 (dd_ne _);constructor
 · unfold numM;rw [unsign_dd,num_dd (by omega)];simp only;rw [if_neg (by omega),if_neg (by omega),if_neg (by decide),(atoi_dd (by omega)).1];simp only;rw [if_neg (by omega),show ((n.toNat : Nat) : Int) = n by omega]
 intro _
 cases hd : Lib.decDigits n.toNat with
 | nil => exact absurd hd (dd_ne _)
 | cons c r => exact dd_digits _ _ (Nat.le_refl _) c (by rw [hd];simp)
end Go.Proofs.YtcpijmbdibgdmaaGreatDoor
namespace Go.Proofs.YtcpijmbdibgdmaaGreatDoor
open Go.RowKit
attribute [local go_sem] ba_get store_flt
theorem itoa_len {n : Int} (h0 : -2147483648 ≤ n) (h1 : n ≤ 2147483647) : (Lib.itoa n).length ≤ 20 := by
 unfold Lib.itoa;split
 · have := dd_len (u := n.natAbs) (by omega);rw [List.length_cons];omega
 have := dd_len (u := n.toNat) (by omega);omega
structure BR (w wr : World) (b : Nat) (n g : Int) : Prop where
 box : Blk wr b 107 #[.int .i64 n,.int .i64 g]
 below : Below w.heap.size w wr
section
variable {w wr w' : World} {b : Nat} {n g : Int}
theorem BR.keep (h : BR w wr b n g) (hB : Below wr.heap.size wr w') : BR w w' b n g := ⟨h.box.below hB h.box.lt,h.below.trans (hB.mono h.below.size)⟩
theorem BR.drew (h : BR w wr b n g) : BR w wr.drew b n g := ⟨h.box,⟨h.below.os,h.below.tape,h.below.output,h.below.size,h.below.block⟩⟩
theorem BR.cells (h : BR w wr b n g) : wr.cell? ⟨b,0,none⟩ = some (.int .i64 n) ∧ wr.cell? ⟨b,1,none⟩ = some (.int .i64 g) := ⟨h.box.cell 0,h.box.cell 1⟩
end
theorem str_lit (t : List UInt8) (w : World) (ht : t.length ≤ 1048576) : Calls Tryz.prog 277 #[S t] w fun e w' => e = .returned (S (40 :: (t ++ [41]))) ∧ w' = w := by
 have h285 : ∀ w,Calls Tryz.prog 285 #[S t] w fun e w' => e = .returned (S (40 :: (t ++ [41]))) ∧ w' = w := by
  intro w;go_enter Tryz.func285,Tryz.ntmps285;go_wp2_with fail;go_ret;exact ⟨by rfl,rfl⟩
 go_enter Tryz.func277,Tryz.ntmps277;go_wp2_with fail;refine (h285 _).mono ?_;rintro e w2 ⟨rfl,rfl⟩;clear h285;go_wp2_with fail;go_ret;exact ⟨rfl,rfl⟩
theorem str_hex (t : List UInt8) (w : World) (ht : t.length ≤ 1048576) : Calls Tryz.prog 278 #[S t] w fun e w' => e = .returned (S (60 :: (t ++ [62]))) ∧ w' = w := by
 have h285 : ∀ w,Calls Tryz.prog 286 #[S t] w fun e w' => e = .returned (S (60 :: (t ++ [62]))) ∧ w' = w := by
  intro w;go_enter Tryz.func286,Tryz.ntmps286;go_wp2_with fail;go_ret;exact ⟨by rfl,rfl⟩
 go_enter Tryz.func278,Tryz.ntmps278;go_wp2_with fail;refine (h285 _).mono ?_;rintro e w2 ⟨rfl,rfl⟩;clear h285;go_wp2_with fail;go_ret;exact ⟨rfl,rfl⟩
theorem str_bool (b : Bool) (w : World) : Calls Tryz.prog 276 #[.bool b] w fun e w' => e = .returned (S (if b then [116,114,117,101] else [102,97,108,115,101])) ∧ w' = w := by
 have hf : Lib.formatBool b = (if b then [116,114,117,101] else [102,97,108,115,101]) := by cases b <;> decide +kernel
 have h290 := fun w => Tryz.strconv_FormatBool b w
 simp only [hf] at h290;obtain ⟨r,hr⟩ : ∃ r : List UInt8,r = (if b then [116,114,117,101] else [102,97,108,115,101]) := ⟨_,rfl⟩;rw [← hr] at h290 ⊢;clear hf hr
 have h284 : ∀ w,Calls Tryz.prog 284 #[.bool b] w fun e w' => e = .returned (S r) ∧ w' = w := by
  intro w;go_enter Tryz.func284,Tryz.ntmps284;go_wp2_with fail;refine (h290 _).mono ?_;rintro e w2 ⟨rfl,rfl⟩;clear h290;go_wp2_with fail;go_ret;exact ⟨rfl,rfl⟩
 clear h290;go_enter Tryz.func276,Tryz.ntmps276;go_wp2_with fail;refine (h284 _).mono ?_;rintro e w2 ⟨rfl,rfl⟩;clear h284;go_wp2_with fail;go_ret;exact ⟨rfl,rfl⟩
open Go.Lib in
theorem str_int {hi lo : Nat → Nat} {W0 : World} (hF : FFW hi lo W0) (n : Int) (h0 : -9223372036854775808 ≤ n) (h1 : n ≤ 9223372036854775807) (w : World) (hW : Below W0.heap.size W0 w) : Calls Tryz.prog 274 #[.int .i64 n] w fun e w' => e = .returned (S (Lib.itoa n)) ∧ Below w.heap.size w w' := by
 have h66 := Tryz.strconv_Itoa n h0 h1 w (hF.ten w hW)
 have h282 : Calls Tryz.prog 282 #[.int .i64 n] w fun e w' => e = .returned (S (Lib.itoa n)) ∧ Below w.heap.size w w' := by
  go_enter Tryz.func282,Tryz.ntmps282;go_wp2_with fail;refine h66.mono ?_;rintro e w2 ⟨rfl,k,os,rfl⟩;clear h66;go_wp2_with fail;go_ret;exact ⟨rfl,below_grow _ _ (Nat.le_refl _) _ _⟩
 clear h66;go_enter Tryz.func274,Tryz.ntmps274;go_wp2_with fail;refine h282.mono ?_;rintro e w2 ⟨rfl,hB⟩;clear h282;go_wp2_with fail;go_ret;exact ⟨rfl,hB⟩
theorem str_real {hi lo : Nat → Nat} {W0 : World} (hF : FFW hi lo W0) (x : Nat) (w : World) (hW : Below W0.heap.size W0 w) (hx : x < 18446744073709551616) (hE : feE x ≤ 1069) : Calls Tryz.prog 275 #[.float .f64 x] w fun e w' => e = .returned (S (ffB hi lo x)) ∧ Below w.heap.size w w' := by
 have h85 := ffmt_any hF x w hW hx hE
 have h283 : ∀ w,Calls Tryz.prog 283 #[.float .f64 x] w fun e w' => e = .returned (.float .f64 x) ∧ w' = w := by
  intro w;go_enter Tryz.func283,Tryz.ntmps283;go_wp2_with fail;go_ret;exact ⟨rfl,rfl⟩
 have H85 := Lib.hid h85;clear h85;go_enter Tryz.func275,Tryz.ntmps275;go_wp2_with fail;refine (h283 _).mono ?_;rintro e w2 ⟨rfl,rfl⟩;clear h283;go_wp2_with fail;refine H85.out.mono ?_;rintro e w2 ⟨rfl,hB⟩;go_wp2_with fail;go_ret;exact ⟨rfl,hB⟩
theorem ref_text (a c : List UInt8) : (Ending.returned (.string (⟨a.toArray⟩ ++ ⟨#[32]⟩ ++ ⟨c.toArray⟩ ++ ⟨#[32,82]⟩)) : Ending) = .returned (S (a ++ 32 :: (c ++ [32,82]))) := by
 have e : (⟨a.toArray⟩ ++ ⟨#[32]⟩ ++ ⟨c.toArray⟩ ++ ⟨#[32,82]⟩ : ByteArray) = ⟨(a ++ 32 :: (c ++ [32,82])).toArray⟩ := by
  ext1
  simp
 rw [e]
open Go.Lib in
theorem str_ref {hi lo : Nat → Nat} {W0 : World} (hF : FFW hi lo W0) (n g : Int) (h0 : -2147483648 ≤ n) (h1 : n ≤ 2147483647) (g0 : -2147483648 ≤ g) (g1 : g ≤ 2147483647) (w : World) (hW : Below W0.heap.size W0 w) : Calls Tryz.prog 272 #[.agg #[.int .i64 n,.int .i64 g]] w fun e w' => e = .returned (S (Lib.itoa n ++ 32 :: (Lib.itoa g ++ [32,82]))) ∧ Below w.heap.size w w' := by
 have hl1 := itoa_len h0 h1;have hl2 := itoa_len g0 g1
 have hI1 : ∀ w2,Below w.heap.size w w2 → Calls Tryz.prog 66 #[.int .i64 n] w2 fun e w' => e = .returned (S (Lib.itoa n)) ∧ Below w2.heap.size w2 w' := fun w2 h => (Tryz.strconv_Itoa n (by omega) (by omega) w2 (hF.ten w2 (hW.trans (h.mono hW.size)))).mono (by
  rintro e w' ⟨rfl,k,os,rfl⟩
  exact ⟨rfl,below_grow _ _ (Nat.le_refl _) _ _⟩)
 have hI2 : ∀ w2,Below w.heap.size w w2 → Calls Tryz.prog 66 #[.int .i64 g] w2 fun e w' => e = .returned (S (Lib.itoa g)) ∧ Below w2.heap.size w2 w' := fun w2 h => (Tryz.strconv_Itoa g (by omega) (by omega) w2 (hF.ten w2 (hW.trans (h.mono hW.size)))).mono (by
  rintro e w' ⟨rfl,k,os,rfl⟩
  exact ⟨rfl,below_grow _ _ (Nat.le_refl _) _ _⟩)
 obtain ⟨a,ha⟩ : ∃ a,a = Lib.itoa n := ⟨_,rfl⟩;obtain ⟨c,hc⟩ : ∃ a,a = Lib.itoa g := ⟨_,rfl⟩;rw [← ha] at hl1 hI1 ⊢;rw [← hc] at hl2 hI2 ⊢;have H1 := Lib.hid hI1;have H2 := Lib.hid hI2;clear hI1 hI2 ha hc;go_enter Tryz.func272,Tryz.ntmps272;go_wp2_with fail;refine wp_gen (fun wr => BR w wr w.heap.size n g) ⟨Blk.newAt _ 107 _ _ rfl,(Below.refl _ w).alloc (Nat.le_refl _) _⟩ ?_;obtain ⟨b,hb⟩ : ∃ b,b = w.heap.size := ⟨_,rfl⟩;have Hb := Lib.hid hb;rw [← hb];clear hb;intro wr hS;have c0 := hS.cells.1;have c1 := hS.cells.2
 go_region_with (go_simp;go_at_call 66;first
  | (refine (H1.out _ hS2.below).mono ?_;rintro e w3 ⟨rfl,hB3⟩;have hS3 := hS2.keep hB3;clear hB3;dsimp only)
  | (refine (H2.out _ hS2.below).mono ?_;rintro e w3 ⟨rfl,hB3⟩;have hS3 := hS2.keep hB3;clear hB3;dsimp only)
  | (refine (H1.out _ hS.drew.below).mono ?_;rintro e w2 ⟨rfl,hB2⟩;have hS2 := hS.drew.keep hB2;have c0' := hS2.cells.1;have c1' := hS2.cells.2;clear hB2;dsimp only)
  | (refine (H2.out _ hS.drew.below).mono ?_;rintro e w2 ⟨rfl,hB2⟩;have hS2 := hS.drew.keep hB2;have c0' := hS2.cells.1;have c1' := hS2.cells.2;clear hB2;dsimp only))
 all_goals
  go_wp2_with fail;go_ret;exact ⟨ref_text a c,hS3.below⟩
end Go.Proofs.YtcpijmbdibgdmaaGreatDoor
namespace Go.Proofs.YtcpijmbdibgdmaaGreatDoor
open Go.RowKit
theorem Tryz.size195 : (Tryz.prog.info? 195).map (·.size) = some 2 := by kernel_rfl
theorem Tryz.lies195 : liesAt Tryz.prog Tryz.prog.depth 195 (2 / Tryz.prog.cellsOf 195) 0 195 1 = true := by kernel_rfl
theorem copyCheck_used (b : Nat) (w : World) (h0 : w.cell? ⟨b,0,none⟩ = some (.pointer (some ⟨b,0,none⟩))) :
 Calls Tryz.prog 166 #[.pointer (some ⟨b,0,none⟩)] w fun e w' => e = .returned (.tuple #[]) ∧ w' = w := by
 obtain ⟨j,hj,_⟩ := Option.map_eq_some_iff.1 Tryz.size195;go_enter Tryz.func166,Tryz.ntmps166;go_wp2;rw [Lib.run_neq_ptr_same w _ Tryz.underlying193 hj];go_wp2
 go_end0
 exact ⟨rfl,rfl⟩
theorem copyCheck_fresh (b : Nat) (w : World) (h0 : w.cell? ⟨b,0,none⟩ = some (.pointer none)) (hsh : w.shape? b = some (195,2)) (hfz : w.frozen? ⟨b,0,none⟩ = false) :
 Calls Tryz.prog 166 #[.pointer (some ⟨b,0,none⟩)] w fun e w' => e = .returned (.tuple #[]) ∧ w' = w.setCell ⟨b,0,none⟩ (.pointer (some ⟨b,0,none⟩)) := by
 obtain ⟨j,hj,hjs⟩ := Option.map_eq_some_iff.1 Tryz.size195;go_enter Tryz.func166,Tryz.ntmps166;go_wp2;rw [Lib.run_to_unsafe w ⟨b,0,none⟩ Tryz.underlying193 Tryz.underlying300 hj (by rw [hjs];decide) hsh (Nat.zero_lt_succ 1)];simp only [Result.andThen];rw [Oper.upon_value];go_wp2;rw [run_callFunc_extern Tryz.func220 (by kernel_rfl) (by kernel_rfl) (by kernel_rfl) (e := Extern.AbiNoEscape.same) (by kernel_rfl)];rw [Lib.run_noEscape];simp only [Result.andThen];rw [Oper.upon_value];go_wp2;rw [Lib.run_from_unsafe w ⟨b,0,none⟩ Tryz.underlying300 Tryz.underlying193 hj hsh Tryz.lies195];simp only [Result.andThen];rw [Oper.upon_value];go_wp2
 go_end0
 exact ⟨rfl,rfl⟩
theorem copyCheck_any (B b : Nat) (bs : List Value) (w : World) (h : Lib.IsBuilder 195 5 B b bs w) :
 Calls Tryz.prog 166 #[.pointer (some ⟨b,0,none⟩)] w fun e w' => e = .returned (.tuple #[]) ∧ (Lib.BuilderAt 195 5 B b (.pointer (some ⟨b,0,none⟩)) bs w' ∧ Below B w w') := by
 rcases h with h | h
 · refine (copyCheck_fresh b w h.cell0 h.shape h.frozen0).mono ?_;rintro e w' ⟨rfl,rfl⟩;exact ⟨rfl,h.used _,(Below.refl B w).setCell (p := ⟨b,0,none⟩) h.1 _⟩
 · refine (copyCheck_used b w h.cell0).mono ?_;rintro e w' ⟨rfl,rfl⟩;exact ⟨rfl,h,Below.refl B _⟩
theorem writeByte_any (B b : Nat) (bs : List Value) (c : Int) (w : World) (h : Lib.IsBuilder 195 5 B b bs w) (hlen : bs.length + 1 ≤ 140737488355328) (hBw : B ≤ w.heap.size) :
 Calls Tryz.prog 124 #[.pointer (some ⟨b,0,none⟩),.int .u8 c] w fun e w' => e = .returned .nilIface ∧ (Lib.BuilderAt 195 5 B b (.pointer (some ⟨b,0,none⟩)) (bs ++ [.int .u8 c]) w' ∧ Below B w w') := by
 obtain ⟨i0,hi,hz0,hz1,hz2⟩ := info_parts Tryz.info5;go_enter Tryz.func124,Tryz.ntmps124;go_wp2_with (go_at_call 166;refine (copyCheck_any B b bs _ h).mono ?_);rintro e w1 ⟨rfl,h1,hb1⟩;obtain ⟨hB,v,hbk,hown,hne⟩ := h1;have c0 : w1.cell? ⟨b,0,none⟩ = some (.pointer (some ⟨b,0,none⟩)) := by rw [Lib.cell_of_heap hbk];rfl
 have c1 : w1.cell? ⟨b,1,none⟩ = some v := by rw [Lib.cell_of_heap hbk];rfl
 go_wp2_with (at_builtin;refine wpList_append_own _ rfl _ _ 40 rfl B 5 i0 (.int .u8 0) 1 1 Tryz.underlying40 hi hz0 hz1 hz2 rfl (by decide) _ _ _ rfl (hown.alloc _) ⟨w1.heap.size,0,none⟩ 1 1 [.int .u8 c] rfl rfl ?c1 ?c2 ?c3 ?c4 ?c5 ?_)
 case c1 =>
  intro j u hj
  match j,hj with
  | 0,hj => simp at hj;subst hj;simp [Addr.add]
 case c2 => intro u hu;simp at hu;subst hu;rfl
 case c3 => unfold maxLen;omega
 case c4 => omega
 case c5 => have := hb1.size;simp;omega
 intro v' w2 hown' hgrow _
 have hlt : b < w1.heap.size := by
  rcases Nat.lt_or_ge b w1.heap.size with h' | h'
  · exact h'
  simp [Array.getElem?_eq_none h'] at hbk
 have hb2 : w2.heap[b]? = some (.cells #[.pointer (some ⟨b,0,none⟩),v] 195 (0,0)) := by
  rw [hgrow.block b (by simp;omega) (fun e => hne e.symm),Lib.alloc_old w1 _ b hlt];exact hbk
 have d0 : w2.cell? ⟨b,0,none⟩ = some (.pointer (some ⟨b,0,none⟩)) := by rw [Lib.cell_of_heap hb2];rfl
 have d1 : w2.cell? ⟨b,1,none⟩ = some v := by rw [Lib.cell_of_heap hb2];rfl
 have f1 : w2.frozen? ⟨b,1,none⟩ = false := Lib.frozen_of_heap hb2 1
 obtain ⟨g,cap,rfl⟩ : ∃ g cap,v' = .slice (some ⟨g,0,none⟩) (bs.length + 1) cap := by
  rcases hown'.2 with ⟨_,h0⟩ | ⟨g,cap,cur,hv,_⟩
  · omega
  exact ⟨g,cap,hv⟩
 go_wp2;go_ret;refine ⟨rfl,?_,?_⟩
 · exact Lib.BuilderAt.put (T := 195) (e := 5) hB hb2 (bs' := bs ++ [.int .u8 c]) (by simpa using hown') (by decide)
 · exact ((hb1.alloc (by have := hb1.size;omega) _).grown hgrow (by have := hb1.size;simp;omega) (fun k hk => (hown.lt k hk).1)).setCell (p := ⟨b,1,none⟩) hB _
theorem writeString_any (B b : Nat) (bs : List Value) (s : ByteArray) (w : World) (h : Lib.IsBuilder 195 5 B b bs w) (hlen : bs.length + s.size ≤ 140737488355328) (hBw : B ≤ w.heap.size) :
 Calls Tryz.prog 126 #[.pointer (some ⟨b,0,none⟩),.string s] w fun e w' => e = .returned (.tuple #[.int .i64 s.size,.nilIface]) ∧ (Lib.BuilderAt 195 5 B b (.pointer (some ⟨b,0,none⟩)) (bs ++ Lib.strCells s) w' ∧ Below B w w') := by
 obtain ⟨i0,hi,hz0,hz1,hz2⟩ := info_parts Tryz.info5;go_enter Tryz.func126,Tryz.ntmps126;go_wp2_with (go_at_call 166;refine (copyCheck_any B b bs _ h).mono ?_);rintro e w1 ⟨rfl,h1,hb1⟩;obtain ⟨hB,v,hbk,hown,hne⟩ := h1;have c0 : w1.cell? ⟨b,0,none⟩ = some (.pointer (some ⟨b,0,none⟩)) := by rw [Lib.cell_of_heap hbk];rfl
 have c1 : w1.cell? ⟨b,1,none⟩ = some v := by rw [Lib.cell_of_heap hbk];rfl
 go_wp2_with (at_builtin;refine Lib.wpList_append_own_string _ rfl _ _ 40 9 rfl B 5 i0 Tryz.underlying40 Tryz.underlying9 hi hz0 hz1 hz2 _ _ _ rfl hown s rfl ?c3 ?c4 ?c5 ?_)
 case c3 => unfold maxLen;omega
 case c4 => omega
 case c5 => have := hb1.size;omega
 intro v' w2 hown' hgrow _
 have hlt : b < w1.heap.size := by
  rcases Nat.lt_or_ge b w1.heap.size with h' | h'
  · exact h'
  simp [Array.getElem?_eq_none h'] at hbk
 have hb2 : w2.heap[b]? = some (.cells #[.pointer (some ⟨b,0,none⟩),v] 195 (0,0)) := by
  rw [hgrow.block b hlt (fun e => hne e.symm)];exact hbk
 have d0 : w2.cell? ⟨b,0,none⟩ = some (.pointer (some ⟨b,0,none⟩)) := by rw [Lib.cell_of_heap hb2];rfl
 have d1 : w2.cell? ⟨b,1,none⟩ = some v := by rw [Lib.cell_of_heap hb2];rfl
 have f1 : w2.frozen? ⟨b,1,none⟩ = false := Lib.frozen_of_heap hb2 1
 obtain ⟨ao,n',cap,rfl⟩ : ∃ ao n' cap,v' = .slice ao n' cap := by
  rcases hown'.2 with ⟨hv,_⟩ | ⟨g,cap,cur,hv,_⟩
  · exact ⟨_,_,_,hv⟩
  exact ⟨_,_,_,hv⟩
 go_wp2;go_ret2;refine ⟨rfl,?_,?_⟩
 · exact Lib.BuilderAt.put (T := 195) (e := 5) hB hb2 (bs' := bs ++ Lib.strCells s) (by simpa [Lib.strCells_length] using hown') (by decide)
 · exact (hb1.grown hgrow (by have := hb1.size;omega) (fun k hk => (hown.lt k hk).1)).setCell (p := ⟨b,1,none⟩) hB _
theorem write_one (B b : Nat) (bs : List Value) (g0 cap0 : Nat) (c : Int) (w : World) (h : Lib.IsBuilder 195 5 B b bs w) (hlen : bs.length + 1 ≤ 140737488355328) (hBw : B ≤ w.heap.size) (hsrc : w.cell? ⟨g0,0,none⟩ = some (.int .u8 c)) (hgb : g0 ≠ b) :
 Calls Tryz.prog 127 #[.pointer (some ⟨b,0,none⟩),.slice (some ⟨g0,0,none⟩) 1 cap0] w fun e w' => e = .returned (.tuple #[.int .i64 1,.nilIface]) ∧ (Lib.BuilderAt 195 5 B b (.pointer (some ⟨b,0,none⟩)) (bs ++ [.int .u8 c]) w' ∧ Below B w w') := by
 obtain ⟨i0,hi,hz0,hz1,hz2⟩ := info_parts Tryz.info5
 have hcc : Calls Tryz.prog 166 #[.pointer (some ⟨b,0,none⟩)] w fun e w' => e = .returned (.tuple #[]) ∧ (Lib.BuilderAt 195 5 B b (.pointer (some ⟨b,0,none⟩)) bs w' ∧ Below B w w') ∧ w'.cell? ⟨g0,0,none⟩ = some (.int .u8 c) := by
  rcases h with h | h
  · refine (copyCheck_fresh b w h.cell0 h.shape h.frozen0).mono ?_;rintro e w' ⟨rfl,rfl⟩;refine ⟨rfl,⟨h.used _,(Below.refl B w).setCell (p := ⟨b,0,none⟩) h.1 _⟩,?_⟩;rw [World.cell?_setCell_other _ _ _ _ (by intro e;simp only [Addr.mk.injEq] at e;omega)];exact hsrc
  refine (copyCheck_used b w h.cell0).mono ?_;rintro e w' ⟨rfl,rfl⟩;exact ⟨rfl,⟨h,Below.refl B _⟩,hsrc⟩
 go_enter Tryz.func127,Tryz.ntmps127;go_wp2_with (go_at_call 166;refine hcc.mono ?_);rintro e w1 ⟨rfl,⟨h1,hb1⟩,hsrc1⟩;obtain ⟨hB,v,hbk,hown,hne⟩ := h1;have c0 : w1.cell? ⟨b,0,none⟩ = some (.pointer (some ⟨b,0,none⟩)) := by rw [Lib.cell_of_heap hbk];rfl
 have c1 : w1.cell? ⟨b,1,none⟩ = some v := by rw [Lib.cell_of_heap hbk];rfl
 go_wp2_with (at_builtin;refine wpList_append_own _ rfl _ _ 40 rfl B 5 i0 (.int .u8 0) 1 1 Tryz.underlying40 hi hz0 hz1 hz2 rfl (by decide) _ _ _ rfl hown ⟨g0,0,none⟩ 1 cap0 [.int .u8 c] rfl rfl ?c1 ?c2 ?c3 ?c4 ?c5 ?_)
 case c1 =>
  intro j u hj
  match j,hj with
  | 0,hj => simp at hj;subst hj;simpa [Addr.add] using hsrc1
 case c2 => intro u hu;simp at hu;subst hu;rfl
 case c3 => unfold maxLen;omega
 case c4 => omega
 case c5 => have := hb1.size;omega
 intro v' w2 hown' hgrow _
 have hlt : b < w1.heap.size := by
  rcases Nat.lt_or_ge b w1.heap.size with h' | h'
  · exact h'
  simp [Array.getElem?_eq_none h'] at hbk
 have hb2 : w2.heap[b]? = some (.cells #[.pointer (some ⟨b,0,none⟩),v] 195 (0,0)) := by
  rw [hgrow.block b hlt (fun e => hne e.symm)];exact hbk
 have d0 : w2.cell? ⟨b,0,none⟩ = some (.pointer (some ⟨b,0,none⟩)) := by rw [Lib.cell_of_heap hb2];rfl
 have d1 : w2.cell? ⟨b,1,none⟩ = some v := by rw [Lib.cell_of_heap hb2];rfl
 have f1 : w2.frozen? ⟨b,1,none⟩ = false := Lib.frozen_of_heap hb2 1
 obtain ⟨g,cap,rfl⟩ : ∃ g cap,v' = .slice (some ⟨g,0,none⟩) (bs.length + 1) cap := by
  rcases hown'.2 with ⟨_,h0⟩ | ⟨g,cap,cur,hv,_⟩
  · omega
  exact ⟨g,cap,hv⟩
 go_wp2;go_ret2;refine ⟨rfl,?_,?_⟩
 · exact Lib.BuilderAt.put (T := 195) (e := 5) hB hb2 (bs' := bs ++ [.int .u8 c]) (by simpa using hown') (by decide)
 · exact (hb1.grown hgrow (by have := hb1.size;omega) (fun k hk => (hown.lt k hk).1)).setCell (p := ⟨b,1,none⟩) hB _
end Go.Proofs.YtcpijmbdibgdmaaGreatDoor
namespace Go.Proofs.YtcpijmbdibgdmaaGreatDoor
open Go.RowKit
attribute [local go_sem] ba_get store_flt
theorem byteCells_snocs (bs t : List UInt8) : Lib.byteCells (bs ++ t) = Lib.byteCells bs ++ Lib.byteCells t := by simp [Lib.byteCells]
theorem isB_belowE {B b : Nat} {bs : List Value} {w0 w : World} (h0 : Lib.IsBuilder 195 5 B b bs w0) (hw : Below w0.heap.size w0 w) : Lib.IsBuilder 195 5 B b bs w := by
 have key : ∀ p,Lib.BuilderAt 195 5 B b p bs w0 → Lib.BuilderAt 195 5 B b p bs w := fun p ⟨hB,v,hbk,hown,hne⟩ => by
  have hlt : b < w0.heap.size := by
   rcases Nat.lt_or_ge b w0.heap.size with h' | h'
   · exact h'
   simp [Array.getElem?_eq_none h'] at hbk
  refine ⟨hB,v,(hw.block b hlt).trans hbk,?_,hne⟩;refine World.ownsRow.kept (row := none) hown ⟨hw.os,hw.tape,hw.output,hw.size,fun k hk _ => hw.block k hk⟩ ?_;rcases v.ownBlock with _ | k
  · exact .inl rfl
  right;simp
 rcases h0 with h | h
 · exact .inl (key _ h)
 exact .inr (key _ h)
theorem needs_any (b : UInt8) (w : World) : Calls Tryz.prog 280 #[.int .u8 b.toNat] w fun e w' => e = .returned (.bool (needB b)) ∧ w' = w := by
 have hb := UInt8.toNat_lt b;obtain ⟨n,hn⟩ : ∃ n,n = b.toNat := ⟨_,rfl⟩
 have e : needB b = (decide (n < 33 ∨ 126 < n) || decide (n = 40 ∨ n = 41 ∨ n = 60 ∨ n = 62 ∨ n = 91 ∨ n = 93 ∨ n = 123 ∨ n = 125 ∨ n = 47 ∨ n = 37) || n == 35) := by
  rw [hn];rfl
 rw [e,← hn];rw [← hn] at hb;clear e hn;by_cases h1 : n = 40 ∨ n = 41 ∨ n = 60 ∨ n = 62 ∨ n = 91 ∨ n = 93 ∨ n = 123 ∨ n = 125 ∨ n = 47 ∨ n = 37 ∨ n = 35
 · rcases h1 with rfl | rfl | rfl | rfl | rfl | rfl | rfl | rfl | rfl | rfl | rfl
   all_goals
    go_enter Tryz.func280,Tryz.ntmps280;go_wp2_with fail;go_ret;exact ⟨ret_bool (by decide),rfl⟩
 have q1 : ((n : Int) == 40) = false := by rw [beq_eq_false_iff_ne];omega
 have q2 : ((n : Int) == 41) = false := by rw [beq_eq_false_iff_ne];omega
 have q3 : ((n : Int) == 60) = false := by rw [beq_eq_false_iff_ne];omega
 have q4 : ((n : Int) == 62) = false := by rw [beq_eq_false_iff_ne];omega
 have q5 : ((n : Int) == 91) = false := by rw [beq_eq_false_iff_ne];omega
 have q6 : ((n : Int) == 93) = false := by rw [beq_eq_false_iff_ne];omega
 have q7 : ((n : Int) == 123) = false := by rw [beq_eq_false_iff_ne];omega
 have q8 : ((n : Int) == 125) = false := by rw [beq_eq_false_iff_ne];omega
 have q9 : ((n : Int) == 47) = false := by rw [beq_eq_false_iff_ne];omega
 have q10 : ((n : Int) == 37) = false := by rw [beq_eq_false_iff_ne];omega
 have q11 : ((n : Int) == 35) = false := by rw [beq_eq_false_iff_ne];omega
 have H1 := Lib.hid h1;clear h1;by_cases h2 : n < 33
 · have t2 : decide ((n : Int) < 33) = true := by rw [decide_eq_true_eq];omega
   have H2 := Lib.hid h2;clear h2;go_enter Tryz.func280,Tryz.ntmps280;go_wp2_with fail;go_ret;have h2 := H2.out;exact ⟨ret_bool (by simp [h2]),rfl⟩
 have t2 : decide ((n : Int) < 33) = false := by rw [decide_eq_false_iff_not];omega
 by_cases h3 : 126 < n
 · have t3 : decide ((126 : Int) < (n : Int)) = true := by rw [decide_eq_true_eq];omega
   have H3 := Lib.hid h3;clear h3 h2;go_enter Tryz.func280,Tryz.ntmps280;go_wp2_with fail;go_ret;have h3 := H3.out;exact ⟨ret_bool (by simp [h3]),rfl⟩
 have t3 : decide ((126 : Int) < (n : Int)) = false := by rw [decide_eq_false_iff_not];omega
 have H3 := Lib.hid h3;have H2 := Lib.hid h2;clear h3 h2;go_enter Tryz.func280,Tryz.ntmps280;go_wp2_with fail;go_ret;have h1 := H1.out;have h2 := H2.out;have h3 := H3.out;exact ⟨ret_bool (by simp;omega),rfl⟩
theorem hx_enc (c : UInt8) : Lib.Hx.encode [c] = [hexd (c.toNat / 16),hexd (c.toNat % 16)] := by
 have h : ∀ n,n < 16 → Lib.Hx.digit n = hexd n := by decide
 have hc := UInt8.toNat_lt c;rw [Lib.Hx.encode_cons,h _ (by omega),h _ (by omega)];rfl
theorem encB_take {t : List UInt8} {i : Nat} (h : i < t.length) : encB (t.take (i + 1)) = encB (t.take i) ++ (if needB t[i] = true then [35,hexd (t[i].toNat / 16),hexd (t[i].toNat % 16)] else [t[i]]) := by
 rw [List.take_succ_eq_append_getElem h];unfold encB;rw [List.flatMap_append];simp
theorem encB_len (t : List UInt8) : (encB t).length ≤ 3 * t.length := by
 induction t with
 | nil => simp [encB]
 | cons a t ih =>
   have : encB (a :: t) = (if needB a = true then [35,hexd (a.toNat / 16),hexd (a.toNat % 16)] else [a]) ++ encB t := rfl;rw [this,List.length_append,List.length_cons];split <;> simp <;> omega
theorem cell_new1 (w : World) (v : Value) : (w.alloc (.cells #[v] 5)).cell? ⟨w.heap.size,0 + 0,none⟩ = some v := (Blk.newAt w 5 #[v] _ rfl).cell 0
theorem strCells_list (l : List UInt8) : Lib.strCells ⟨l.toArray⟩ = Lib.byteCells l := by rw [Lib.strCells_eq]
theorem enc_any (t : List UInt8) (w : World) (ht : t.length ≤ 1048576) : Calls Tryz.prog 270 #[S t] w fun e w' => e = .returned (S (encB t)) ∧ Below w.heap.size w w' := by
 obtain ⟨fin,hfin⟩ : ∃ fin,fin = encB t := ⟨_,rfl⟩;rw [← hfin];have Hfin := Lib.hid hfin;clear hfin;go_enter Tryz.func270,Tryz.ntmps270;go_wp2_with fail;obtain ⟨B,hB⟩ : ∃ B,B = w.heap.size := ⟨_,rfl⟩;have hB0 : Below B w (w.alloc (.cells #[.pointer none,.slice none 0 0] 195)) := by rw [hB];exact (Below.refl _ w).alloc (Nat.le_refl _) _
 have hI0 : Lib.IsBuilder 195 5 B B (Lib.byteCells []) (w.alloc (.cells #[.pointer none,.slice none 0 0] 195)) := by rw [hB];exact Lib.fresh_isBuilder 195 5 w
 have HB := Lib.hid hB;rw [← hB];clear hB
 go_loopg [3,5] t.length (fun g s3 s5 wr => ∃ (rp : Bool) (i : Nat) (bs : List UInt8),s3 = .bool rp ∧ s5 = .int .i64 i ∧ i + g = t.length ∧ Below B w wr ∧ Lib.IsBuilder 195 5 B B (Lib.byteCells bs) wr ∧ Hid (if rp = true then bs = encB (t.take i) else bs = [] ∧ encB (t.take i) = t.take i))
 case atStart => exact ⟨false,0,[],rfl,rfl,by omega,hB0,hI0,Lib.hid (by simp [encB])⟩
 case round =>
  clear hB0 hI0;obtain ⟨rp,i,bs,rfl,rfl,hg,hBw,hIB,H⟩ := hrel;by_cases hi : i < t.length
  · have ti : i < t.length := hi;have hsz := hBw.size;have hbB := hIB;have hen := encB_take hi;have hel := encB_len (t.take i);rw [List.length_take] at hel;obtain ⟨c,hc⟩ : ∃ c,c = t[i] := ⟨_,rfl⟩;have hcn : (c.toNat : Int) = (t[i].toNat : Int) := by rw [hc]
    rw [← hc] at hen;have Hc := Lib.hid hc;have hneeds := fun w => needs_any c w
    rw [hcn] at hneeds;clear hc;go_wp2_with fail;refine (hneeds _).mono ?_;rintro e w2 ⟨rfl,rfl⟩;clear hneeds
    cases hnb : needB c with
    | false =>
      rw [hnb,if_neg (by simp)] at hen
      cases rp with
      | false =>
        have h := H.out;rw [if_neg (by simp)] at h;have Hn : Hid (bs = [] ∧ encB (t.take (i + 1)) = t.take (i + 1)) := Lib.hid ⟨h.1,by rw [hen,h.2,Hc.out,← List.take_succ_eq_append_getElem hi]⟩;clear h hen H;go_wp2_with fail
        go_roundg (t.length - (i + 1))
        case measure => omega
        case rel => exact ⟨false,i + 1,bs,rfl,by go_num,by omega,hBw,hIB,Lib.hid Hn.out⟩
      | true =>
        have h := H.out;rw [if_pos rfl] at h;have Hn : Hid (bs ++ [c] = encB (t.take (i + 1))) := Lib.hid (by rw [hen,h]);have hbl : bs.length + 1 ≤ 140737488355328 := by rw [h];omega
        clear h hen H;go_wp2_with fail;refine (writeByte_any B B (Lib.byteCells bs) ((t[i].toNat : Nat) : Int) _ hIB (by rw [Lib.byteCells_length];exact hbl) (by rw [HB.out];exact hsz)).mono ?_;rintro e w3 ⟨rfl,h2,h3⟩;go_wp2_with fail
        go_roundg (t.length - (i + 1))
        case measure => omega
        case rel => exact ⟨true,i + 1,bs ++ [c],rfl,by go_num,by omega,hBw.trans h3,.inr (by rw [byteCells_snocs];rw [Hc.out];exact h2),Lib.hid Hn.out⟩
    | true =>
      rw [hnb,if_pos rfl] at hen;have hBs : B ≤ w2.heap.size := by rw [HB.out];exact hsz
      cases rp with
      | false =>
        have h := H.out;rw [if_neg (by simp)] at h;have Hn : Hid (if True then t.take i ++ [35] ++ [hexd (c.toNat / 16),hexd (c.toNat % 16)] = encB (t.take (i + 1)) else bs = [] ∧ encB (t.take (i + 1)) = t.take (i + 1)) := Lib.hid (by rw [if_pos trivial,hen,h.2];simp);have hbs := h.1;subst hbs;have hil : (t.take i).length ≤ 1048576 := by rw [List.length_take];omega
        have hbl : (t.take i).length + 1 ≤ 140737488355328 := by omega
        have hbl2 : (t.take i).length + [35].length + (⟨[hexd (c.toNat / 16),hexd (c.toNat % 16)].toArray⟩ : ByteArray).size ≤ 140737488355328 := by
         have : (⟨[hexd (c.toNat / 16),hexd (c.toNat % 16)].toArray⟩ : ByteArray).size = 2 := rfl;rw [this];simp only [List.length_cons,List.length_nil];omega
        clear h hen H;go_wp2_with fail;refine (writeString_any B B (Lib.byteCells []) _ _ hIB (by simp only [Lib.byteCells_length,ByteArray.extract_mk];show _ + List.length _ ≤ _;rw [List.length_take];simp;omega) hBs).mono ?_;rintro e w3 ⟨rfl,h3,hb3⟩
        have hI3 : Lib.IsBuilder 195 5 B B (Lib.byteCells (t.take i)) w3 := .inr (by
         have e5 : Lib.byteCells [] ++ Lib.strCells ((ByteArray.mk t.toArray).extract 0 i) = Lib.byteCells (t.take i) := by
          rw [ByteArray.extract_mk,Lib.strCells_eq]
          simp [Lib.byteCells]
         rw [← e5];exact h3)
        have hB3 := hBw.trans hb3;have hs3 : B ≤ w3.heap.size := by rw [HB.out];exact hB3.size
        clear h3 hb3 hIB;go_wp2_with fail;refine (writeByte_any B B (Lib.byteCells (t.take i)) 35 _ hI3 (by rw [Lib.byteCells_length];exact hbl) hs3).mono ?_;rintro e w4 ⟨rfl,h4,hb4⟩;have hI4 : Lib.IsBuilder 195 5 B B (Lib.byteCells (t.take i ++ [35])) w4 := .inr (by rw [byteCells_snocs];exact h4);have hB4 : Below B w w4 := (hB3).trans hb4;clear h4 hb4;go_wp2_with fail;refine (Tryz.hex_EncodeToString_bytes w4.heap.size 0 1 [c] _ (fun j hj => ?_) (by simp) (by simp)).mono ?_
        · have hj0 : j = 0 := by simpa using hj
          subst hj0;rw [cell_new1];simp [hcn]
        rintro e w5 ⟨rfl,hb5⟩;rw [hx_enc];have hb45 : Below w4.heap.size w4 w5 := ((Below.refl _ w4).alloc (Nat.le_refl _) _).trans (hb5.mono (by simp));have hI5 := isB_belowE hI4 hb45;have hB5 : Below B w w5 := hB4.trans (hb45.mono (by rw [HB.out];exact hB4.size));have hsz5 : B ≤ w5.heap.size := by rw [HB.out];exact hB5.size
        clear hb45 hb5 hI4 hB4;go_wp2_with fail;refine (writeString_any B B (Lib.byteCells (t.take i ++ [35])) _ _ hI5 (by rw [Lib.byteCells_length,List.length_append];exact hbl2) hsz5).mono ?_;rintro e w6 ⟨rfl,h6,hb6⟩;go_wp2_with fail
        go_roundg (t.length - (i + 1))
        case measure => omega
        case rel => exact ⟨true,i + 1,_,rfl,by go_num,by omega,hB5.trans hb6,.inr (by rw [byteCells_snocs,← strCells_list];exact h6),Hn⟩
      | true =>
        have h := H.out;rw [if_pos rfl] at h;have Hn : Hid (if True then bs ++ [35] ++ [hexd (c.toNat / 16),hexd (c.toNat % 16)] = encB (t.take (i + 1)) else bs = [] ∧ encB (t.take (i + 1)) = t.take (i + 1)) := Lib.hid (by rw [if_pos trivial,hen,h];simp);have hil : bs.length ≤ 3145728 := by rw [h];omega
        have hbl : bs.length + 1 ≤ 140737488355328 := by omega
        have hbl2 : bs.length + [35].length + (⟨[hexd (c.toNat / 16),hexd (c.toNat % 16)].toArray⟩ : ByteArray).size ≤ 140737488355328 := by
         have : (⟨[hexd (c.toNat / 16),hexd (c.toNat % 16)].toArray⟩ : ByteArray).size = 2 := rfl;rw [this];simp only [List.length_cons,List.length_nil];omega
        clear h hen H;go_wp2_with fail;refine (writeByte_any B B (Lib.byteCells (bs)) 35 _ hIB (by rw [Lib.byteCells_length];exact hbl) hBs).mono ?_;rintro e w4 ⟨rfl,h4,hb4⟩;have hI4 : Lib.IsBuilder 195 5 B B (Lib.byteCells (bs ++ [35])) w4 := .inr (by rw [byteCells_snocs];exact h4);have hB4 : Below B w w4 := (hBw).trans hb4;clear h4 hb4;go_wp2_with fail;refine (Tryz.hex_EncodeToString_bytes w4.heap.size 0 1 [c] _ (fun j hj => ?_) (by simp) (by simp)).mono ?_
        · have hj0 : j = 0 := by simpa using hj
          subst hj0;rw [cell_new1];simp [hcn]
        rintro e w5 ⟨rfl,hb5⟩;rw [hx_enc];have hb45 : Below w4.heap.size w4 w5 := ((Below.refl _ w4).alloc (Nat.le_refl _) _).trans (hb5.mono (by simp));have hI5 := isB_belowE hI4 hb45;have hB5 : Below B w w5 := hB4.trans (hb45.mono (by rw [HB.out];exact hB4.size));have hsz5 : B ≤ w5.heap.size := by rw [HB.out];exact hB5.size
        clear hb45 hb5 hI4 hB4;go_wp2_with fail;refine (writeString_any B B (Lib.byteCells (bs ++ [35])) _ _ hI5 (by rw [Lib.byteCells_length,List.length_append];exact hbl2) hsz5).mono ?_;rintro e w6 ⟨rfl,h6,hb6⟩;go_wp2_with fail
        go_roundg (t.length - (i + 1))
        case measure => omega
        case rel => exact ⟨true,i + 1,_,rfl,by go_num,by omega,hB5.trans hb6,.inr (by rw [byteCells_snocs,← strCells_list];exact h6),Hn⟩
  have ti : ¬ i < t.length := hi;have hte : t.take i = t := List.take_of_length_le (by omega)
  cases rp with
  | false =>
    have h := H.out;rw [if_neg (by simp),hte] at h;have Hh := Lib.hid h;clear H h;go_wp2_with fail;go_ret;exact ⟨by rw [Hfin.out,Hh.out.2];rfl,by rw [← HB.out];exact hBw⟩
  | true =>
    have h := H.out;rw [if_pos rfl,hte] at h;have Hh := Lib.hid h;have hsz := hBw.size;clear H h;go_wp2_with fail;refine (Tryz.Builder_String_any B B bs _ hIB (by rw [HB.out];exact hsz)).mono ?_;rintro e w2 ⟨rfl,h3⟩;go_wp2_with fail;go_ret;exact ⟨by rw [Hfin.out,← Hh.out];rfl,by rw [← HB.out];exact hBw.trans h3⟩
end Go.Proofs.YtcpijmbdibgdmaaGreatDoor
namespace Go.Proofs.YtcpijmbdibgdmaaGreatDoor
open Go.RowKit
attribute [local go_sem] ba_get store_flt
theorem str_name (t : List UInt8) (w : World) (ht : t.length ≤ 1048576) : Calls Tryz.prog 273 #[S t] w fun e w' => e = .returned (S (47 :: (if t = [] then [32] else encB t))) ∧ Below w.heap.size w w' := by
 by_cases h0 : t = []
 · subst h0;go_enter Tryz.func273,Tryz.ntmps273;go_wp2_with fail;go_ret;exact ⟨rfl,Below.refl _ _⟩
 have hl : 0 < t.length := List.length_pos_iff.2 h0;have hcall := enc_any t w ht;have hel := encB_len t;rw [if_neg h0];obtain ⟨c,hc⟩ : ∃ c,c = encB t := ⟨_,rfl⟩;rw [← hc] at hcall hel ⊢;have Hc := Lib.hid hcall;have H0 := Lib.hid h0;have tl : decide ((0 : Int) < (t.length : Int)) = true := by rw [decide_eq_true_eq];omega
 clear hcall hc h0;go_enter Tryz.func273,Tryz.ntmps273;go_wp2_with fail;refine Hc.out.mono ?_;rintro e w2 ⟨rfl,hB⟩;go_wp2_with fail;go_ret;exact ⟨rfl,hB⟩
section
variable (FF : Nat → List UInt8)
mutual
def szP : PObj → Nat
 | .lit t => 1 + t.length
 | .hex t => 1 + t.length
 | .name t => 1 + t.length
 | .arr l => 1 + szL l
 | .dict ks l => 1 + (ks.map fun k => k.length + 1).sum + szL l
 | .null => 1
 | .bool _ => 1
 | .int _ => 1
 | .real _ => 1
 | .ref _ _ => 1
def szL : List PObj → Nat
 | [] => 0
 | p :: l => szP p + szL l
end
mutual
def PNum : PObj → Prop
 | .int n => -2147483648 ≤ n ∧ n ≤ 2147483647
 | .ref n g => (-2147483648 ≤ n ∧ n ≤ 2147483647) ∧ (-2147483648 ≤ g ∧ g ≤ 2147483647)
 | .real x => x < 18446744073709551616 ∧ feE x ≤ 1069 ∧ (FF x).length ≤ 80
 | .arr l => LNum l
 | .dict ks l => ks.length = l.length ∧ upB ks = true ∧ LNum l
 | _ => True
def LNum : List PObj → Prop
 | [] => True
 | p :: l => PNum p ∧ LNum l
end
end
variable {FF : Nat → List UInt8}
theorem LNum.at_ : ∀ {l : List PObj},LNum FF l → ∀ (i : Nat) (h : i < l.length),PNum FF l[i]
 | [],_,i,h => by simp at h
 | o :: l,hl,0,_ => by unfold LNum at hl;exact hl.1
 | o :: l,hl,i + 1,h => by unfold LNum at hl;exact LNum.at_ hl.2 i (by simpa using h)
theorem szL_at : ∀ {l : List PObj} (i : Nat) (h : i < l.length),szP l[i] ≤ szL l
 | [],i,h => by simp at h
 | o :: l,0,_ => by rw [szL];exact Nat.le_add_right _ _
 | o :: l,i + 1,h => by
   rw [szL];have := szL_at (l := l) i (by simpa using h);exact Nat.le_trans this (Nat.le_add_left _ _)
mutual
theorem print_len : ∀ (p : PObj),PNum FF p → (printP FF p).length + 8 ≤ 96 * szP p
 | .null,_ => by simp [printP,szP]
 | .bool b,_ => by cases b <;> simp [printP,szP]
 | .int n,h => by
   unfold PNum at h;have := itoa_len h.1 h.2;rw [printP,szP];omega
 | .real x,h => by
   unfold PNum at h;rw [printP,szP];omega
 | .lit t,_ => by rw [printP,szP];simp;omega
 | .hex t,_ => by rw [printP,szP];simp;omega
 | .name t,_ => by
   rw [printP,szP];have := encB_len t;split <;> simp <;> omega
 | .ref n g,h => by
   unfold PNum at h;have h1 := itoa_len h.1.1 h.1.2;have h2 := itoa_len h.2.1 h.2.2;rw [printP,szP];simp;omega
 | .arr l,h => by
   unfold PNum at h;have := printA_len l h true;rw [printP,szP];simp;omega
 | .dict ks l,h => by
   unfold PNum at h;have := printD_len ks l h.2.2;rw [printP,szP];simp;omega
theorem printA_len : ∀ (l : List PObj),LNum FF l → ∀ first,(printA FF first l).length ≤ 96 * szL l
 | [],_,f => by rw [printA,szL];simp
 | p :: l,h,f => by
   unfold LNum at h;have h1 := print_len p h.1;have h2 := printA_len l h.2 false;have h3 : 1 ≤ szP p := by cases p <;> simp [szP] <;> omega
   rw [printA,szL];split <;> simp <;> omega
theorem printD_len : ∀ (ks : List (List UInt8)) (l : List PObj),LNum FF l → (printD FF ks l).length ≤ 96 * szL l + 96 * (ks.map fun k => k.length + 1).sum
 | _,[],_ => by rw [printD.eq_def];cases ‹List (List UInt8)› <;> simp
 | [],p :: l,_ => by rw [printD];simp
 | k :: ks,p :: l,h => by
   unfold LNum at h;have h1 := print_len p h.1;have h2 := printD_len ks l h.2;have h3 : 1 ≤ szP p := by cases p <;> simp [szP] <;> omega
   have h4 := encB_len k;rw [printD,szL,List.map_cons,List.sum_cons];split <;> simp <;> omega
end
end Go.Proofs.YtcpijmbdibgdmaaGreatDoor
namespace Go.Proofs.YtcpijmbdibgdmaaGreatDoor
open Go.RowKit
def kidsS : SVal → List SVal
 | .arr l => l
 | .dict _ l => l
 | _ => []
def keysS : SVal → List (List UInt8)
 | .dict ks _ => ks
 | _ => []
def kindS : SVal → Int
 | .null => 0 | .bool _ => 1 | .int _ => 2 | .real _ => 3 | .str _ => 4 | .name _ => 5 | .arr _ => 6 | .dict _ _ => 7 | .ref _ _ => 8
def numS : SVal → Int
 | .bool b => if b then 1 else 0 | .int n => n | .ref n _ => n | _ => 0
def genS : SVal → Int
 | .ref _ g => g | _ => 0
def realS : SVal → Nat
 | .real x => x | _ => 0
def textS : SVal → List UInt8
 | .str l => l | .name l => l | _ => []
def RowOf (w : World) (F : Nat → Prop) (vp : Option Addr) (l : List SVal) : Prop :=
 0 < l.length → ∃ g,vp = some ⟨g,0,none⟩ ∧ F g ∧ g < w.heap.size ∧ ∀ i (h : i < l.length),∃ c,c.length = 7 ∧ VRep w F l[i] c ∧ ∀ j,j < 7 → w.cell? ⟨g,i * 7 + j,none⟩ = c[j]?
theorem krep_at {w : World} {F : Nat → Prop} : ∀ {l : List SVal} {xs : List Value},KRep w F l xs → ∀ (i : Nat) (h : i < l.length),∃ c,c.length = 7 ∧ VRep w F l[i] c ∧ ∀ j,j < 7 → xs[i * 7 + j]? = c[j]?
 | [],_,_,i,h => by simp at h
 | o :: l,xs,hk,0,_ => by
   unfold KRep at hk;obtain ⟨c,ys,rfl,hc,h1,h2⟩ := hk;refine ⟨c,hc,h1,fun j hj => ?_⟩;rw [Nat.zero_mul,Nat.zero_add,List.getElem?_append_left (by omega)]
 | o :: l,xs,hk,i + 1,h => by
   unfold KRep at hk;obtain ⟨c,ys,rfl,hc,h1,h2⟩ := hk;obtain ⟨c',hc',h3,h4⟩ := krep_at h2 i (by simpa using h);refine ⟨c',hc',h3,fun j hj => ?_⟩;rw [← h4 j hj,List.getElem?_append_right (by omega)];congr 1;omega
theorem row_of {w : World} {F : Nat → Prop} {v : Value} {l : List SVal} {xs : List Value} (h : w.ownsRow 0 34 7 v l.length xs) (hF : ∀ g,v.ownBlock = some g → F g) (hk : KRep w F l xs) : ∃ vp vb,v = .slice vp l.length vb ∧ l.length ≤ vb ∧ vb ≤ maxLen ∧ RowOf w F vp l := by
 have hh := h;obtain ⟨hlen,h⟩ := h;rcases h with ⟨rfl,h0⟩ | ⟨g,cap,cur,rfl,_,hg,hn,hc,hs,ht⟩
 · exact ⟨none,0,by rw [h0],by omega,by unfold maxLen;omega,fun hp => by omega⟩
 refine ⟨_,cap,rfl,hn,hc,fun _ => ⟨g,rfl,hF g rfl,(World.ownsRow.lt hh g rfl).2,fun i hi => ?_⟩⟩;obtain ⟨c,hc7,h1,h2⟩ := krep_at hk i hi;refine ⟨c,hc7,h1,fun j hj => ?_⟩;rw [← h2 j hj];exact World.ownsRow.cellAt hh _ (by omega)
theorem keys_nil (w : World) (F : Nat → Prop) : KeysAt w F (.slice none 0 0) [] := ⟨none,0,rfl,Nat.le_refl _,fun h => by simp at h⟩
theorem row_nil (w : World) (F : Nat → Prop) : ∃ vp vb,(Value.slice none 0 0 : Value) = .slice vp ([] : List SVal).length vb ∧ ([] : List SVal).length ≤ vb ∧ vb ≤ maxLen ∧ RowOf w F vp [] := ⟨none,0,rfl,Nat.le_refl _,by unfold maxLen;omega,fun h => by simp at h⟩
theorem VRep.open_ {w : World} {F : Nat → Prop} {v : SVal} {c : List Value} (h : VRep w F v c) : ∃ k kv,c = sv7 (kindS v) (numS v) (genS v) (realS v) (textS v) k kv ∧ KeysAt w F k (keysS v) ∧ ∃ vp vb,kv = .slice vp (kidsS v).length vb ∧ (kidsS v).length ≤ vb ∧ vb ≤ maxLen ∧ RowOf w F vp (kidsS v) := by
 cases v with
 | null => unfold VRep at h;exact ⟨_,_,h,keys_nil w F,row_nil w F⟩
 | bool b => unfold VRep at h;exact ⟨_,_,h,keys_nil w F,row_nil w F⟩
 | int n => unfold VRep at h;exact ⟨_,_,h,keys_nil w F,row_nil w F⟩
 | real x => unfold VRep at h;exact ⟨_,_,h,keys_nil w F,row_nil w F⟩
 | str l => unfold VRep at h;exact ⟨_,_,h,keys_nil w F,row_nil w F⟩
 | name l => unfold VRep at h;exact ⟨_,_,h,keys_nil w F,row_nil w F⟩
 | ref n g => unfold VRep at h;exact ⟨_,_,h,keys_nil w F,row_nil w F⟩
 | arr l =>
   unfold VRep at h;obtain ⟨v,xs,h1,h2,h3,h4⟩ := h;exact ⟨_,_,h1,keys_nil w F,row_of h2 h3 h4⟩
 | dict ks l =>
   unfold VRep at h;obtain ⟨k,v,xs,h1,h5,h2,h3,h4⟩ := h;exact ⟨_,_,h1,h5,row_of h2 h3 h4⟩
mutual
def cntS : SVal → Nat
 | .arr l => 1 + cntSL l
 | .dict _ l => 1 + cntSL l
 | _ => 1
def cntSL : List SVal → Nat
 | [] => 0
 | v :: l => cntS v + cntSL l
end
mutual
def levS : SVal → Nat
 | .arr l => levSL l + 1
 | .dict _ l => levSL l + 1
 | _ => 1
def levSL : List SVal → Nat
 | [] => 0
 | v :: l => max (levS v) (levSL l)
end
theorem cntS_eq (v : SVal) : cntS v = 1 + cntSL (kidsS v) := by cases v <;> simp [cntS,kidsS,cntSL]
theorem levS_eq (v : SVal) : levS v = levSL (kidsS v) + 1 := by cases v <;> simp [levS,kidsS,levSL]
theorem cntSL_drop : ∀ (l : List SVal) (i : Nat) (h : i < l.length),cntSL (l.drop i) = cntS l[i] + cntSL (l.drop (i + 1))
 | [],i,h => by simp at h
 | v :: l,0,_ => by simp [cntSL]
 | v :: l,i + 1,h => by simpa using cntSL_drop l i (by simpa using h)
theorem levSL_drop : ∀ (l : List SVal) (i : Nat) (h : i < l.length),levSL (l.drop i) = max (levS l[i]) (levSL (l.drop (i + 1)))
 | [],i,h => by simp at h
 | v :: l,0,_ => by simp [levSL]
 | v :: l,i + 1,h => by simpa using levSL_drop l i (by simpa using h)
theorem levS_le : ∀ (n : Nat) (v : SVal),SizeOf.sizeOf v ≤ n → levS v ≤ cntS v := by
 intro n
 induction n with
 | zero => intro v h;cases v <;> simp at h
 | succ n ih =>
   intro v h;rw [levS_eq,cntS_eq]
   have : levSL (kidsS v) ≤ cntSL (kidsS v) := by
    have hs : ∀ u ∈ kidsS v,SizeOf.sizeOf u ≤ n := by
     intro u hu;cases v <;> simp only [kidsS,List.not_mem_nil] at hu
     all_goals
      have := List.sizeOf_lt_of_mem hu;simp at h;omega
    generalize kidsS v = l at hs
    induction l with
    | nil => simp [levSL,cntSL]
    | cons u l ih2 =>
      rw [levSL,cntSL];have h1 := ih u (hs u (by simp));have h2 := ih2 (fun x hx => hs x (by simp [hx]));omega
   omega
theorem kids_size {v : SVal} {i : Nat} (h : i < (kidsS v).length) : SizeOf.sizeOf (kidsS v)[i] < SizeOf.sizeOf v := by
 have hu := List.getElem_mem h;generalize (kidsS v)[i] = u at hu;cases v <;> simp only [kidsS,List.not_mem_nil] at hu
 all_goals
  have := List.sizeOf_lt_of_mem hu;simp;omega
end Go.Proofs.YtcpijmbdibgdmaaGreatDoor
