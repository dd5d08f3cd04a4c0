/-
  spec.Number: a number as it is written.
-/
import Derived.Test.YtcpijmbdibgdmaaGreatDoorMs02
set_option linter.all false
set_option maxHeartbeats 16000000
set_option maxRecDepth 100000
namespace Go.Proofs.YtcpijmbdibgdmaaGreatDoor
open Go.RowKit
attribute [local go_sem] ba_get store_flt
def cntM : List UInt8 → Nat → Nat → Nat → Option (Nat × Nat × Nat)
 | [],d,p,a => some (d,p,a)
 | b :: l,d,p,a => if digitB b = true then cntM l (d + 1) p (if p = 0 then a + 1 else a) else if b.toNat = 46 then cntM l d (p + 1) a else none
def unsign : List UInt8 → List UInt8
 | [] => []
 | b :: l => if b.toNat = 43 ∨ b.toNat = 45 then l else b :: l
theorem unsign_sign {t r : List UInt8} {b : UInt8} (h : t = b :: r) (hb : b.toNat = 43 ∨ b.toNat = 45) : unsign t = r := by rw [h,unsign,if_pos hb]
theorem unsign_plain {t r : List UInt8} {b : UInt8} (h : t = b :: r) (h1 : b.toNat ≠ 43) (h2 : b.toNat ≠ 45) : unsign t = t := by rw [h,unsign,if_neg (by omega)]
inductive NumOut where
 | refused
 | open_
 | real
 | int (n : Int)
def numM (t : List UInt8) : NumOut :=
 match cntM (unsign t) 0 0 0 with
 | none => .refused
 | some (d,p,a) =>
   if d = 0 ∨ 1 < p then .refused else if 14 < a ∨ 60 < d then .open_ else if p = 1 then .real
   else match Lib.atoiAll t with
    | .ok n => if 2147483647 < n ∨ n < -2147483648 then .open_ else .int n
    | _ => .open_
def vInt (n : Int) : Array Value := #[.int .i64 2,.int .i64 n,.int .i64 0,.float .f64 0,S [],.slice none 0 0,.slice none 0 0]
def vReal (x : Nat) : Array Value := #[.int .i64 3,.int .i64 0,.int .i64 0,.float .f64 x,S [],.slice none 0 0,.slice none 0 0]
def PFSaid (pf : List UInt8 → Nat) (W0 : World) : Prop := ∀ (t : List UInt8) (w : World),numM t = .real → t.length ≤ 268435456 → Below W0.heap.size W0 w →
 Calls Tryz.prog 84 #[S t,.int .i64 64] w fun e w' => e = .returned (.tuple #[.float .f64 (pf t),.nilIface]) ∧ Below w.heap.size w w'
def NumVal (pf : List UInt8 → Nat) (t : List UInt8) : NumOut → Value
 | .refused => .tuple #[.agg vZero,.int .i64 1]
 | .open_ => .tuple #[.agg vZero,.int .i64 2]
 | .real => .tuple #[.agg (vReal (pf t)),.int .i64 0]
 | .int n => .tuple #[.agg (vInt n),.int .i64 0]
theorem cntM_ahead : ∀ (l : List UInt8) (d p a : Nat) (d' a' : Nat),cntM l d p a = some (d',0,a') → p = 0 ∧ l.length + a = a' ∧ l.length + d = d' ∧ ∀ b ∈ l,48 ≤ b.toNat ∧ b.toNat ≤ 57
 | [],d,p,a,d',a',h => by
   simp [cntM] at h;obtain ⟨rfl,rfl,rfl⟩ := h;simp
 | b :: l,d,p,a,d',a',h => by
   rw [cntM] at h;split at h
   · rename_i hb;obtain ⟨hp,h1,h2,h3⟩ := cntM_ahead l _ _ _ _ _ h;subst hp;simp only [if_true] at h1;refine ⟨rfl,by simp;omega,by simp;omega,?_⟩;intro c hc;rcases List.mem_cons.1 hc with rfl | hc
     · simpa [digitB] using hb
     exact h3 c hc
   split at h
   · obtain ⟨hp,_⟩ := cntM_ahead l _ _ _ _ _ h;omega
   cases h
theorem parse_digits : ∀ (l : List UInt8) (acc k : Nat),(∀ b ∈ l,48 ≤ b.toNat ∧ b.toNat ≤ 57) → acc < 10 ^ k → l.length + k ≤ 18 → ∃ v,Lib.parseUint10 acc l = .ok v ∧ v < 1000000000000000000
 | [],acc,k,_,ha,hk => by
   have hp : 10 ^ k ≤ 10 ^ 18 := Nat.pow_le_pow_right (by decide) (by simpa using hk);have e18 : (10 : Nat) ^ 18 = 1000000000000000000 := by decide
   exact ⟨acc,rfl,by omega⟩
 | c :: r,acc,k,h,ha,hk => by
   have hk' : r.length + 1 + k ≤ 18 := by simpa using hk
   have hp : 10 ^ k ≤ 10 ^ 17 := Nat.pow_le_pow_right (by decide) (by omega);have e17 : (10 : Nat) ^ 17 = 100000000000000000 := by decide
   have hc := h c (by simp);obtain ⟨v,hv,hl⟩ := parse_digits r (acc * 10 + (c.toNat - 48)) (k + 1) (fun b hb => h b (by simp [hb])) (by rw [Nat.pow_succ];omega) (by omega);refine ⟨v,?_,hl⟩;rw [Lib.parseUint10,if_pos hc,if_neg (by omega),if_neg (by omega)];exact hv
theorem atoi_digits {t : List UInt8} {d a : Nat} (h : cntM (unsign t) 0 0 0 = some (d,0,a)) (hd : d ≠ 0) (ha : a ≤ 14) : ∃ n,Lib.atoiAll t = .ok n ∧ -9223372036854775808 ≤ n ∧ n ≤ 9223372036854775807 := by
 obtain ⟨_,h1,h2,h3⟩ := cntM_ahead _ _ _ _ _ _ h;obtain ⟨v,hv,hvl⟩ := parse_digits (unsign t) 0 0 h3 (by decide) (by omega)
 cases t with
 | nil => simp [unsign] at h2;omega
 | cons c r =>
   have hne : unsign (c :: r) ≠ [] := by intro e;rw [e] at h2;simp at h2;omega
   have hm : Lib.parseMag (unsign (c :: r)) = .ok v := by rw [Lib.parseMag,if_neg hne];exact hv
   have hu : (if c.toNat = 43 ∨ c.toNat = 45 then r else c :: r) = unsign (c :: r) := rfl;by_cases hc : c.toNat = 45
   · refine ⟨-(v : Int),?_,by omega,by omega⟩;simp only [Lib.atoiAll,hu,hm];rw [if_neg (by omega),if_neg (by omega),if_pos hc]
   refine ⟨(v : Int),?_,by omega,by omega⟩;simp only [Lib.atoiAll,hu,hm];rw [if_neg (by omega),if_neg (by omega),if_neg hc]
theorem grown_bytes (w : World) (e : TypeId) (s : ByteArray) (row : Option Nat) : w.grownBy (Lib.bytesWorld w e s) row := by
 unfold Lib.bytesWorld;refine ⟨?_,?_,?_,?_,?_⟩
 · rfl
 · rfl
 · rfl
 · simp [World.freeze]
 intro k hk _;simp only [World.freeze];rw [if_neg (by decide)];simp only [Array.getElem?_modify];rw [if_neg (by first | omega | (simp;omega))];exact Below.heap_alloc _ _ _ hk
theorem below_bytes (w : World) (e : TypeId) (s : ByteArray) : Below w.heap.size w (Lib.bytesWorld w e s) := by
 have h := grown_bytes w e s none;exact ⟨h.os,h.tape,h.output,h.size,fun k hk => h.block k hk (by simp)⟩
theorem atoi_any (t : List UInt8) (n : Int) (h : Lib.atoiAll t = .ok n) (hl : t.length ≤ 268435456) (w : World) :
 Calls Tryz.prog 34 #[S t] w fun e w' => e = .returned (.tuple #[.int .i64 n,.nilIface]) ∧ Below w.heap.size w w' := by
 refine (Go.Proofs.Tryz.strconv_Atoi_ok ⟨t.toArray⟩ (by show t.toArray.size ≤ _;simp;omega) n h w).mono ?_;rintro e w' ⟨he,hw⟩;refine ⟨he,?_⟩;rcases hw with rfl | ⟨x,rfl⟩
 · exact Below.refl _ _
 · exact below_bytes _ _ _
theorem res_cells {w : World} {g : Nat} {cs : Array Value} (h : Blk w g 34 cs) (hc : cs = vZero) :
 w.cell? ⟨g,0,none⟩ = some (.int .i64 0) ∧ w.cell? ⟨g,1,none⟩ = some (.int .i64 0) ∧ w.cell? ⟨g,2,none⟩ = some (.int .i64 0) ∧ w.cell? ⟨g,3,none⟩ = some (.float .f64 0) ∧
 w.cell? ⟨g,4,none⟩ = some (S []) ∧ w.cell? ⟨g,5,none⟩ = some (.slice none 0 0) ∧ w.cell? ⟨g,6,none⟩ = some (.slice none 0 0) := by
 subst hc;exact ⟨h.cell 0,h.cell 1,h.cell 2,h.cell 3,h.cell 4,h.cell 5,h.cell 6⟩
theorem number_any (pf : List UInt8 → Nat) (W0 : World) (hpf : PFSaid pf W0) (t : List UInt8) (w : World) (hs : t.length ≤ 268435456) (hW : Below W0.heap.size W0 w) :
 Calls Tryz.prog 75 #[S t] w fun e w' => e = .returned (NumVal pf t (numM t)) ∧ Below w.heap.size w w' := by
 obtain ⟨fin,hfin⟩ : ∃ fin,fin = numM t := ⟨_,rfl⟩;have Hf := Lib.hid hfin;rw [← hfin];clear hfin;have Hpf := Lib.hid hpf;have HW := Lib.hid hW;clear hpf hW;obtain ⟨cn,hcn⟩ : ∃ cn,cn = cntM (unsign t) 0 0 0 := ⟨_,rfl⟩;have Hc := Lib.hid hcn;clear hcn;by_cases hl0 : 0 < t.length
 · have tl0 : decide ((0 : Int) < (t.length : Int)) = true := by rw [decide_eq_true_eq];omega
   have U : Hid (t = t[0] :: t.drop 1) := Lib.hid (by have := drop_at hl0;simpa using this);by_cases h43 : t[0].toNat = 43
   · have t43 : ((t[0].toNat : Int) == 43) = true := by rw [beq_iff_eq];omega
     have U2 : Hid (unsign t = t.drop 1) := Lib.hid (unsign_sign U.out (.inl h43));clear h43;go_enter Tryz.func75,Tryz.ntmps75;go_wp2_with fail
     go_loopg [5,6,7,8] (t.length - 1) (fun g d p a k wr => ∃ kd kp ka kk : Nat,d = .int .i64 kd ∧ p = .int .i64 kp ∧ a = .int .i64 ka ∧ k = .int .i64 kk ∧ kk ≤ t.length ∧ g + kk = t.length ∧ kd ≤ kk ∧ kp ≤ kk ∧ ka ≤ kk ∧ Blk wr w.heap.size 34 vZero ∧ Below w.heap.size w wr ∧ cn = cntM (t.drop kk) kd kp ka)
     case atStart => exact ⟨0,0,0,1,rfl,rfl,rfl,rfl,by omega,by omega,by omega,by omega,by omega,Blk.new _ _ _,(Below.refl _ _).alloc (Nat.le_refl _) _,by rw [Hc.out,U2.out]⟩
     case round =>
      obtain ⟨kd,kp,ka,kk,rfl,rfl,rfl,rfl,hkl,hg,hd1,hp1,ha1,hZ,hB,A⟩ := hrel;have A := Lib.hid A;rename_i A0;clear A0;have hg := Lib.hid hg;rename_i hg0;clear hg0;by_cases hlt : kk < t.length
      · have tlt : decide ((kk : Int) < (t.length : Int)) = true := by rw [decide_eq_true_eq];omega
        cases hd : digitB t[kk] with
        | true =>
          have HD := Lib.hid hd;clear hd;by_cases hp0 : kp = 0
          · have tp : ((kp : Int) == 0) = true := by rw [beq_iff_eq];omega
            have HP := Lib.hid hp0;clear hp0;go_wp2_with (go_at_call 93;refine (digit_any t[kk] _).mono ?_;rintro e w6 ⟨rfl,rfl⟩;simp only [HD.out])
            go_roundg (gk - 1)
            case measure => have := hg.out;omega
            case rel =>
             refine ⟨kd + 1,kp,ka + 1,kk + 1,by go_num,rfl,by go_num,by go_num,by omega,by have := hg.out;omega,by omega,by omega,by omega,hZ,hB,?_⟩;rw [A.out,drop_at hlt,cntM,if_pos HD.out,if_pos HP.out]
          have tp : ((kp : Int) == 0) = false := by rw [beq_eq_false_iff_ne];omega
          go_wp2_with (go_at_call 93;refine (digit_any t[kk] _).mono ?_;rintro e w6 ⟨rfl,rfl⟩;simp only [HD.out])
          go_roundg (gk - 1)
          case measure => have := hg.out;omega
          case rel =>
           refine ⟨kd + 1,kp,ka,kk + 1,by go_num,rfl,rfl,by go_num,by omega,by have := hg.out;omega,by omega,by omega,by omega,hZ,hB,?_⟩;rw [A.out,drop_at hlt,cntM,if_pos HD.out,if_neg hp0]
        | false =>
          have HD := Lib.hid hd;clear hd;by_cases h46 : t[kk].toNat = 46
          · have t46 : ((t[kk].toNat : Int) == 46) = true := by rw [beq_iff_eq];omega
            have H46 := Lib.hid h46;clear h46;go_wp2_with (go_at_call 93;refine (digit_any t[kk] _).mono ?_;rintro e w6 ⟨rfl,rfl⟩;simp only [HD.out])
            go_roundg (gk - 1)
            case measure => have := hg.out;omega
            case rel =>
             refine ⟨kd,kp + 1,ka,kk + 1,rfl,by go_num,rfl,by go_num,by omega,by have := hg.out;omega,by omega,by omega,by omega,hZ,hB,?_⟩;rw [A.out,drop_at hlt,cntM,if_neg (by simp [HD.out]),if_pos H46.out]
          have t46 : ((t[kk].toNat : Int) == 46) = false := by rw [beq_eq_false_iff_ne];omega
          have E : Hid (fin = .refused) := Lib.hid (by rw [Hf.out,numM,← Hc.out,A.out,drop_at hlt,cntM,if_neg (by simp [HD.out]),if_neg h46]);obtain ⟨z0,z1,z2,z3,z4,z5,z6⟩ := res_cells hZ rfl;have y0 := hZ.frozen 0;have y1 := hZ.frozen 1;have y2 := hZ.frozen 2;have y3 := hZ.frozen 3;have y4 := hZ.frozen 4;have y5 := hZ.frozen 5;have y6 := hZ.frozen 6;go_wp2_with (go_at_call 93;refine (digit_any t[kk] _).mono ?_;rintro e w6 ⟨rfl,rfl⟩;simp only [HD.out]);refine bodyPost_ret (v := .tuple #[.agg (vZero),.int .i64 1]) (by simp [results,Tryz.results75,go_sem,vZero,vReal,vInt,z0,z1,z2,z3,z4,z5,z6]) rfl ?_;refine ⟨?_,(by repeat first | with_reducible exact hB | refine Below.setCell ?_ (by simp) _)⟩;rw [E.out];rfl
      have tlt : decide ((kk : Int) < (t.length : Int)) = false := by rw [decide_eq_false_iff_not];omega
      have A2 : Hid (cn = some (kd,kp,ka)) := Lib.hid (by rw [A.out,List.drop_eq_nil_of_le (by omega),cntM]);clear A;obtain ⟨z0,z1,z2,z3,z4,z5,z6⟩ := res_cells hZ rfl;have y0 := hZ.frozen 0;have y1 := hZ.frozen 1;have y2 := hZ.frozen 2;have y3 := hZ.frozen 3;have y4 := hZ.frozen 4;have y5 := hZ.frozen 5;have y6 := hZ.frozen 6;by_cases hd0 : kd = 0
      · have td : ((kd : Int) == 0) = true := by rw [beq_iff_eq];omega
        have E : Hid (fin = .refused) := Lib.hid (by rw [Hf.out,numM,← Hc.out,A2.out];simp [hd0]);clear hd0;go_wp2_with fail;refine bodyPost_ret (v := .tuple #[.agg (vZero),.int .i64 1]) (by simp [results,Tryz.results75,go_sem,vZero,vReal,vInt,z0,z1,z2,z3,z4,z5,z6]) rfl ?_;refine ⟨?_,(by repeat first | with_reducible exact hB | refine Below.setCell ?_ (by simp) _)⟩;rw [E.out];rfl
      have td : ((kd : Int) == 0) = false := by rw [beq_eq_false_iff_ne];omega
      by_cases hp2 : 1 < kp
      · have tp : decide ((1 : Int) < (kp : Int)) = true := by rw [decide_eq_true_eq];omega
        have E : Hid (fin = .refused) := Lib.hid (by rw [Hf.out,numM,← Hc.out,A2.out];simp [hp2]);go_wp2_with fail;refine bodyPost_ret (v := .tuple #[.agg (vZero),.int .i64 1]) (by simp [results,Tryz.results75,go_sem,vZero,vReal,vInt,z0,z1,z2,z3,z4,z5,z6]) rfl ?_;refine ⟨?_,(by repeat first | with_reducible exact hB | refine Below.setCell ?_ (by simp) _)⟩;rw [E.out];rfl
      have tp : decide ((1 : Int) < (kp : Int)) = false := by rw [decide_eq_false_iff_not];omega
      by_cases ha14 : 14 < ka
      · have ta : decide ((14 : Int) < (ka : Int)) = true := by rw [decide_eq_true_eq];omega
        have E : Hid (fin = .open_) := Lib.hid (by rw [Hf.out,numM,← Hc.out,A2.out];simp [hd0,hp2,ha14]);go_wp2_with fail;refine bodyPost_ret (v := .tuple #[.agg (vZero),.int .i64 2]) (by simp [results,Tryz.results75,go_sem,vZero,vReal,vInt,z0,z1,z2,z3,z4,z5,z6]) rfl ?_;refine ⟨?_,(by repeat first | with_reducible exact hB | refine Below.setCell ?_ (by simp) _)⟩;rw [E.out];rfl
      have ta : decide ((14 : Int) < (ka : Int)) = false := by rw [decide_eq_false_iff_not];omega
      by_cases hd60 : 60 < kd
      · have td6 : decide ((60 : Int) < (kd : Int)) = true := by rw [decide_eq_true_eq];omega
        have E : Hid (fin = .open_) := Lib.hid (by rw [Hf.out,numM,← Hc.out,A2.out];simp [hd0,hp2,hd60]);go_wp2_with fail;refine bodyPost_ret (v := .tuple #[.agg (vZero),.int .i64 2]) (by simp [results,Tryz.results75,go_sem,vZero,vReal,vInt,z0,z1,z2,z3,z4,z5,z6]) rfl ?_;refine ⟨?_,(by repeat first | with_reducible exact hB | refine Below.setCell ?_ (by simp) _)⟩;rw [E.out];rfl
      have td6 : decide ((60 : Int) < (kd : Int)) = false := by rw [decide_eq_false_iff_not];omega
      by_cases hp1e : kp = 1
      · have tp1 : ((kp : Int) == 1) = true := by rw [beq_iff_eq];omega
        have E : Hid (fin = .real) := Lib.hid (by rw [Hf.out,numM,← Hc.out,A2.out];simp [hd0,hp1e,ha14,hd60]);clear hp1e;go_wp2_with fail;refine (Hpf.out t _ (by rw [← Hf.out];exact E.out) hs (HW.out.trans (hB.mono HW.out.size))).mono ?_;rintro e w1 ⟨rfl,hB1⟩;clear z0 z1 z2 z3 z4 z5 z6 y0 y1 y2 y3 y4 y5 y6;have hZ1 : Blk w1 w.heap.size 34 vZero := Blk.below hZ hB1 (Blk.lt hZ);have hB2 : Below w.heap.size w w1 := hB.trans (hB1.mono hB.size);clear hZ hB hB1;have hZ := hZ1;have hB := hB2;clear hZ1 hB2;obtain ⟨z0,z1,z2,z3,z4,z5,z6⟩ := res_cells hZ rfl;have y0 := hZ.frozen 0;have y1 := hZ.frozen 1;have y2 := hZ.frozen 2;have y3 := hZ.frozen 3;have y4 := hZ.frozen 4;have y5 := hZ.frozen 5;have y6 := hZ.frozen 6;go_wp2_with fail;refine bodyPost_ret (v := .tuple #[.agg (vReal (pf t)),.int .i64 0]) (by simp [results,Tryz.results75,go_sem,vZero,vReal,vInt,z0,z1,z2,z3,z4,z5,z6]) rfl ?_;refine ⟨?_,(by repeat first | with_reducible exact hB | refine Below.setCell ?_ (by simp) _)⟩;rw [E.out];rfl
      have tp1 : ((kp : Int) == 1) = false := by rw [beq_eq_false_iff_ne];omega
      obtain ⟨n,hn,hn1,hn2⟩ : ∃ n,Lib.atoiAll t = .ok n ∧ -9223372036854775808 ≤ n ∧ n ≤ 9223372036854775807 := by
       have hk0 : kp = 0 := by omega
       have := A2.out;rw [Hc.out,hk0] at this;exact atoi_digits this hd0 (by omega)
      have HN := Lib.hid hn;clear hn;have hk0 : kp ≠ 1 := hp1e;go_wp2_with fail;refine (atoi_any t n HN.out hs _).mono ?_;rintro e w1 ⟨rfl,hB1⟩;clear z0 z1 z2 z3 z4 z5 z6 y0 y1 y2 y3 y4 y5 y6;have hZ1 : Blk w1 w.heap.size 34 vZero := Blk.below hZ hB1 (Blk.lt hZ);have hB2 : Below w.heap.size w w1 := hB.trans (hB1.mono hB.size);clear hZ hB hB1;have hZ := hZ1;have hB := hB2;clear hZ1 hB2;obtain ⟨z0,z1,z2,z3,z4,z5,z6⟩ := res_cells hZ rfl;have y0 := hZ.frozen 0;have y1 := hZ.frozen 1;have y2 := hZ.frozen 2;have y3 := hZ.frozen 3;have y4 := hZ.frozen 4;have y5 := hZ.frozen 5;have y6 := hZ.frozen 6;by_cases hbig : 2147483647 < n
      · have tb : decide (2147483647 < n) = true := by rw [decide_eq_true_eq];exact hbig
        have E : Hid (fin = .open_) := Lib.hid (by rw [Hf.out,numM,← Hc.out,A2.out];simp [hd0,hp2,ha14,hd60,hk0,HN.out,hbig]);go_wp2_with fail;refine bodyPost_ret (v := .tuple #[.agg (vZero),.int .i64 2]) (by simp [results,Tryz.results75,go_sem,vZero,vReal,vInt,z0,z1,z2,z3,z4,z5,z6]) rfl ?_;refine ⟨?_,(by repeat first | with_reducible exact hB | refine Below.setCell ?_ (by simp) _)⟩;rw [E.out];rfl
      have tb : decide (2147483647 < n) = false := by rw [decide_eq_false_iff_not];exact hbig
      by_cases hsml : n < -2147483648
      · have tb2 : decide (n < -2147483648) = true := by rw [decide_eq_true_eq];exact hsml
        have E : Hid (fin = .open_) := Lib.hid (by rw [Hf.out,numM,← Hc.out,A2.out];simp [hd0,hp2,ha14,hd60,hk0,HN.out,hsml]);go_wp2_with fail;refine bodyPost_ret (v := .tuple #[.agg (vZero),.int .i64 2]) (by simp [results,Tryz.results75,go_sem,vZero,vReal,vInt,z0,z1,z2,z3,z4,z5,z6]) rfl ?_;refine ⟨?_,(by repeat first | with_reducible exact hB | refine Below.setCell ?_ (by simp) _)⟩;rw [E.out];rfl
      have tb2 : decide (n < -2147483648) = false := by rw [decide_eq_false_iff_not];exact hsml
      have E : Hid (fin = .int n) := Lib.hid (by rw [Hf.out,numM,← Hc.out,A2.out];simp [hd0,hp2,ha14,hd60,hk0,HN.out,hbig,hsml]);go_wp2_with fail;refine bodyPost_ret (v := .tuple #[.agg (vInt n),.int .i64 0]) (by simp [results,Tryz.results75,go_sem,vZero,vReal,vInt,z0,z1,z2,z3,z4,z5,z6]) rfl ?_;refine ⟨?_,(by repeat first | with_reducible exact hB | refine Below.setCell ?_ (by simp) _)⟩;rw [E.out];rfl
   have t43 : ((t[0].toNat : Int) == 43) = false := by rw [beq_eq_false_iff_ne];omega
   by_cases h45 : t[0].toNat = 45
   · have t45 : ((t[0].toNat : Int) == 45) = true := by rw [beq_iff_eq];omega
     have U2 : Hid (unsign t = t.drop 1) := Lib.hid (unsign_sign U.out (.inr h45));clear h45;go_enter Tryz.func75,Tryz.ntmps75;go_wp2_with fail
     go_loopg [5,6,7,8] (t.length - 1) (fun g d p a k wr => ∃ kd kp ka kk : Nat,d = .int .i64 kd ∧ p = .int .i64 kp ∧ a = .int .i64 ka ∧ k = .int .i64 kk ∧ kk ≤ t.length ∧ g + kk = t.length ∧ kd ≤ kk ∧ kp ≤ kk ∧ ka ≤ kk ∧ Blk wr w.heap.size 34 vZero ∧ Below w.heap.size w wr ∧ cn = cntM (t.drop kk) kd kp ka)
     case atStart => exact ⟨0,0,0,1,rfl,rfl,rfl,rfl,by omega,by omega,by omega,by omega,by omega,Blk.new _ _ _,(Below.refl _ _).alloc (Nat.le_refl _) _,by rw [Hc.out,U2.out]⟩
     case round =>
      obtain ⟨kd,kp,ka,kk,rfl,rfl,rfl,rfl,hkl,hg,hd1,hp1,ha1,hZ,hB,A⟩ := hrel;have A := Lib.hid A;rename_i A0;clear A0;have hg := Lib.hid hg;rename_i hg0;clear hg0;by_cases hlt : kk < t.length
      · have tlt : decide ((kk : Int) < (t.length : Int)) = true := by rw [decide_eq_true_eq];omega
        cases hd : digitB t[kk] with
        | true =>
          have HD := Lib.hid hd;clear hd;by_cases hp0 : kp = 0
          · have tp : ((kp : Int) == 0) = true := by rw [beq_iff_eq];omega
            have HP := Lib.hid hp0;clear hp0;go_wp2_with (go_at_call 93;refine (digit_any t[kk] _).mono ?_;rintro e w6 ⟨rfl,rfl⟩;simp only [HD.out])
            go_roundg (gk - 1)
            case measure => have := hg.out;omega
            case rel =>
             refine ⟨kd + 1,kp,ka + 1,kk + 1,by go_num,rfl,by go_num,by go_num,by omega,by have := hg.out;omega,by omega,by omega,by omega,hZ,hB,?_⟩;rw [A.out,drop_at hlt,cntM,if_pos HD.out,if_pos HP.out]
          have tp : ((kp : Int) == 0) = false := by rw [beq_eq_false_iff_ne];omega
          go_wp2_with (go_at_call 93;refine (digit_any t[kk] _).mono ?_;rintro e w6 ⟨rfl,rfl⟩;simp only [HD.out])
          go_roundg (gk - 1)
          case measure => have := hg.out;omega
          case rel =>
           refine ⟨kd + 1,kp,ka,kk + 1,by go_num,rfl,rfl,by go_num,by omega,by have := hg.out;omega,by omega,by omega,by omega,hZ,hB,?_⟩;rw [A.out,drop_at hlt,cntM,if_pos HD.out,if_neg hp0]
        | false =>
          have HD := Lib.hid hd;clear hd;by_cases h46 : t[kk].toNat = 46
          · have t46 : ((t[kk].toNat : Int) == 46) = true := by rw [beq_iff_eq];omega
            have H46 := Lib.hid h46;clear h46;go_wp2_with (go_at_call 93;refine (digit_any t[kk] _).mono ?_;rintro e w6 ⟨rfl,rfl⟩;simp only [HD.out])
            go_roundg (gk - 1)
            case measure => have := hg.out;omega
            case rel =>
             refine ⟨kd,kp + 1,ka,kk + 1,rfl,by go_num,rfl,by go_num,by omega,by have := hg.out;omega,by omega,by omega,by omega,hZ,hB,?_⟩;rw [A.out,drop_at hlt,cntM,if_neg (by simp [HD.out]),if_pos H46.out]
          have t46 : ((t[kk].toNat : Int) == 46) = false := by rw [beq_eq_false_iff_ne];omega
          have E : Hid (fin = .refused) := Lib.hid (by rw [Hf.out,numM,← Hc.out,A.out,drop_at hlt,cntM,if_neg (by simp [HD.out]),if_neg h46]);obtain ⟨z0,z1,z2,z3,z4,z5,z6⟩ := res_cells hZ rfl;have y0 := hZ.frozen 0;have y1 := hZ.frozen 1;have y2 := hZ.frozen 2;have y3 := hZ.frozen 3;have y4 := hZ.frozen 4;have y5 := hZ.frozen 5;have y6 := hZ.frozen 6;go_wp2_with (go_at_call 93;refine (digit_any t[kk] _).mono ?_;rintro e w6 ⟨rfl,rfl⟩;simp only [HD.out]);refine bodyPost_ret (v := .tuple #[.agg (vZero),.int .i64 1]) (by simp [results,Tryz.results75,go_sem,vZero,vReal,vInt,z0,z1,z2,z3,z4,z5,z6]) rfl ?_;refine ⟨?_,(by repeat first | with_reducible exact hB | refine Below.setCell ?_ (by simp) _)⟩;rw [E.out];rfl
      have tlt : decide ((kk : Int) < (t.length : Int)) = false := by rw [decide_eq_false_iff_not];omega
      have A2 : Hid (cn = some (kd,kp,ka)) := Lib.hid (by rw [A.out,List.drop_eq_nil_of_le (by omega),cntM]);clear A;obtain ⟨z0,z1,z2,z3,z4,z5,z6⟩ := res_cells hZ rfl;have y0 := hZ.frozen 0;have y1 := hZ.frozen 1;have y2 := hZ.frozen 2;have y3 := hZ.frozen 3;have y4 := hZ.frozen 4;have y5 := hZ.frozen 5;have y6 := hZ.frozen 6;by_cases hd0 : kd = 0
      · have td : ((kd : Int) == 0) = true := by rw [beq_iff_eq];omega
        have E : Hid (fin = .refused) := Lib.hid (by rw [Hf.out,numM,← Hc.out,A2.out];simp [hd0]);clear hd0;go_wp2_with fail;refine bodyPost_ret (v := .tuple #[.agg (vZero),.int .i64 1]) (by simp [results,Tryz.results75,go_sem,vZero,vReal,vInt,z0,z1,z2,z3,z4,z5,z6]) rfl ?_;refine ⟨?_,(by repeat first | with_reducible exact hB | refine Below.setCell ?_ (by simp) _)⟩;rw [E.out];rfl
      have td : ((kd : Int) == 0) = false := by rw [beq_eq_false_iff_ne];omega
      by_cases hp2 : 1 < kp
      · have tp : decide ((1 : Int) < (kp : Int)) = true := by rw [decide_eq_true_eq];omega
        have E : Hid (fin = .refused) := Lib.hid (by rw [Hf.out,numM,← Hc.out,A2.out];simp [hp2]);go_wp2_with fail;refine bodyPost_ret (v := .tuple #[.agg (vZero),.int .i64 1]) (by simp [results,Tryz.results75,go_sem,vZero,vReal,vInt,z0,z1,z2,z3,z4,z5,z6]) rfl ?_;refine ⟨?_,(by repeat first | with_reducible exact hB | refine Below.setCell ?_ (by simp) _)⟩;rw [E.out];rfl
      have tp : decide ((1 : Int) < (kp : Int)) = false := by rw [decide_eq_false_iff_not];omega
      by_cases ha14 : 14 < ka
      · have ta : decide ((14 : Int) < (ka : Int)) = true := by rw [decide_eq_true_eq];omega
        have E : Hid (fin = .open_) := Lib.hid (by rw [Hf.out,numM,← Hc.out,A2.out];simp [hd0,hp2,ha14]);go_wp2_with fail;refine bodyPost_ret (v := .tuple #[.agg (vZero),.int .i64 2]) (by simp [results,Tryz.results75,go_sem,vZero,vReal,vInt,z0,z1,z2,z3,z4,z5,z6]) rfl ?_;refine ⟨?_,(by repeat first | with_reducible exact hB | refine Below.setCell ?_ (by simp) _)⟩;rw [E.out];rfl
      have ta : decide ((14 : Int) < (ka : Int)) = false := by rw [decide_eq_false_iff_not];omega
      by_cases hd60 : 60 < kd
      · have td6 : decide ((60 : Int) < (kd : Int)) = true := by rw [decide_eq_true_eq];omega
        have E : Hid (fin = .open_) := Lib.hid (by rw [Hf.out,numM,← Hc.out,A2.out];simp [hd0,hp2,hd60]);go_wp2_with fail;refine bodyPost_ret (v := .tuple #[.agg (vZero),.int .i64 2]) (by simp [results,Tryz.results75,go_sem,vZero,vReal,vInt,z0,z1,z2,z3,z4,z5,z6]) rfl ?_;refine ⟨?_,(by repeat first | with_reducible exact hB | refine Below.setCell ?_ (by simp) _)⟩;rw [E.out];rfl
      have td6 : decide ((60 : Int) < (kd : Int)) = false := by rw [decide_eq_false_iff_not];omega
      by_cases hp1e : kp = 1
      · have tp1 : ((kp : Int) == 1) = true := by rw [beq_iff_eq];omega
        have E : Hid (fin = .real) := Lib.hid (by rw [Hf.out,numM,← Hc.out,A2.out];simp [hd0,hp1e,ha14,hd60]);clear hp1e;go_wp2_with fail;refine (Hpf.out t _ (by rw [← Hf.out];exact E.out) hs (HW.out.trans (hB.mono HW.out.size))).mono ?_;rintro e w1 ⟨rfl,hB1⟩;clear z0 z1 z2 z3 z4 z5 z6 y0 y1 y2 y3 y4 y5 y6;have hZ1 : Blk w1 w.heap.size 34 vZero := Blk.below hZ hB1 (Blk.lt hZ);have hB2 : Below w.heap.size w w1 := hB.trans (hB1.mono hB.size);clear hZ hB hB1;have hZ := hZ1;have hB := hB2;clear hZ1 hB2;obtain ⟨z0,z1,z2,z3,z4,z5,z6⟩ := res_cells hZ rfl;have y0 := hZ.frozen 0;have y1 := hZ.frozen 1;have y2 := hZ.frozen 2;have y3 := hZ.frozen 3;have y4 := hZ.frozen 4;have y5 := hZ.frozen 5;have y6 := hZ.frozen 6;go_wp2_with fail;refine bodyPost_ret (v := .tuple #[.agg (vReal (pf t)),.int .i64 0]) (by simp [results,Tryz.results75,go_sem,vZero,vReal,vInt,z0,z1,z2,z3,z4,z5,z6]) rfl ?_;refine ⟨?_,(by repeat first | with_reducible exact hB | refine Below.setCell ?_ (by simp) _)⟩;rw [E.out];rfl
      have tp1 : ((kp : Int) == 1) = false := by rw [beq_eq_false_iff_ne];omega
      obtain ⟨n,hn,hn1,hn2⟩ : ∃ n,Lib.atoiAll t = .ok n ∧ -9223372036854775808 ≤ n ∧ n ≤ 9223372036854775807 := by
       have hk0 : kp = 0 := by omega
       have := A2.out;rw [Hc.out,hk0] at this;exact atoi_digits this hd0 (by omega)
      have HN := Lib.hid hn;clear hn;have hk0 : kp ≠ 1 := hp1e;go_wp2_with fail;refine (atoi_any t n HN.out hs _).mono ?_;rintro e w1 ⟨rfl,hB1⟩;clear z0 z1 z2 z3 z4 z5 z6 y0 y1 y2 y3 y4 y5 y6;have hZ1 : Blk w1 w.heap.size 34 vZero := Blk.below hZ hB1 (Blk.lt hZ);have hB2 : Below w.heap.size w w1 := hB.trans (hB1.mono hB.size);clear hZ hB hB1;have hZ := hZ1;have hB := hB2;clear hZ1 hB2;obtain ⟨z0,z1,z2,z3,z4,z5,z6⟩ := res_cells hZ rfl;have y0 := hZ.frozen 0;have y1 := hZ.frozen 1;have y2 := hZ.frozen 2;have y3 := hZ.frozen 3;have y4 := hZ.frozen 4;have y5 := hZ.frozen 5;have y6 := hZ.frozen 6;by_cases hbig : 2147483647 < n
      · have tb : decide (2147483647 < n) = true := by rw [decide_eq_true_eq];exact hbig
        have E : Hid (fin = .open_) := Lib.hid (by rw [Hf.out,numM,← Hc.out,A2.out];simp [hd0,hp2,ha14,hd60,hk0,HN.out,hbig]);go_wp2_with fail;refine bodyPost_ret (v := .tuple #[.agg (vZero),.int .i64 2]) (by simp [results,Tryz.results75,go_sem,vZero,vReal,vInt,z0,z1,z2,z3,z4,z5,z6]) rfl ?_;refine ⟨?_,(by repeat first | with_reducible exact hB | refine Below.setCell ?_ (by simp) _)⟩;rw [E.out];rfl
      have tb : decide (2147483647 < n) = false := by rw [decide_eq_false_iff_not];exact hbig
      by_cases hsml : n < -2147483648
      · have tb2 : decide (n < -2147483648) = true := by rw [decide_eq_true_eq];exact hsml
        have E : Hid (fin = .open_) := Lib.hid (by rw [Hf.out,numM,← Hc.out,A2.out];simp [hd0,hp2,ha14,hd60,hk0,HN.out,hsml]);go_wp2_with fail;refine bodyPost_ret (v := .tuple #[.agg (vZero),.int .i64 2]) (by simp [results,Tryz.results75,go_sem,vZero,vReal,vInt,z0,z1,z2,z3,z4,z5,z6]) rfl ?_;refine ⟨?_,(by repeat first | with_reducible exact hB | refine Below.setCell ?_ (by simp) _)⟩;rw [E.out];rfl
      have tb2 : decide (n < -2147483648) = false := by rw [decide_eq_false_iff_not];exact hsml
      have E : Hid (fin = .int n) := Lib.hid (by rw [Hf.out,numM,← Hc.out,A2.out];simp [hd0,hp2,ha14,hd60,hk0,HN.out,hbig,hsml]);go_wp2_with fail;refine bodyPost_ret (v := .tuple #[.agg (vInt n),.int .i64 0]) (by simp [results,Tryz.results75,go_sem,vZero,vReal,vInt,z0,z1,z2,z3,z4,z5,z6]) rfl ?_;refine ⟨?_,(by repeat first | with_reducible exact hB | refine Below.setCell ?_ (by simp) _)⟩;rw [E.out];rfl
   have t45 : ((t[0].toNat : Int) == 45) = false := by rw [beq_eq_false_iff_ne];omega
   have U2 : Hid (unsign t = t.drop 0) := Lib.hid (by rw [List.drop_zero];exact unsign_plain U.out h43 h45);go_enter Tryz.func75,Tryz.ntmps75;go_wp2_with fail
   go_loopg [5,6,7,8] (t.length - 0) (fun g d p a k wr => ∃ kd kp ka kk : Nat,d = .int .i64 kd ∧ p = .int .i64 kp ∧ a = .int .i64 ka ∧ k = .int .i64 kk ∧ kk ≤ t.length ∧ g + kk = t.length ∧ kd ≤ kk ∧ kp ≤ kk ∧ ka ≤ kk ∧ Blk wr w.heap.size 34 vZero ∧ Below w.heap.size w wr ∧ cn = cntM (t.drop kk) kd kp ka)
   case atStart => exact ⟨0,0,0,0,rfl,rfl,rfl,rfl,by omega,by omega,by omega,by omega,by omega,Blk.new _ _ _,(Below.refl _ _).alloc (Nat.le_refl _) _,by rw [Hc.out,U2.out]⟩
   case round =>
    obtain ⟨kd,kp,ka,kk,rfl,rfl,rfl,rfl,hkl,hg,hd1,hp1,ha1,hZ,hB,A⟩ := hrel;have A := Lib.hid A;rename_i A0;clear A0;have hg := Lib.hid hg;rename_i hg0;clear hg0;by_cases hlt : kk < t.length
    · have tlt : decide ((kk : Int) < (t.length : Int)) = true := by rw [decide_eq_true_eq];omega
      cases hd : digitB t[kk] with
      | true =>
        have HD := Lib.hid hd;clear hd;by_cases hp0 : kp = 0
        · have tp : ((kp : Int) == 0) = true := by rw [beq_iff_eq];omega
          have HP := Lib.hid hp0;clear hp0;go_wp2_with (go_at_call 93;refine (digit_any t[kk] _).mono ?_;rintro e w6 ⟨rfl,rfl⟩;simp only [HD.out])
          go_roundg (gk - 1)
          case measure => have := hg.out;omega
          case rel =>
           refine ⟨kd + 1,kp,ka + 1,kk + 1,by go_num,rfl,by go_num,by go_num,by omega,by have := hg.out;omega,by omega,by omega,by omega,hZ,hB,?_⟩;rw [A.out,drop_at hlt,cntM,if_pos HD.out,if_pos HP.out]
        have tp : ((kp : Int) == 0) = false := by rw [beq_eq_false_iff_ne];omega
        go_wp2_with (go_at_call 93;refine (digit_any t[kk] _).mono ?_;rintro e w6 ⟨rfl,rfl⟩;simp only [HD.out])
        go_roundg (gk - 1)
        case measure => have := hg.out;omega
        case rel =>
         refine ⟨kd + 1,kp,ka,kk + 1,by go_num,rfl,rfl,by go_num,by omega,by have := hg.out;omega,by omega,by omega,by omega,hZ,hB,?_⟩;rw [A.out,drop_at hlt,cntM,if_pos HD.out,if_neg hp0]
      | false =>
        have HD := Lib.hid hd;clear hd;by_cases h46 : t[kk].toNat = 46
        · have t46 : ((t[kk].toNat : Int) == 46) = true := by rw [beq_iff_eq];omega
          have H46 := Lib.hid h46;clear h46;go_wp2_with (go_at_call 93;refine (digit_any t[kk] _).mono ?_;rintro e w6 ⟨rfl,rfl⟩;simp only [HD.out])
          go_roundg (gk - 1)
          case measure => have := hg.out;omega
          case rel =>
           refine ⟨kd,kp + 1,ka,kk + 1,rfl,by go_num,rfl,by go_num,by omega,by have := hg.out;omega,by omega,by omega,by omega,hZ,hB,?_⟩;rw [A.out,drop_at hlt,cntM,if_neg (by simp [HD.out]),if_pos H46.out]
        have t46 : ((t[kk].toNat : Int) == 46) = false := by rw [beq_eq_false_iff_ne];omega
        have E : Hid (fin = .refused) := Lib.hid (by rw [Hf.out,numM,← Hc.out,A.out,drop_at hlt,cntM,if_neg (by simp [HD.out]),if_neg h46]);obtain ⟨z0,z1,z2,z3,z4,z5,z6⟩ := res_cells hZ rfl;have y0 := hZ.frozen 0;have y1 := hZ.frozen 1;have y2 := hZ.frozen 2;have y3 := hZ.frozen 3;have y4 := hZ.frozen 4;have y5 := hZ.frozen 5;have y6 := hZ.frozen 6;go_wp2_with (go_at_call 93;refine (digit_any t[kk] _).mono ?_;rintro e w6 ⟨rfl,rfl⟩;simp only [HD.out]);refine bodyPost_ret (v := .tuple #[.agg (vZero),.int .i64 1]) (by simp [results,Tryz.results75,go_sem,vZero,vReal,vInt,z0,z1,z2,z3,z4,z5,z6]) rfl ?_;refine ⟨?_,(by repeat first | with_reducible exact hB | refine Below.setCell ?_ (by simp) _)⟩;rw [E.out];rfl
    have tlt : decide ((kk : Int) < (t.length : Int)) = false := by rw [decide_eq_false_iff_not];omega
    have A2 : Hid (cn = some (kd,kp,ka)) := Lib.hid (by rw [A.out,List.drop_eq_nil_of_le (by omega),cntM]);clear A;obtain ⟨z0,z1,z2,z3,z4,z5,z6⟩ := res_cells hZ rfl;have y0 := hZ.frozen 0;have y1 := hZ.frozen 1;have y2 := hZ.frozen 2;have y3 := hZ.frozen 3;have y4 := hZ.frozen 4;have y5 := hZ.frozen 5;have y6 := hZ.frozen 6;by_cases hd0 : kd = 0
    · have td : ((kd : Int) == 0) = true := by rw [beq_iff_eq];omega
      have E : Hid (fin = .refused) := Lib.hid (by rw [Hf.out,numM,← Hc.out,A2.out];simp [hd0]);clear hd0;go_wp2_with fail;refine bodyPost_ret (v := .tuple #[.agg (vZero),.int .i64 1]) (by simp [results,Tryz.results75,go_sem,vZero,vReal,vInt,z0,z1,z2,z3,z4,z5,z6]) rfl ?_;refine ⟨?_,(by repeat first | with_reducible exact hB | refine Below.setCell ?_ (by simp) _)⟩;rw [E.out];rfl
    have td : ((kd : Int) == 0) = false := by rw [beq_eq_false_iff_ne];omega
    by_cases hp2 : 1 < kp
    · have tp : decide ((1 : Int) < (kp : Int)) = true := by rw [decide_eq_true_eq];omega
      have E : Hid (fin = .refused) := Lib.hid (by rw [Hf.out,numM,← Hc.out,A2.out];simp [hp2]);go_wp2_with fail;refine bodyPost_ret (v := .tuple #[.agg (vZero),.int .i64 1]) (by simp [results,Tryz.results75,go_sem,vZero,vReal,vInt,z0,z1,z2,z3,z4,z5,z6]) rfl ?_;refine ⟨?_,(by repeat first | with_reducible exact hB | refine Below.setCell ?_ (by simp) _)⟩;rw [E.out];rfl
    have tp : decide ((1 : Int) < (kp : Int)) = false := by rw [decide_eq_false_iff_not];omega
    by_cases ha14 : 14 < ka
    · have ta : decide ((14 : Int) < (ka : Int)) = true := by rw [decide_eq_true_eq];omega
      have E : Hid (fin = .open_) := Lib.hid (by rw [Hf.out,numM,← Hc.out,A2.out];simp [hd0,hp2,ha14]);go_wp2_with fail;refine bodyPost_ret (v := .tuple #[.agg (vZero),.int .i64 2]) (by simp [results,Tryz.results75,go_sem,vZero,vReal,vInt,z0,z1,z2,z3,z4,z5,z6]) rfl ?_;refine ⟨?_,(by repeat first | with_reducible exact hB | refine Below.setCell ?_ (by simp) _)⟩;rw [E.out];rfl
    have ta : decide ((14 : Int) < (ka : Int)) = false := by rw [decide_eq_false_iff_not];omega
    by_cases hd60 : 60 < kd
    · have td6 : decide ((60 : Int) < (kd : Int)) = true := by rw [decide_eq_true_eq];omega
      have E : Hid (fin = .open_) := Lib.hid (by rw [Hf.out,numM,← Hc.out,A2.out];simp [hd0,hp2,hd60]);go_wp2_with fail;refine bodyPost_ret (v := .tuple #[.agg (vZero),.int .i64 2]) (by simp [results,Tryz.results75,go_sem,vZero,vReal,vInt,z0,z1,z2,z3,z4,z5,z6]) rfl ?_;refine ⟨?_,(by repeat first | with_reducible exact hB | refine Below.setCell ?_ (by simp) _)⟩;rw [E.out];rfl
    have td6 : decide ((60 : Int) < (kd : Int)) = false := by rw [decide_eq_false_iff_not];omega
    by_cases hp1e : kp = 1
    · have tp1 : ((kp : Int) == 1) = true := by rw [beq_iff_eq];omega
      have E : Hid (fin = .real) := Lib.hid (by rw [Hf.out,numM,← Hc.out,A2.out];simp [hd0,hp1e,ha14,hd60]);clear hp1e;go_wp2_with fail;refine (Hpf.out t _ (by rw [← Hf.out];exact E.out) hs (HW.out.trans (hB.mono HW.out.size))).mono ?_;rintro e w1 ⟨rfl,hB1⟩;clear z0 z1 z2 z3 z4 z5 z6 y0 y1 y2 y3 y4 y5 y6;have hZ1 : Blk w1 w.heap.size 34 vZero := Blk.below hZ hB1 (Blk.lt hZ);have hB2 : Below w.heap.size w w1 := hB.trans (hB1.mono hB.size);clear hZ hB hB1;have hZ := hZ1;have hB := hB2;clear hZ1 hB2;obtain ⟨z0,z1,z2,z3,z4,z5,z6⟩ := res_cells hZ rfl;have y0 := hZ.frozen 0;have y1 := hZ.frozen 1;have y2 := hZ.frozen 2;have y3 := hZ.frozen 3;have y4 := hZ.frozen 4;have y5 := hZ.frozen 5;have y6 := hZ.frozen 6;go_wp2_with fail;refine bodyPost_ret (v := .tuple #[.agg (vReal (pf t)),.int .i64 0]) (by simp [results,Tryz.results75,go_sem,vZero,vReal,vInt,z0,z1,z2,z3,z4,z5,z6]) rfl ?_;refine ⟨?_,(by repeat first | with_reducible exact hB | refine Below.setCell ?_ (by simp) _)⟩;rw [E.out];rfl
    have tp1 : ((kp : Int) == 1) = false := by rw [beq_eq_false_iff_ne];omega
    obtain ⟨n,hn,hn1,hn2⟩ : ∃ n,Lib.atoiAll t = .ok n ∧ -9223372036854775808 ≤ n ∧ n ≤ 9223372036854775807 := by
     have hk0 : kp = 0 := by omega
     have := A2.out;rw [Hc.out,hk0] at this;exact atoi_digits this hd0 (by omega)
    have HN := Lib.hid hn;clear hn;have hk0 : kp ≠ 1 := hp1e;go_wp2_with fail;refine (atoi_any t n HN.out hs _).mono ?_;rintro e w1 ⟨rfl,hB1⟩;clear z0 z1 z2 z3 z4 z5 z6 y0 y1 y2 y3 y4 y5 y6;have hZ1 : Blk w1 w.heap.size 34 vZero := Blk.below hZ hB1 (Blk.lt hZ);have hB2 : Below w.heap.size w w1 := hB.trans (hB1.mono hB.size);clear hZ hB hB1;have hZ := hZ1;have hB := hB2;clear hZ1 hB2;obtain ⟨z0,z1,z2,z3,z4,z5,z6⟩ := res_cells hZ rfl;have y0 := hZ.frozen 0;have y1 := hZ.frozen 1;have y2 := hZ.frozen 2;have y3 := hZ.frozen 3;have y4 := hZ.frozen 4;have y5 := hZ.frozen 5;have y6 := hZ.frozen 6;by_cases hbig : 2147483647 < n
    · have tb : decide (2147483647 < n) = true := by rw [decide_eq_true_eq];exact hbig
      have E : Hid (fin = .open_) := Lib.hid (by rw [Hf.out,numM,← Hc.out,A2.out];simp [hd0,hp2,ha14,hd60,hk0,HN.out,hbig]);go_wp2_with fail;refine bodyPost_ret (v := .tuple #[.agg (vZero),.int .i64 2]) (by simp [results,Tryz.results75,go_sem,vZero,vReal,vInt,z0,z1,z2,z3,z4,z5,z6]) rfl ?_;refine ⟨?_,(by repeat first | with_reducible exact hB | refine Below.setCell ?_ (by simp) _)⟩;rw [E.out];rfl
    have tb : decide (2147483647 < n) = false := by rw [decide_eq_false_iff_not];exact hbig
    by_cases hsml : n < -2147483648
    · have tb2 : decide (n < -2147483648) = true := by rw [decide_eq_true_eq];exact hsml
      have E : Hid (fin = .open_) := Lib.hid (by rw [Hf.out,numM,← Hc.out,A2.out];simp [hd0,hp2,ha14,hd60,hk0,HN.out,hsml]);go_wp2_with fail;refine bodyPost_ret (v := .tuple #[.agg (vZero),.int .i64 2]) (by simp [results,Tryz.results75,go_sem,vZero,vReal,vInt,z0,z1,z2,z3,z4,z5,z6]) rfl ?_;refine ⟨?_,(by repeat first | with_reducible exact hB | refine Below.setCell ?_ (by simp) _)⟩;rw [E.out];rfl
    have tb2 : decide (n < -2147483648) = false := by rw [decide_eq_false_iff_not];exact hsml
    have E : Hid (fin = .int n) := Lib.hid (by rw [Hf.out,numM,← Hc.out,A2.out];simp [hd0,hp2,ha14,hd60,hk0,HN.out,hbig,hsml]);go_wp2_with fail;refine bodyPost_ret (v := .tuple #[.agg (vInt n),.int .i64 0]) (by simp [results,Tryz.results75,go_sem,vZero,vReal,vInt,z0,z1,z2,z3,z4,z5,z6]) rfl ?_;refine ⟨?_,(by repeat first | with_reducible exact hB | refine Below.setCell ?_ (by simp) _)⟩;rw [E.out];rfl
 · have ht : t = [] := List.eq_nil_of_length_eq_zero (by omega);have E : Hid (fin = .refused) := Lib.hid (by rw [Hf.out,ht];rfl);clear hl0;subst ht;go_enter Tryz.func75,Tryz.ntmps75;go_wp2_with fail;refine wp_loop_rounds 1 ?_;rw [rounds_succ];go_wp2_with fail;refine bodyPost_ret (v := .tuple #[.agg vZero,.int .i64 1]) (by simp [results,Tryz.results75,go_sem,vZero]) rfl ?_;refine ⟨by rw [E.out];rfl,?_⟩
   repeat first | exact Below.refl _ _ | refine Below.alloc ?_ (Nat.le_refl _) _ | refine Below.setCell ?_ (by simp) _
end Go.Proofs.YtcpijmbdibgdmaaGreatDoor
