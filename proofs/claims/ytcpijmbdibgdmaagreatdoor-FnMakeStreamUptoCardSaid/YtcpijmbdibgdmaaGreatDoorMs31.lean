/-
  The law of MakeStream, walked.
  The arguments of the law, opened.
  strconv.ParseFloat: of a decimal number with a point.
-/
import Derived.Test.YtcpijmbdibgdmaaGreatDoorMs23
import Derived.Test.YtcpijmbdibgdmaaGreatDoorMs26
import Derived.Test.YtcpijmbdibgdmaaGreatDoorMs30
import Derived.Test.YtcpijmbdibgdmaaGreatDoorRows
import Derived.ChangeArms
import Derived.ChangeShapes
import Derived.ProofKit
set_option linter.all false
set_option maxHeartbeats 16000000
set_option maxRecDepth 100000
namespace Go.Proofs.YtcpijmbdibgdmaaGreatDoor
open Go.RowKit
attribute [local go_sem] ba_get store_flt
theorem objL_snoc {tw : Nat → Bool} : ∀ {l : List OObj} {q : List PObj} {o : OObj} {p : PObj},objL tw l = some q → objM tw o = some p → objL tw (l ++ [o]) = some (q ++ [p])
 | [],q,o,p,h,hp => by rw [objL] at h;injection h with h;subst h;rw [List.nil_append,objL,hp,objL];rfl
 | a :: l,q,o,p,h,hp => by
   rw [objL] at h;rw [List.cons_append,objL]
   cases ho : objM tw a with
   | none => rw [ho] at h;cases h
   | some pa =>
     rw [ho] at h
     cases hl : objL tw l with
     | none => rw [hl] at h;cases h
     | some ql =>
       rw [hl] at h;injection h with h;subst h;rw [objL_snoc hl hp];rfl
theorem texts_catT (FF : Nat → List UInt8) : ∀ l : List PObj,catT (l.map fun p => printP FF p ++ [10]) = textsB FF l
 | [] => rfl
 | p :: l => by
   have ih := texts_catT FF l;unfold catT at ih ⊢;rw [List.map_cons,List.flatten_cons,ih,textsB];simp
theorem headL_at : ∀ (ns : List Nat) (ts : List (List UInt8)) (k i : Nat) (hi : i < ns.length) (ht : i < ts.length) (h : i < (headL ns ts k).length),(headL ns ts k)[i] = ((((ns[i] : Nat) : Int),k + (catT (ts.take i)).length) : Int × Nat)
 | n :: ns,t :: ts,k,0,_,_,_ => by simp [headL,catT]
 | n :: ns,t :: ts,k,i + 1,hi,ht,h => by
   have := headL_at ns ts (k + t.length) i (by simpa using hi) (by simpa using ht) (by simpa [headL] using h);simp only [headL,List.getElem_cons_succ];rw [this];simp [catT,Nat.add_assoc]
 | [],_,_,i,hi,_,_ => by simp at hi
 | _ :: _,[],_,i,_,ht,_ => by simp at ht
theorem texts_len {FF : Nat → List UInt8} : ∀ l : List PObj,LNum FF l → (textsB FF l).length ≤ 96 * szL l
 | [],_ => by simp [textsB]
 | p :: l,h => by
   unfold LNum at h;have h1 := print_len p h.1;have h2 := texts_len l h.2;rw [textsB,szL,List.length_append,List.length_cons];omega
structure L1 (w wr : World) (FF : Nat → List UInt8) (tw : Nat → Bool) (ns : List Int) (os : List OObj) (ps : List PObj) (xs : List ByteArray) (v : Value) : Prop where
 ss : SS w wr xs v
 hx : xs.map (fun x => x.data.toList) = ps.map (fun p => printP FF p ++ [10])
 hq : objL tw os = some ps
 hlev : ∀ p ∈ ps,levP p ≤ 40
 hw : ∀ o ∈ os,wtO o ≤ 20000
 hn : ∀ n ∈ ns,1 ≤ n ∧ n ≤ 1048576
theorem L1.len {w wr : World} {FF : Nat → List UInt8} {tw : Nat → Bool} {ns : List Int} {os : List OObj} {ps : List PObj} {xs : List ByteArray} {v : Value} (h : L1 w wr FF tw ns os ps xs v) : xs.length = os.length := by
 have h1 := congrArg List.length h.hx;rw [List.length_map,List.length_map] at h1;rw [h1,objL_len h.hq]
theorem L1.keep {w wr w' : World} {FF : Nat → List UInt8} {tw : Nat → Bool} {ns : List Int} {os : List OObj} {ps : List PObj} {xs : List ByteArray} {v : Value} (h : L1 w wr FF tw ns os ps xs v) (hB : Below wr.heap.size wr w') : L1 w w' FF tw ns os ps xs v := ⟨h.ss.keep hB,h.hx,h.hq,h.hlev,h.hw,h.hn⟩
theorem row_len {w : World} {base : Nat} {e : TypeId} {size n k c : Nat} {p : Option Addr} {xs : List Value} (h : w.ownsRow base e size (.slice p k c) n xs) : k = n ∧ n ≤ c := by
 rcases h.2 with ⟨h1,h2⟩ | ⟨g,cap,cur,hv,_,_,hn,_⟩
 · injection h1 with _ h3 h4;omega
 injection hv with _ h3 h4;omega
theorem rowc_at {w : World} {base : Nat} {e : TypeId} {n k c : Nat} {p : Option Addr} {xs : List Value} (h : w.ownsRow base e 1 (.slice p k c) n xs) (h0 : 0 < n) : ∃ g,p = some ⟨g,0,none⟩ ∧ g < w.heap.size ∧ base ≤ g ∧ ∀ i (hi : i < xs.length),w.cell? ⟨g,i,none⟩ = some xs[i] := by
 have h' := h;rcases h.2 with ⟨h1,h2⟩ | ⟨g,cap,cur,hv,hb,_⟩
 · omega
 injection hv with h1 h2 h3;subst h1 h2 h3;refine ⟨g,rfl,(World.ownsRow.lt h' g rfl).2,(World.ownsRow.lt h' g rfl).1,fun i hi => ?_⟩;have hl := h'.1;rw [World.ownsRow.cellAt h' i (by omega)];exact List.getElem?_eq_getElem hi
theorem good_at {FF : Nat → List UInt8} : ∀ (l : List PObj) (i : Nat) (h : i < l.length),LGood FF l → PGood FF l[i] ∧ LGood FF (l.drop (i + 1))
 | [],i,h,_ => by simp at h
 | p :: l,0,_,hl => by rw [LGood] at hl;exact hl
 | p :: l,i + 1,h,hl => by rw [LGood] at hl;simpa using good_at l i (by simpa using h) hl.2
theorem tw_at {tw : Nat → Bool} : ∀ (l : List PObj) (i : Nat) (h : i < l.length),LTw tw l → PTw tw l[i]
 | [],i,h,_ => by simp at h
 | p :: l,0,_,hl => by rw [LTw] at hl;exact hl.1
 | p :: l,i + 1,h,hl => by rw [LTw] at hl;simpa using tw_at l i (by simpa using h) hl.2
theorem law4_any {hi lo : Nat → Nat} {pf : List UInt8 → Nat} {W0 : World} (hF : FFW hi lo W0) (hE : EV18 W0) (hP : PFAll pf W0) (ns : List Int) (os : List OObj) (xs : List Value) (A A2 : Option Addr) (nc lc : Nat)
 (hA : 0 < ns.length → ∃ b off,A = some ⟨b,off,none⟩ ∧ b < W0.heap.size ∧ ∀ i (h : i < ns.length),W0.cell? ⟨b,off + i,none⟩ = some (.int .i64 ns[i])) (hl : InSl W0 W0.heap.size 7 (.slice A2 os.length lc) os.length xs) (hkids : OKids W0 W0.heap.size os xs) (hI : OIntL os) (hb : bulkL os ≤ 1048576) (hn : ns.length ≤ 1048576) :
 Calls Tryz.prog 4 #[.slice A ns.length nc,.slice A2 os.length lc] W0 fun e w' => e = .returned (.bool true) ∧ Below W0.heap.size W0 w' := by
 obtain ⟨tw,htw⟩ : ∃ tw : Nat → Bool,tw = fun x => decide (x < 18446744073709551616) && twB hi lo pf x := ⟨_,rfl⟩
 have htb : ∀ x,tw x = true → x < 18446744073709551616 ∧ twB hi lo pf x = true := fun x hx => by rw [htw] at hx;simpa using hx
 have hTw : TwSaid tw W0 := fun x w hW hx => by rw [htw];simp only [decide_eq_true hx,Bool.true_and];exact twelve_any hF hP x w hW hx
 have hTwn : ∀ x,x < 18446744073709551616 → tw x = true → feE x ≤ 1069 ∧ (ffB hi lo x).length ≤ 80 := fun x hx h => twB_num hi lo pf x hx (htb x h).2
 obtain ⟨B,c,hv,hc1,hc2,hll,hlr⟩ := hl;injection hv with hv1 hv2 hv3;subst hv1 hv3;have hbl := bulkL_len os;have hls : os.length ≤ 131072 := by omega
 have HF := Lib.hid hF;have HE := Lib.hid hE;have HP := Lib.hid hP;have HA := Lib.hid hA;have HL := Lib.hid hlr;have HI := Lib.hid hI;have HB := Lib.hid hb;have HTw := Lib.hid hTw;have HTwn := Lib.hid hTwn;have Htb := Lib.hid htb;have HK := Lib.hid hkids;clear hF hE hP hA hlr hI hb hTw hTwn htw htb hkids hv2 hll hbl;go_enter Tryz.func4,Tryz.ntmps4;by_cases hne : ns.length = os.length
 case neg =>
  have tne : ((ns.length : Int) != (os.length : Int)) = true := by simp;omega
  go_wp2_with fail;go_ret;exact ⟨rfl,Below.refl _ _⟩
 have tne : ((ns.length : Int) != (os.length : Int)) = false := by simp [hne]
 by_cases h100 : ns.length ≤ 100
 case neg =>
  go_wp2_with fail;go_ret;exact ⟨rfl,Below.refl _ _⟩
 have hS0 : L1 W0 W0 (ffB hi lo) tw [] [] [] [] (.slice none 0 0) := ⟨⟨World.ownsRow_nil _ _ _ _,Below.refl _ _⟩,rfl,rfl,(fun p hp => by cases hp),(fun p hp => by cases hp),(fun p hp => by cases hp)⟩;go_wp2_with fail
 go_loopg [5,47] os.length (fun g s j wr => ∃ (i : Nat) (v : Value) (ps : List PObj) (us : List ByteArray),s = v ∧ j = .int .i64 i ∧ i + g = os.length ∧ L1 W0 wr (ffB hi lo) tw (ns.take i) (os.take i) ps us v)
 case atStart => exact ⟨0,_,[],[],rfl,by go_num,by omega,hS0⟩
 case round =>
  clear hS0;obtain ⟨i,v,ps,us,rfl,rfl,hg,hS⟩ := hrel;by_cases hk : i < os.length
  · have tk : i < os.length := hk;have tk2 : i < ns.length := by omega
    obtain ⟨bk,off,rfl,hbk,hrow⟩ := HL.out (by omega);obtain ⟨an,ao,rfl,han,hca⟩ := HA.out (by omega);obtain ⟨c',hc7,hrep,hat⟩ := HK.out.at_ i hk;have hint := HI.out.at_ i hk;have hbo := bulkL_at i hk;have ho1 : os.take (i + 1) = os.take i ++ [os[i]] := List.take_succ_eq_append_getElem hk;have hn1 : ns.take (i + 1) = ns.take i ++ [ns[i]] := List.take_succ_eq_append_getElem tk2;have hcn := hca i tk2;obtain ⟨n1,hn2⟩ : ∃ n,n = ns[i] := ⟨_,rfl⟩;rw [← hn2] at hn1 hcn;obtain ⟨o',ho'⟩ : ∃ o',o' = os[i] := ⟨_,rfl⟩;rw [← ho'] at hrep hint hbo ho1;have hbo2 : bulkO o' ≤ 1048576 := by have := HB.out;omega
    have Ho1 := Lib.hid ho1;have Hn1 := Lib.hid hn1;clear ho1 hn1 ho' hn2 hbo hca;have hrep2 := hrep;obtain ⟨kd',n',g',x',t',ks',l'⟩ := o';unfold ORep at hrep;obtain ⟨kv',lv',xs',rfl,hk',hl',_⟩ := hrep;obtain ⟨A',kc',rfl,_⟩ := hk';obtain ⟨A2',lc',rfl,_⟩ := hl';obtain ⟨ob,hob⟩ : ∃ o,o = OObj.mk kd' n' g' x' t' ks' l' := ⟨_,rfl⟩;rw [← hob] at hrep2 hint hbo2 Ho1;have hWr := hS.ss.below;obtain ⟨d0,d1,d2,d3,d4,d5,d6⟩ := row7 (fun j u hj => (hWr.cell (p := ⟨bk,off + j,none⟩) hbk).trans (hrow j u hj)) hat rfl;obtain ⟨vp,va,vb,rfl⟩ := ownsRow_slice hS.ss.own;go_wp2_with fail;refine (top_any tw W0 HTw.out ob _ _ hrep2 hint hbo2 (hWr.alloc hWr.size _)).mono ?_;rintro e w2 ⟨cs,b,rfl,⟨kd9,n9,g9,x9,t9,kp9,ka9,kb9,vp9,va9,vb9,rfl⟩,hB2,hcase⟩;have hBa := ((Below.refl _ wr).alloc (Nat.le_refl _) (Obj.cells #[.int .i64 kd',.int .i64 n',.int .i64 g',.float .f64 x',S t',.slice A' ks'.length kc',.slice A2' l'.length lc'] 28));have hB2' : Below wr.heap.size wr w2 := hBa.trans (hB2.mono hBa.size);have hS2 := hS.keep hB2';have hbox : Blk w2 wr.heap.size 28 #[.int .i64 kd',.int .i64 n',.int .i64 g',.float .f64 x',S t',.slice A' ks'.length kc',.slice A2' l'.length lc'] := (Blk.newAt _ 28 _ _ rfl).below hB2 (by simp);obtain ⟨bx,hbx⟩ : ∃ b,b = wr.heap.size := ⟨_,rfl⟩;rw [← hbx] at hbox ⊢;clear hS hWr d0 d1 d2 d3 d4 d5 d6 hrow hat hB2 hB2' hBa hbx
    cases b with
    | false =>
      clear hcase;go_wp2_with fail;go_ret;exact ⟨rfl,hS2.ss.below.alloc hS2.ss.below.size _⟩
    | true =>
    have hcase2 : ∃ p,objM tw ob = some p ∧ wtO ob ≤ 20000 ∧ VRep w2 (fun i => i < W0.heap.size ∨ wr.heap.size + 1 ≤ i) (valP id p) [.int .i64 kd9,.int .i64 n9,.int .i64 g9,.float .f64 x9,S t9,.slice kp9 ka9 kb9,.slice vp9 va9 vb9] := by
     rcases hcase with ⟨p,h1,h3,_,h2⟩ | ⟨_,h⟩
     · exact ⟨p,h1,h3,by simpa using h2⟩
     cases h
    obtain ⟨p,hobj,hwt,hV⟩ := hcase2;obtain ⟨hpn,hsz⟩ := objM_num HTwn.out ob p hint hobj
    have hkd : kd9 = kindS (valP id p) := by
     obtain ⟨k,kv,hc,_⟩ := hV.open_;simp only [sv7,List.cons.injEq,Value.int.injEq] at hc;exact hc.1.2
    have hV3 := hV.below ((Below.refl _ w2).alloc (Nat.le_refl _) (Obj.cells #[.int .i64 kd9,.int .i64 n9,.int .i64 g9,.float .f64 x9,S t9,.slice kp9 ka9 kb9,.slice vp9 va9 vb9] 34));have HV := Lib.hid hV3;have Hkd := Lib.hid hkd;clear hcase hV hV3 hkd;go_wp2_with fail;refine (modest_any (valP id p) _ _ _ HV.out (by have := cnt_val id p;omega)).mono ?_;rintro e w3 ⟨bo,rfl,hlev,hB3⟩;have hBa3 := ((Below.refl _ w2).alloc (Nat.le_refl _) (Obj.cells #[.int .i64 kd9,.int .i64 n9,.int .i64 g9,.float .f64 x9,S t9,.slice kp9 ka9 kb9,.slice vp9 va9 vb9] 34));have hB3' : Below w2.heap.size w2 w3 := hBa3.trans (hB3.mono hBa3.size);have hS3 := hS2.keep hB3';have hbox3 := hbox.below hB3' hbox.lt;have hout : Blk w3 w2.heap.size 34 #[.int .i64 kd9,.int .i64 n9,.int .i64 g9,.float .f64 x9,S t9,.slice kp9 ka9 kb9,.slice vp9 va9 vb9] := (Blk.newAt _ 34 _ _ rfl).below hB3 (by simp);have k0 : w3.cell? ⟨w2.heap.size,0,none⟩ = some (.int .i64 kd9) := hout.cell 0;have k1 : w3.cell? ⟨an,ao + i,none⟩ = some (.int .i64 n1) := (hS3.ss.below.cell (p := ⟨an,ao + i,none⟩) han).trans hcn;have f0 : w3.cell? ⟨bx,0,none⟩ = some (.int .i64 kd') := hbox3.cell 0;have f1 : w3.cell? ⟨bx,1,none⟩ = some (.int .i64 n') := hbox3.cell 1;have f2 : w3.cell? ⟨bx,2,none⟩ = some (.int .i64 g') := hbox3.cell 2;have f3 : w3.cell? ⟨bx,3,none⟩ = some (.float .f64 x') := hbox3.cell 3;have f4 : w3.cell? ⟨bx,4,none⟩ = some (S t') := hbox3.cell 4;have f5 : w3.cell? ⟨bx,5,none⟩ = some (.slice A' ks'.length kc') := hbox3.cell 5;have f6 : w3.cell? ⟨bx,6,none⟩ = some (.slice A2' l'.length lc') := hbox3.cell 6;have hend := hS3.ss.below;have Hout := Lib.hid hout;clear hbox hS2 hB3 hB3' hBa3 hout hcn
    cases bo with
    | false =>
      go_wp2_with fail;go_ret;exact ⟨rfl,hend⟩
    | true =>
    by_cases hk0 : kd9 = 0
    · have t0 : (kd9 == 0) = true := by simp [hk0]
      go_wp2_with fail;go_ret;exact ⟨rfl,hend⟩
    have t0 : (kd9 == 0) = false := by simp [hk0]
    have hp0 : p ≠ .null := fun e => by subst e;exact hk0 (by rw [Hkd.out];rfl)
    by_cases hlow : n1 < 1
    · go_wp2_with fail;go_ret;exact ⟨rfl,hend⟩
    by_cases hup : n1 > 1048576
    · go_wp2_with fail;go_ret;exact ⟨rfl,hend⟩
    have hpr := print_any HF.out tw ob p _ w3 hrep2 hint hbo2 hobj hp0 hpn (by omega) hend;obtain ⟨tx,htx⟩ : ∃ t,t = printP (ffB hi lo) p := ⟨_,rfl⟩;rw [← htx] at hpr;have Hpr := Lib.hid hpr;have Htx := Lib.hid htx;have hlv : levP p ≤ 40 := by rw [← lev_val id p];exact hlev rfl
    have htl : tx.length ≤ 100663296 := by have := print_len p hpn;rw [htx];omega
    clear hlev hpr htx hend HV;go_wp2_with fail;refine Hpr.out.mono ?_;rintro e w4 ⟨rfl,hB4⟩;have hS4 := hS3.keep hB4;have hlen4 := hS4.len;have hult : us.length ≤ 8000000 := by rw [hlen4,List.length_take];omega
    clear hS3 f0 f1 f2 f3 f4 f5 f6 k0 k1 hbox3 hB4;have hSS := hS4.ss;go_wp2_with (at_builtin;refine wpList_app9 rfl (.tmp 90) (.tmp 93) rfl hSS hult _ (by simp [Act.eval,Act.put]) (by simp [Act.eval,Act.put]) ?_;intro v9 w9 hS9)
    have hfin : L1 W0 w9 (ffB hi lo) tw (ns.take (i + 1)) (os.take (i + 1)) (ps ++ [p]) _ v9 := ⟨hS9,by rw [List.map_append,hS4.hx,List.map_append];simp [Htx.out],by rw [Ho1.out];exact objL_snoc hS4.hq hobj,fun q hq => by
     rcases List.mem_append.1 hq with hq | hq
     · exact hS4.hlev q hq
     · rw [List.mem_singleton] at hq;rw [hq];exact hlv,fun q hq => by
     rw [Ho1.out] at hq
     rcases List.mem_append.1 hq with hq | hq
     · exact hS4.hw q hq
     · rw [List.mem_singleton] at hq;rw [hq];exact hwt,fun n hq => by
     rw [Hn1.out] at hq
     rcases List.mem_append.1 hq with hq | hq
     · exact hS4.hn n hq
     · rw [List.mem_singleton] at hq;rw [hq];omega⟩
    go_roundg (os.length - (i + 1))
    case measure => omega
    case rel => exact ⟨i + 1,_,_,_,rfl,by go_num,by omega,hfin⟩
  have tk : ¬ i < os.length := hk;have hin : i = os.length := by omega
  rw [List.take_of_length_le (l := os) (by omega),List.take_of_length_le (l := ns) (by omega)] at hS;have hpsl := objL_len hS.hq;have hxl := hS.len;obtain ⟨hLN,hsz⟩ := objL_num HTwn.out os ps HI.out hS.hq;obtain ⟨hLG,hLT⟩ := objL_good (FF := ffB hi lo) (fun x hx => ffB_shape hi lo (Htb.out x hx).1 (by have := (Htb.out x hx).2;unfold twB at this;rw [Bool.and_eq_true] at this;exact this.1)) os ps hS.hq;obtain ⟨ts,hts⟩ : ∃ ts,ts = ps.map (fun p => printP (ffB hi lo) p ++ [10]) := ⟨_,rfl⟩;have htl : ts.length = os.length := by rw [hts,List.length_map,hpsl]
  have hct : catT ts = textsB (ffB hi lo) ps := by rw [hts,texts_catT]
  have hcl : (catT ts).length ≤ 100663296 := by have := texts_len ps hLN;have := HB.out;rw [hct];omega
  have hus : ∀ j (h : j < us.length) (h' : j < ts.length),Value.string us[j] = S ts[j] := by
   intro j h h';have h1 : (us.map (fun x => x.data.toList))[j]'(by simpa using h) = ts[j] := by simp only [hS.hx,hts]
   rw [List.getElem_map] at h1;rw [← h1]
  obtain ⟨nsN,hnsN⟩ : ∃ l,l = ns.map Int.toNat := ⟨_,rfl⟩;have hnl : nsN.length = ns.length := by rw [hnsN,List.length_map]
  have hnv : ∀ j (h : j < nsN.length) (h' : j < ns.length),((nsN[j] : Nat) : Int) = ns[j] := by
   intro j h h';have := hS.hn _ (List.getElem_mem h');simp only [hnsN,List.getElem_map];omega
  have hnb : ∀ n ∈ nsN,n ≤ 1048576 := by
   intro n hn;rw [hnsN] at hn;obtain ⟨z,hz,rfl⟩ := List.mem_map.1 hn;have := hS.hn z hz;omega
  obtain ⟨T,tn,tc,rfl⟩ := ownsRow_slice hS.ss.own;obtain ⟨htn,_⟩ := row_len hS.ss.own;rw [hxl] at htn
  have hmk := make_any HF.out HE.out nsN ts A T nc tc wr hS.ss.below (by omega) (by omega) hnb (fun t ht => by rw [hts] at ht;obtain ⟨p,_,rfl⟩ := List.mem_map.1 ht;simp) (by omega)
   (fun h0 => by
    obtain ⟨b,off,rfl,hb,hc⟩ := HA.out (by omega)
    refine ⟨b,off,rfl,Nat.lt_of_lt_of_le hb hS.ss.below.size,fun j h => ?_⟩
    rw [hnv j h (by omega)]
    exact (hS.ss.below.cell (p := ⟨b,off + j,none⟩) hb).trans (hc j (by omega)))
   (fun h0 => by
    obtain ⟨g,hg1,hg2,_,hg3⟩ := rowc_at hS.ss.own (by omega)
    refine ⟨g,hg1,hg2,fun j h => ?_⟩
    rw [hg3 j (by rw [List.length_map];omega),List.getElem_map]
    exact congrArg some (hus j (by omega) h))
  rw [hnl,htl,hne] at hmk;rw [htn];have hhl : (headL nsN ts 0).length = ns.length := by rw [headL_len _ _ _ (by omega),hnl]
  have hpl := prolog_any (headL nsN ts 0) (by omega) (fun q hq => by obtain ⟨n,h1,h2,h3⟩ := headL_mem nsN ts 0 q hq;exact ⟨n,h2,by have := hnb n h1;omega⟩) (fun q hq => by obtain ⟨n,h1,h2,h3⟩ := headL_mem nsN ts 0 q hq;omega) (by have := head_bound nsN ts hnb (by omega) (by omega);omega);have hhat : ∀ j (h : j < nsN.length) (h2 : j < ts.length) (h3 : j < (headL nsN ts 0).length),(headL nsN ts 0)[j] = (((nsN[j] : Nat) : Int),0 + (catT (ts.take j)).length) := fun j h h2 h3 => headL_at nsN ts 0 j h h2 h3
  obtain ⟨hd,hhd⟩ : ∃ l,l = headL nsN ts 0 := ⟨_,rfl⟩;rw [← hhd] at hmk hhl hpl hhat;have hpbl : (headT true hd).length ≤ 4200 := by have := head_bound nsN ts hnb (by omega) (by omega);rw [hhd];omega
  obtain ⟨pb,hpb⟩ : ∃ l,l = headT true hd := ⟨_,rfl⟩;rw [← hpb] at hmk hpl hpbl;rw [hct] at hmk hcl;obtain ⟨cb,hcb⟩ : ∃ l,l = textsB (ffB hi lo) ps := ⟨_,rfl⟩;rw [← hcb] at hmk hcl;rw [hhl,hne] at hpl;have Hmk := Lib.hid hmk;have Hpl := Lib.hid hpl;have hB0 := hS.ss.below;have HS := Lib.hid hS;have Hhat := Lib.hid hhat;have Hnv := Lib.hid hnv;have Hcb := Lib.hid hcb;have Hts := Lib.hid hts;have Hhhl := Lib.hid hhl;have Hpsl := Lib.hid hpsl;have Htl := Lib.hid htl;have Hnl := Lib.hid hnl;have HLG := Lib.hid hLG;have HLT := Lib.hid hLT;have HLN := Lib.hid hLN;have Hsz := Lib.hid hsz;clear hmk hpl hS hhat hnv hcb hts hhl hpsl htl hnl hLG hLT hLN hsz hus hnb hct hhd hpb hnsN htn hxl hin hg;go_wp2_with fail
  with_reducible refine Hmk.out.mono ?_
  rintro e w5 ⟨pv,cv,rfl,hop,hoc,hB5⟩;obtain ⟨pp,pn,pc,rfl⟩ := ownsRow_slice hop;obtain ⟨cp,cn,cc,rfl⟩ := ownsRow_slice hoc;obtain ⟨rfl,hpc⟩ := row_len hop;obtain ⟨hcn,hcc⟩ := row_len hoc;have hcv1 := run_str_own hop;have HB5 := Lib.hid hB5;have Hop := Lib.hid hop;have Hoc := Lib.hid hoc;have Hcn0 := Lib.hid hcn;clear hB5 hop hoc hcn;go_wp2_with fail
  with_reducible refine (Hpl.out _).mono ?_
  rintro e w6 ⟨nv,qv,rfl,hnr,hqr,hnf,hqf,hB6⟩;obtain ⟨N1,nn,nc1,rfl⟩ := ownsRow_slice hnr;obtain ⟨Q1,qn,qc,rfl⟩ := ownsRow_slice hqr;obtain ⟨hnn,_⟩ := row_len hnr;obtain ⟨hqn,_⟩ := row_len hqr;rw [Hhhl.out,hne] at hnn hqn;subst hnn hqn;have hoc6 := ownsRow_keepB Hoc.out (fun g hg => hB6.block g (Own.lt Hoc.out g hg).2);have hsl := sl_head hoc6;have hcv2 := cv_head hoc6;have hcv2' : ∀ n,(convert 40 9 (.slice cp pb.length cc)).run Tryz.prog (w6.drewN n) = .ok (S pb) (w6.drewN n) := fun n => cv_head (Own.drewN hoc6 n)
  have hop6 := ownsRow_keepB Hop.out (fun g hg => hB6.block g (Own.lt Hop.out g hg).2);have hcv3 := run_str_own hop6;have hcv3' : ∀ n,(convert 40 9 (.slice pp pb.length pc)).run Tryz.prog (w6.drewN n) = .ok (S pb) (w6.drewN n) := fun n => run_str_own (Own.drewN hop6 n)
  have hcn := Hcn0.out;rw [List.length_append] at hcn;have hcn2 : pb.length ≤ cn := by omega
  have Hcn := Lib.hid hcn;have hcn3 : cn ≤ 110000000 := by omega
  clear hcn;have td1 : decide ((pb.length : Int) < (pb.length : Int)) = false := by simp
  have td2 : decide ((cn : Int) < (pb.length : Int)) = false := by simp;omega
  have td2n : decide (cn < pb.length) = false := by rw [decide_eq_false_iff_not];omega
  have tn2 : ((os.length : Int) != (os.length : Int)) = false := by simp
  have hB06 : Below W0.heap.size W0 w6 := (hB0.trans (HB5.out.mono hB0.size)).trans (hB6.mono (hB0.trans (HB5.out.mono hB0.size)).size);have Hnr := Lib.hid hnr;have Hqr := Lib.hid hqr;have Hoc6 := Lib.hid hoc6;clear hnr hqr hnf hqf hB6 hoc6 hop6 hcv1;go_wp2_with fail;go_quiet (fail);go_wp2_with fail
  go_loopg [149] os.length (fun g j wr => ∃ (i : Nat),j = .int .i64 i ∧ i + g = os.length ∧ Below w6.heap.size w6 wr)
  case atStart => exact ⟨0,by go_num,by omega,by first | exact below_drewN (Below.refl _ w6) _ | exact Below.refl _ _ | exact (Below.refl _ _).drew⟩
  case round =>
   obtain ⟨i,rfl,hg,hBr⟩ := hrel;by_cases hk : i < os.length
   · have tk : i < os.length := hk;have tk2 : i < ns.length := by omega
     obtain ⟨bk,off,rfl,hbk,hrow⟩ := HL.out (by omega);obtain ⟨an,ao,rfl,han,hca⟩ := HA.out (by omega);obtain ⟨c',hc7,hrep,hat⟩ := HK.out.at_ i hk;have hint := HI.out.at_ i hk;have hbo := bulkL_at i hk;have hcn := hca i tk2;have hpi : i < ps.length := by have := Hpsl.out;omega
     have hobj := objL_at HS.out.hq i hk hpi;have hwt := HS.out.hw _ (List.getElem_mem hk);have hgd := good_at ps i hpi HLG.out;have hpw := tw_at ps i hpi HLT.out;have hlv := HS.out.hlev _ (List.getElem_mem hpi);have hdrop := texts_at (FF := ffB hi lo) ps i hpi pb;rw [← Hcb.out] at hdrop;have hpl : (catT (ts.take i)).length = (textsB (ffB hi lo) (ps.take i)).length := by rw [Hts.out,← List.map_take,texts_catT]
     obtain ⟨g1,rfl,hg1,_,hc1⟩ := rowc_at Hnr.out (by rw [Hhhl.out];omega);obtain ⟨g2,rfl,hg2,_,hc2⟩ := rowc_at Hqr.out (by rw [Hhhl.out];omega);have hh := Hhat.out i (by have := Hnl.out;omega) (by have := Htl.out;omega) (by have := Hhhl.out;omega)
     have c1 : w6.cell? ⟨g1,i,none⟩ = some (.int .i64 ns[i]) := by
      rw [hc1 i (by rw [List.length_map,List.length_map,Hhhl.out];omega),List.getElem_map,List.getElem_map,hh];simp only;rw [Hnv.out i (by have := Hnl.out;omega) tk2]
     have c2 : w6.cell? ⟨g2,i,none⟩ = some (.int .i64 ((textsB (ffB hi lo) (ps.take i)).length : Nat)) := by
      rw [hc2 i (by rw [List.length_map,List.length_map,Hhhl.out];omega),List.getElem_map,List.getElem_map,hh];simp only;rw [Nat.zero_add,hpl]
     obtain ⟨pl,hple⟩ : ∃ n,n = (textsB (ffB hi lo) (ps.take i)).length := ⟨_,rfl⟩;rw [← hple] at c2 hdrop;obtain ⟨n1,hn1⟩ : ∃ n,n = ns[i] := ⟨_,rfl⟩;rw [← hn1] at hcn c1;obtain ⟨p,hp⟩ : ∃ p,p = ps[i] := ⟨_,rfl⟩;rw [← hp] at hobj hgd hpw hlv hdrop;obtain ⟨lr,hlr⟩ : ∃ l,l = ps.drop (i + 1) := ⟨_,rfl⟩;rw [← hlr] at hgd hdrop;obtain ⟨st,hst⟩ : ∃ s,s = printP (ffB hi lo) p ++ 10 :: textsB (ffB hi lo) lr := ⟨_,rfl⟩;rw [← hst] at hdrop
     have hlt : pb.length + pl < (pb ++ cb).length := by
      have h1 := congrArg List.length hdrop;rw [List.length_drop,hst] at h1;simp only [List.length_append,List.length_cons] at h1 ⊢;omega
     have hpl2 : pb.length + pl < cn := by have := Hcn.out;rw [List.length_append] at hlt;omega
     have hsl3 : st.length ≤ 268435456 := by
      have h1 := congrArg List.length hdrop;rw [List.length_drop,List.length_append] at h1;omega
     obtain ⟨gs,hs1,hs2⟩ := sl_tail Hoc6.out (pb.length + pl) hlt;rw [hdrop] at hs1 hs2;have hrd := fun w hW => read_any pf W0 (fun t w ht _ hW => HP.out t w ht hW) itoa_ok p lr hgd.1 hgd.2 (by omega) st hst hsl3 w hW
     have hsame : SameP (fun x => pf (ffB hi lo x)) p := same_of (tw := tw) (FF := ffB hi lo) (fun x hx => by
      have h1 := (Htb.out x hx).2
      unfold twB at h1
      rw [Bool.and_eq_true] at h1
      simpa using h1.2) p hgd.1 hpw
     have Hrd := Lib.hid hrd;have Hsame := Lib.hid hsame;have Hs2 := Lib.hid hs2;have hs1' : ∀ wx,(Instr.slice 40 (.slice cp cn cc) (some (.int .i64 ((pb.length : Int) + (pl : Int)))) none none).run Tryz.prog wx = .ok (.slice (some ⟨gs,pb.length + pl,none⟩) st.length (cc - (pb.length + pl))) wx := fun wx => by have := hs1 wx;rwa [Int.natCast_add] at this
     clear hrd hsame hs2 hst hlr hp hn1 hple hpl hh hc1 hc2 hgd hpw hlv hdrop hlt hca hs1;obtain ⟨ob,hob⟩ : ∃ o,o = os[i] := ⟨_,rfl⟩;rw [← hob] at hrep hint hbo hobj hwt;have hbo2 : bulkO ob ≤ 1048576 := by have := HB.out;omega
     clear hob hbo;have hrep2 := hrep;obtain ⟨kd',n',g',x',t',ks',l'⟩ := ob;unfold ORep at hrep;obtain ⟨kv',lv',xs',rfl,hk',hl',_⟩ := hrep;obtain ⟨A',kc',rfl,_⟩ := hk';obtain ⟨A2',lc',rfl,_⟩ := hl';obtain ⟨ob,hob⟩ : ∃ o,o = OObj.mk kd' n' g' x' t' ks' l' := ⟨_,rfl⟩;rw [← hob] at hrep2 hint hbo2 hobj hwt;have hWr : Below W0.heap.size W0 wr := hB06.trans (hBr.mono hB06.size);obtain ⟨d0,d1,d2,d3,d4,d5,d6⟩ := row7 (fun j u hj => (hWr.cell (p := ⟨bk,off + j,none⟩) hbk).trans (hrow j u hj)) hat rfl;clear hob;go_wp2_with fail;refine (top_any tw W0 HTw.out ob _ _ hrep2 hint hbo2 (hWr.alloc hWr.size _)).mono ?_;rintro e w7 ⟨cs,b,rfl,⟨kd9,n9,g9,x9,t9,kp9,ka9,kb9,vp9,va9,vb9,rfl⟩,hB7,hcase⟩
     have hV : VRep w7 (fun _ => True) (valP id p) [.int .i64 kd9,.int .i64 n9,.int .i64 g9,.float .f64 x9,S t9,.slice kp9 ka9 kb9,.slice vp9 va9 vb9] := by
      rcases hcase with ⟨p2,h1,_,_,h2⟩ | ⟨h1 | h1,_⟩
      · rw [hobj] at h1;injection h1 with h1;subst h1;exact VRep.mono (w := w7) (w' := w7) (fun _ _ _ => ⟨rfl,trivial⟩) _ _ (by simpa using h2)
      · rw [hobj] at h1;cases h1
      omega
     have hBa := ((Below.refl _ wr).alloc (Nat.le_refl _) (Obj.cells #[.int .i64 kd',.int .i64 n',.int .i64 g',.float .f64 x',S t',.slice A' ks'.length kc',.slice A2' l'.length lc'] 28));have hB7' : Below wr.heap.size wr w7 := hBa.trans (hB7.mono hBa.size);have hB67 : Below w6.heap.size w6 w7 := hBr.trans (hB7'.mono hBr.size);have HV := Lib.hid hV;clear d0 d1 d2 d3 d4 d5 d6 hrow hat hB7 hB7' hBa hcase hV hWr hrep2 hint hbo2 hBr;go_wp2_with fail;refine wp_gen (fun wq => Blk wq w7.heap.size 34 #[.int .i64 kd9,.int .i64 n9,.int .i64 g9,.float .f64 x9,S t9,.slice kp9 ka9 kb9,.slice vp9 va9 vb9] ∧ VRep wq (fun _ => True) (valP id p) [.int .i64 kd9,.int .i64 n9,.int .i64 g9,.float .f64 x9,S t9,.slice kp9 ka9 kb9,.slice vp9 va9 vb9] ∧ Below w6.heap.size w6 wq) ?_ ?_
     · exact ⟨Blk.newAt _ 34 _ _ rfl,HV.out.below ((Below.refl _ w7).alloc (Nat.le_refl _) _),hB67.alloc hB67.size _⟩
     obtain ⟨q,hq⟩ : ∃ q,q = w7.heap.size := ⟨_,rfl⟩;rw [← hq];clear hq HV hB67;rintro w8 ⟨hbx,hV8,hB8⟩;have k1 : w8.cell? ⟨g1,i,none⟩ = some (.int .i64 n1) := (hB8.cell (p := ⟨g1,i,none⟩) hg1).trans c1;have k2 : w8.cell? ⟨g2,i,none⟩ = some (.int .i64 (pl : Nat)) := (hB8.cell (p := ⟨g2,i,none⟩) hg2).trans c2;have hB08 : Below W0.heap.size W0 w8 := hB06.trans (hB8.mono hB06.size);have k3 : w8.cell? ⟨an,ao + i,none⟩ = some (.int .i64 n1) := (hB08.cell (p := ⟨an,ao + i,none⟩) han).trans hcn;have tq1 : (n1 != n1) = false := by simp
     have td3 : decide ((cn : Int) - (pb.length : Int) < (pl : Int)) = false := by simp;omega
     have hoc8 := ownsRow_keepB Hoc6.out (fun g hg => hB8.block g (Own.lt Hoc6.out g hg).2);have hcv8 : ∀ n,(convert 40 9 (.slice (some ⟨gs,pb.length + pl,none⟩) st.length (cc - (pb.length + pl)))).run Tryz.prog (w8.drewN n) = .ok (S st) (w8.drewN n) := fun n => Hs2.out _ (Own.drewN hoc8 n)
     have Hbx := Lib.hid hbx;have HV8 := Lib.hid hV8;clear hbx hV8 hoc8 c1 c2 hcn;go_quiet (fail);go_wp2_with fail;refine (Hrd.out _ (by first | exact hB08 | exact below_drewN hB08 _)).mono ?_;rintro e w9 ⟨cs9,k9,rfl,hV9,hB9⟩
     obtain ⟨ke,ne,ge,xe,te,kpe,kae,kbe,vpe,vae,vbe,hcse⟩ : ∃ ke ne ge xe te kpe kae kbe vpe vae vbe,cs9 = #[.int .i64 ke,.int .i64 ne,.int .i64 ge,.float .f64 xe,S te,.slice kpe kae kbe,.slice vpe vae vbe] := by
      obtain ⟨kd,n,g,x,t,kp,ka,kb,vp,va,vb,h⟩ := hV9.shape;exact ⟨kd,n,g,x,t,kp,ka,kb,vp,va,vb,h⟩
     subst hcse;have hB89 : Below w8.heap.size w8 w9 := by first | exact hB9 | exact (below_drewN (Below.refl _ w8) _).trans hB9
     have hbx9 := Hbx.out.below hB89 Hbx.out.lt;have hV89 := HV8.out.below hB89;have hB69 : Below w6.heap.size w6 w9 := hB8.trans (hB89.mono hB8.size);have q0 : w9.cell? ⟨q,0,none⟩ = some (.int .i64 kd9) := hbx9.cell 0;have q1 : w9.cell? ⟨q,1,none⟩ = some (.int .i64 n9) := hbx9.cell 1;have q2 : w9.cell? ⟨q,2,none⟩ = some (.int .i64 g9) := hbx9.cell 2;have q3 : w9.cell? ⟨q,3,none⟩ = some (.float .f64 x9) := hbx9.cell 3;have q4 : w9.cell? ⟨q,4,none⟩ = some (S t9) := hbx9.cell 4;have q5 : w9.cell? ⟨q,5,none⟩ = some (.slice kp9 ka9 kb9) := hbx9.cell 5;have q6 : w9.cell? ⟨q,6,none⟩ = some (.slice vp9 va9 vb9) := hbx9.cell 6;have lq := hbx9.lt;have HV9 := Lib.hid hV9;have HV89 := Lib.hid hV89;clear hV9 hV89 hbx9 hB9 k1 k2 k3 hB89;go_wp2_with fail;have hBn := (Below.refl w9.heap.size w9).alloc (Nat.le_refl _) (Obj.cells #[.int .i64 ke,.int .i64 ne,.int .i64 ge,.float .f64 xe,S te,.slice kpe kae kbe,.slice vpe vae vbe] 34);refine (same_any (fun x => pf (ffB hi lo x)) (SizeOf.sizeOf p) p [.int .i64 ke,.int .i64 ne,.int .i64 ge,.float .f64 xe,S te,.slice kpe kae kbe,.slice vpe vae vbe] [.int .i64 kd9,.int .i64 n9,.int .i64 g9,.float .f64 x9,S t9,.slice kp9 ka9 kb9,.slice vp9 va9 vb9] _ _ _ (Nat.le_refl _) Hsame.out (HV9.out.below hBn) (HV89.out.below hBn)).mono ?_;rintro e w10 ⟨rfl,hB10⟩;have hB610 : Below w6.heap.size w6 w10 := (hB69.alloc hB69.size _).trans (hB10.mono (hB69.alloc hB69.size (Obj.cells #[.int .i64 ke,.int .i64 ne,.int .i64 ge,.float .f64 xe,S te,.slice kpe kae kbe,.slice vpe vae vbe] 34)).size);clear hB10 q0 q1 q2 q3 q4 q5 q6;go_wp2_with fail
     go_roundg (os.length - (i + 1))
     case measure => omega
     case rel => exact ⟨i + 1,by go_num,by omega,hB610⟩
   have tk : ¬ i < os.length := hk;go_wp2_with fail;go_ret;exact ⟨rfl,hB06.trans (hBr.mono hB06.size)⟩
end Go.Proofs.YtcpijmbdibgdmaaGreatDoor
namespace Go.Proofs.YtcpijmbdibgdmaaGreatDoor
open Go.RowKit
section
variable {H : Type} {enc : TypeId × Value → H} {W : World} {base : Nat} {sp : Nat → Bool} {held : Bool} {fuel : Nat} {t e : TypeId} {cs : List Value} {x : DataW H × List MemPlace}
theorem slice_in (ht : Tryz.prog.underlying t = some (.slice e)) (hc0 : 0 < Tryz.prog.cellsOf e) (h : DataW.trod enc Tryz.prog W base sp held fuel t cs = some x) :
 ∃ (A : Option Addr) (n c : Nat) (el : List (DataW H × List MemPlace)) (b off m : Nat),cs = [.slice A n c] ∧ n ≤ c ∧ c ≤ maxLen ∧ el.length = n ∧ m < fuel ∧ Rows.uptoBulkAll (el.map (·.1)) + 1 ≤ Rows.uptoBulk x.1 ∧ (0 < n → A = some ⟨b,off,none⟩ ∧ b < W.heap.size) ∧
   (∀ i (hi : i < el.length),∃ ce,ce.length = Tryz.prog.cellsOf e ∧ DataW.trod enc Tryz.prog W base sp held m e ce = some el[i] ∧ ∀ j,j < Tryz.prog.cellsOf e → W.cell? ⟨b,off + i * Tryz.prog.cellsOf e + j,none⟩ = ce[j]?) := by
 have hfu : 0 < fuel := by
  cases fuel with
  | zero => simp [DataW.trod] at h
  | succ n => omega
 rcases DataW.trod_slice ht h with ⟨rfl,rfl⟩ | ⟨a,len,cap,el,rs,m,rfl,rfl,rfl,_,hlc,hcm,hel,helem,_,_⟩
 · exact ⟨none,0,0,[],0,0,0,rfl,Nat.le_refl _,by unfold maxLen;omega,rfl,hfu,by simp [Rows.uptoBulk,Rows.uptoBulkAll],(fun h => by omega),fun i hi => by simp at hi⟩
 · have hcell : ∀ i (hi : i < el.length),∃ ce,ce.length = Tryz.prog.cellsOf e ∧ (∀ j,j < Tryz.prog.cellsOf e → W.cell? ((a.add (i * Tryz.prog.cellsOf e)).add j) = ce[j]?) ∧ DataW.trod enc Tryz.prog W base sp held m e ce = some el[i] := by
    intro i hi;have h1 := helem i (by omega);rw [List.getElem?_eq_getElem hi] at h1;obtain ⟨ce,hce,hte⟩ := Option.bind_eq_some_iff.1 h1;obtain ⟨_,hl,hcc⟩ := World.cells?_some hce;exact ⟨ce,hl,hcc,hte⟩
   obtain ⟨R,o,sR⟩ := a
   have hR : 0 < el.length → sR = none ∧ R < W.heap.size := by
    intro h0;obtain ⟨ce,hl,hcc,_⟩ := hcell 0 h0;have h00 := hcc 0 hc0;obtain ⟨v,hv⟩ : ∃ v,ce[0]? = some v := ⟨ce[0]'(by omega),List.getElem?_eq_getElem (by omega)⟩;rw [hv] at h00;have e1 : ((Addr.add ⟨R,o,sR⟩ (0 * Tryz.prog.cellsOf e)).add 0) = ⟨R,o,sR⟩ := by simp [Addr.add]
    rw [e1] at h00;have hs := World.cell?_spot h00;refine ⟨hs,?_⟩;rcases Nat.lt_or_ge R W.heap.size with h1 | h1
    · exact h1
    unfold World.cell? at h00;simp [Array.getElem?_eq_none h1] at h00
   refine ⟨_,len,cap,el,R,o,m,rfl,hlc,hcm,hel,by omega,by simp only [Rows.uptoBulk];omega,(fun h => ?_),fun i hi => ?_⟩
   · obtain ⟨rfl,h2⟩ := hR (by omega);exact ⟨rfl,h2⟩
   obtain ⟨ce,h1,h2,h3⟩ := hcell i hi;obtain ⟨rfl,_⟩ := hR (by omega);refine ⟨ce,h1,h3,fun j hj => ?_⟩;have := h2 j hj
   rwa [Addr.add_lit,Addr.add_lit] at this
theorem row_cons {b off k : Nat} {c ys : List Value} (hk : c.length = k) (h1 : ∀ j,j < k → W.cell? ⟨b,off + j,none⟩ = c[j]?) (h2 : RowAt W b (off + k) ys) : RowAt W b off (c ++ ys) := by
 intro j u hu;by_cases hj : j < k
 · rw [List.getElem?_append_left (by omega)] at hu;rw [h1 j hj,hu]
 rw [List.getElem?_append_right (by omega)] at hu;have := h2 (j - c.length) u hu
 rwa [show off + k + (j - c.length) = off + j by omega] at this
theorem V.t3 : Tryz.prog.underlying 3 = some (.int .i64) := by kernel_rfl
theorem V.t9 : Tryz.prog.underlying 9 = some .string := by kernel_rfl
theorem V.t24 : Tryz.prog.underlying 24 = some (.float .f64) := by kernel_rfl
theorem V.t25 : Tryz.prog.underlying 25 = some (.slice 9) := by kernel_rfl
theorem V.t26 : Tryz.prog.underlying 26 = some (.slice 28) := by kernel_rfl
theorem V.t31 : Tryz.prog.underlying 31 = some (.slice 3) := by kernel_rfl
theorem V.c3 : Tryz.prog.cellsOf 3 = 1 := by kernel_rfl
theorem V.c9 : Tryz.prog.cellsOf 9 = 1 := by kernel_rfl
theorem V.c24 : Tryz.prog.cellsOf 24 = 1 := by kernel_rfl
theorem V.c25 : Tryz.prog.cellsOf 25 = 1 := by kernel_rfl
theorem V.c26 : Tryz.prog.cellsOf 26 = 1 := by kernel_rfl
theorem V.c28 : Tryz.prog.cellsOf 28 = 7 := by kernel_rfl
theorem strs_of (m : Nat) (b : Nat) : ∀ (el : List (DataW H × List MemPlace)) (off : Nat),(∀ i (hi : i < el.length),∃ ce,ce.length = 1 ∧ DataW.trod enc Tryz.prog W base sp held m 9 ce = some el[i] ∧ ∀ j,j < 1 → W.cell? ⟨b,off + i * 1 + j,none⟩ = ce[j]?) →
 ∃ ks : List (List UInt8),ks.length = el.length ∧ RowAt W b off (ks.map fun k => .string ⟨k.toArray⟩) ∧ (ks.map fun k => k.length + 1).sum ≤ Rows.uptoBulkAll (el.map (·.1))
 | [],off,_ => ⟨[],rfl,fun j u hu => by simp at hu,by simp⟩
 | x :: el,off,h => by
   obtain ⟨ks,h1,h2,h3⟩ := strs_of m b el (off + 1) (fun i hi => by
    obtain ⟨ce,g1,g2,g3⟩ := h (i + 1) (by simpa using hi)
    refine ⟨ce,g1,by simpa using g2,fun j hj => ?_⟩
    rw [← g3 j hj]
    congr 2 <;> omega)
   obtain ⟨ce,g1,g2,g3⟩ := h 0 (by simp);obtain ⟨⟨⟨l⟩⟩,rfl,hx,_⟩ := DataW.trod_string V.t9 g2;simp only [List.getElem_cons_zero] at hx;subst hx;refine ⟨l :: ks,by simp [h1],row_cons (c := [.string ⟨l.toArray⟩]) (k := 1) rfl (fun j hj => ?_) h2,?_⟩
   · rw [← g3 j hj];congr 2 <;> omega
   simp only [List.map_cons,List.sum_cons,Rows.uptoBulkAll,Rows.uptoBulk];omega
theorem ints_of (m : Nat) (b : Nat) : ∀ (el : List (DataW H × List MemPlace)) (off : Nat),(∀ i (hi : i < el.length),∃ ce,ce.length = 1 ∧ DataW.trod enc Tryz.prog W base sp held m 3 ce = some el[i] ∧ ∀ j,j < 1 → W.cell? ⟨b,off + i * 1 + j,none⟩ = ce[j]?) →
 ∃ ns : List Int,ns.length = el.length ∧ (∀ i (h : i < ns.length),W.cell? ⟨b,off + i,none⟩ = some (.int .i64 ns[i])) ∧ ns.length ≤ Rows.uptoBulkAll (el.map (·.1))
 | [],off,_ => ⟨[],rfl,fun i hi => by simp at hi,by simp⟩
 | x :: el,off,h => by
   obtain ⟨ns,h1,h2,h3⟩ := ints_of m b el (off + 1) (fun i hi => by
    obtain ⟨ce,g1,g2,g3⟩ := h (i + 1) (by simpa using hi)
    refine ⟨ce,g1,by simpa using g2,fun j hj => ?_⟩
    rw [← g3 j hj]
    congr 2 <;> omega)
   obtain ⟨ce,g1,g2,g3⟩ := h 0 (by simp);obtain ⟨n,rfl,hx,_⟩ := DataW.trod_int V.t3 g2;simp only [List.getElem_cons_zero] at hx;subst hx;refine ⟨n :: ns,by simp [h1],fun i hi => ?_,?_⟩
   · cases i with
     | zero => simpa using g3 0 (by omega)
     | succ i =>
       have := h2 i (by simpa using hi);rw [show off + (i + 1) = off + 1 + i by omega,this];rfl
   simp only [List.map_cons,List.length_cons,Rows.uptoBulkAll,Rows.uptoBulk];omega
def ObjIn (enc : TypeId × Value → H) (W : World) (base : Nat) (sp : Nat → Bool) (held : Bool) (m : Nat) : Prop := ∀ (ce : List Value) (x : DataW H × List MemPlace),DataW.trod enc Tryz.prog W base sp held m 28 ce = some x → ∃ o,ORep W W.heap.size o ce ∧ OInt o ∧ bulkO o ≤ Rows.uptoBulk x.1
theorem objs_of (m : Nat) (ih : ObjIn enc W base sp held m) (b : Nat) : ∀ (el : List (DataW H × List MemPlace)) (off : Nat),(∀ i (hi : i < el.length),∃ ce,ce.length = 7 ∧ DataW.trod enc Tryz.prog W base sp held m 28 ce = some el[i] ∧ ∀ j,j < 7 → W.cell? ⟨b,off + i * 7 + j,none⟩ = ce[j]?) →
 ∃ (os : List OObj) (xs : List Value),os.length = el.length ∧ xs.length = os.length * 7 ∧ RowAt W b off xs ∧ OKids W W.heap.size os xs ∧ OIntL os ∧ bulkL os ≤ Rows.uptoBulkAll (el.map (·.1))
 | [],off,_ => ⟨[],[],rfl,rfl,fun j u hu => by simp at hu,by unfold OKids;rfl,by unfold OIntL;trivial,by simp [bulkL]⟩
 | x :: el,off,h => by
   obtain ⟨os,xs,h1,h2,h3,h4,h5,h6⟩ := objs_of m ih b el (off + 7) (fun i hi => by
    obtain ⟨ce,g1,g2,g3⟩ := h (i + 1) (by simpa using hi)
    refine ⟨ce,g1,by simpa using g2,fun j hj => ?_⟩
    rw [← g3 j hj]
    congr 2 <;> omega)
   obtain ⟨ce,g1,g2,g3⟩ := h 0 (by simp);obtain ⟨o,r1,r2,r3⟩ := ih ce _ g2;simp only [List.getElem_cons_zero] at r3;refine ⟨o :: os,ce ++ xs,by simp [h1],by simp [g1,h2];omega,row_cons g1 (fun j hj => ?_) h3,by unfold OKids;exact ⟨ce,xs,rfl,g1,r1,h4⟩,by unfold OIntL;exact ⟨r2,h5⟩,?_⟩
   · rw [← g3 j hj];congr 2 <;> omega
   simp only [List.map_cons,bulkL,Rows.uptoBulkAll];omega
theorem slice_strs (h : DataW.trod enc Tryz.prog W base sp held fuel 25 cs = some x) : ∃ (v : Value) (ks : List (List UInt8)),cs = [v] ∧ InSl W W.heap.size 1 v ks.length (ks.map fun k => .string ⟨k.toArray⟩) ∧ (ks.map fun k => k.length + 1).sum + 1 ≤ Rows.uptoBulk x.1 := by
 obtain ⟨A,n,c,el,b,off,m,rfl,h1,h2,h3,h4,h5,h6,h7⟩ := slice_in V.t25 (by rw [V.c9];decide) h;rw [V.c9] at h7;obtain ⟨ks,k1,k2,k3⟩ := strs_of m b el off h7;exact ⟨_,ks,rfl,⟨A,c,by rw [k1,h3],by omega,h2,by simp,fun h => ⟨b,off,(h6 (by omega)).1,(h6 (by omega)).2,k2⟩⟩,by omega⟩
theorem slice_objs (ih : ∀ m,m < fuel → ObjIn enc W base sp held m) (h : DataW.trod enc Tryz.prog W base sp held fuel 26 cs = some x) : ∃ (v : Value) (os : List OObj) (xs : List Value),cs = [v] ∧ InSl W W.heap.size 7 v os.length xs ∧ OKids W W.heap.size os xs ∧ OIntL os ∧ bulkL os + 1 ≤ Rows.uptoBulk x.1 := by
 obtain ⟨A,n,c,el,b,off,m,rfl,h1,h2,h3,h4,h5,h6,h7⟩ := slice_in V.t26 (by rw [V.c28];decide) h;rw [V.c28] at h7;obtain ⟨os,xs,k1,k2,k3,k4,k5,k6⟩ := objs_of m (ih m h4) b el off h7;exact ⟨_,os,xs,rfl,⟨A,c,by rw [k1,h3],by omega,h2,k2,fun h => ⟨b,off,(h6 (by omega)).1,(h6 (by omega)).2,k3⟩⟩,k4,k5,by omega⟩
theorem slice_ints (h : DataW.trod enc Tryz.prog W base sp held fuel 31 cs = some x) : ∃ (A : Option Addr) (c : Nat) (ns : List Int),cs = [.slice A ns.length c] ∧ (0 < ns.length → ∃ b off,A = some ⟨b,off,none⟩ ∧ b < W.heap.size ∧ ∀ i (h : i < ns.length),W.cell? ⟨b,off + i,none⟩ = some (.int .i64 ns[i])) ∧ ns.length + 1 ≤ Rows.uptoBulk x.1 := by
 obtain ⟨A,n,c,el,b,off,m,rfl,h1,h2,h3,h4,h5,h6,h7⟩ := slice_in V.t31 (by rw [V.c3];decide) h;rw [V.c3] at h7;obtain ⟨ns,k1,k2,k3⟩ := ints_of m b el off h7;exact ⟨A,c,ns,by rw [k1,h3],fun h => ⟨b,off,(h6 (by omega)).1,(h6 (by omega)).2,k2⟩,by omega⟩
theorem trod_f64 {k : FloatKind} (ht : Tryz.prog.underlying t = some (.float k)) (h : DataW.trod enc Tryz.prog W base sp held fuel t cs = some x) : ∃ n,cs = [.float k n] ∧ x = (.lit (.float k n),[]) ∧ (Lit.float k n).wf = true := by
 cases fuel with
 | zero => simp [DataW.trod] at h
 | succ n =>
   unfold DataW.trod at h;rw [ht] at h;split at h <;> simp_all
theorem V.k28 : (match Tryz.prog.underlying 28 with | some (.struct fs) => fs.toList.map (fun f => (f.type,f.offset)) | _ => []) = [(3,0),(3,1),(3,2),(24,3),(9,4),(25,5),(26,6)] := by kernel_rfl
theorem V.t28 : ∃ fs,Tryz.prog.underlying 28 = some (.struct fs) ∧ fs.toList.map (fun f => (f.type,f.offset)) = [(3,0),(3,1),(3,2),(24,3),(9,4),(25,5),(26,6)] := by
 have h := V.k28;split at h
 · rename_i fs hfs;exact ⟨fs,hfs,h⟩
 cases h
theorem at_of {fs : Array Field} {l : List (Nat × Nat)} {xs : List (DataW H × List MemPlace)} {n : Nat} (hfs : fs.toList.map (fun f => (f.type,f.offset)) = l) (hall : ∀ (i : Nat) (f : Field),fs[i]? = some f → DataW.trod enc Tryz.prog W base sp held n f.type ((cs.drop f.offset).take (Tryz.prog.cellsOf f.type)) = xs[i]?) (hl : xs.length = fs.size) (i : Nat) {T O : Nat} (hi : l[i]? = some (T,O)) (hc : Tryz.prog.cellsOf T = 1) :
 ∃ y,xs[i]? = some y ∧ DataW.trod enc Tryz.prog W base sp held n T ((cs.drop O).take 1) = some y := by
 subst hfs;rw [List.getElem?_map] at hi;obtain ⟨f,hf,hfe⟩ := Option.map_eq_some_iff.1 hi;rw [Array.getElem?_toList] at hf;injection hfe with e1 e2;have h0 : i < fs.size := (Array.getElem?_eq_some_iff.1 hf).1;have h1 := hall i f hf;rw [e1,e2,hc] at h1;exact ⟨xs[i]'(by omega),List.getElem?_eq_getElem (by omega),by rw [h1];exact List.getElem?_eq_getElem (by omega)⟩
theorem one_of {l : List Value} {o : Nat} {v : Value} (h : (l.drop o).take 1 = [v]) : l[o]? = some v := by
 have := congrArg (·[0]?) h;simpa [List.getElem?_take,List.getElem?_drop] using this
theorem sevenV {A : Type} {l : List A} {a0 a1 a2 a3 a4 a5 a6 : A} (hl : l.length = 7) (h0 : l[0]? = some a0) (h1 : l[1]? = some a1) (h2 : l[2]? = some a2) (h3 : l[3]? = some a3) (h4 : l[4]? = some a4) (h5 : l[5]? = some a5) (h6 : l[6]? = some a6) : l = [a0,a1,a2,a3,a4,a5,a6] := by
 match l,hl with
 | [b0,b1,b2,b3,b4,b5,b6],_ =>
   simp at h0 h1 h2 h3 h4 h5 h6;rw [h0,h1,h2,h3,h4,h5,h6]
theorem sevenW {l : List Value} {a0 a1 a2 a3 a4 a5 a6 : Value} (hl : l.length = 7) (h0 : l[0]? = some a0) (h1 : l[1]? = some a1) (h2 : l[2]? = some a2) (h3 : l[3]? = some a3) (h4 : l[4]? = some a4) (h5 : l[5]? = some a5) (h6 : l[6]? = some a6) : l = [a0,a1,a2,a3,a4,a5,a6] := by
 match l,hl with
 | [b0,b1,b2,b3,b4,b5,b6],_ =>
   simp at h0 h1 h2 h3 h4 h5 h6;rw [h0,h1,h2,h3,h4,h5,h6]
theorem obj_in : ∀ fuel,ObjIn enc W base sp held fuel := by
 intro fuel
 induction fuel using Nat.strongRecOn with
 | _ fuel ih =>
   intro ce x h;obtain ⟨fs,hfs,hfl⟩ := V.t28;obtain ⟨xs,n,rfl,rfl,hl,hxl,hall⟩ := DataW.trod_struct hfs h;rw [V.c28] at hl;obtain ⟨y0,e0,g0⟩ := at_of hfl hall hxl 0 rfl V.c3;obtain ⟨y1,e1,g1⟩ := at_of hfl hall hxl 1 rfl V.c3;obtain ⟨y2,e2,g2⟩ := at_of hfl hall hxl 2 rfl V.c3;obtain ⟨y3,e3,g3⟩ := at_of hfl hall hxl 3 rfl V.c24;obtain ⟨y4,e4,g4⟩ := at_of hfl hall hxl 4 rfl V.c9;obtain ⟨y5,e5,g5⟩ := at_of hfl hall hxl 5 rfl V.c25;obtain ⟨y6,e6,g6⟩ := at_of hfl hall hxl 6 rfl V.c26
   have hxs : xs = [y0,y1,y2,y3,y4,y5,y6] := by
    have h7 : xs.length = 7 := by
     have := congrArg List.length hfl;simp at this;omega
    exact sevenV h7 e0 e1 e2 e3 e4 e5 e6
   subst hxs;obtain ⟨kd,c0,rfl,w0⟩ := DataW.trod_int V.t3 g0;obtain ⟨nn,c1,rfl,w1⟩ := DataW.trod_int V.t3 g1;obtain ⟨gg,c2,rfl,w2⟩ := DataW.trod_int V.t3 g2;obtain ⟨fl,c3,rfl,w3⟩ := trod_f64 V.t24 g3;obtain ⟨⟨⟨tt⟩⟩,c4,rfl,_⟩ := DataW.trod_string V.t9 g4;obtain ⟨kv,ks,c5,hk,bk⟩ := slice_strs g5;obtain ⟨lv,os,ys,c6,ho,hkk,hoi,bo⟩ := slice_objs (fun m hm => ih m (by omega)) g6;have hce : ce = ov7 kd nn gg fl tt kv lv := sevenW hl (one_of c0) (one_of c1) (one_of c2) (one_of c3) (one_of c4) (one_of c5) (one_of c6)
   have wf : ∀ n : Int,(Lit.int .i64 n).wf = true → -9223372036854775808 ≤ n ∧ n ≤ 9223372036854775807 := fun n h => by
    simp only [Lit.wf,Bool.and_eq_true,decide_eq_true_eq] at h;exact h
   refine ⟨.mk kd nn gg fl tt ks os,?_,?_,?_⟩
   · unfold ORep;exact ⟨kv,lv,ys,hce,hk,ho,hkk⟩
   · unfold OInt;refine ⟨wf _ w0,wf _ w1,wf _ w2,?_,hoi⟩;simpa [Lit.wf] using w3
   rw [bulkO];simp only [List.map_cons,List.map_nil,Rows.uptoBulk,Rows.uptoBulkAll];omega
theorem args_in {v1 v2 : Value} {d1 d2 : DataW H} {p1 p2 : List MemPlace} (h1 : DataW.Trod enc Tryz.prog W base sp held 31 v1 d1 p1) (h2 : DataW.Trod enc Tryz.prog W base sp held 26 v2 d2 p2) (hb : Rows.uptoSmall H [d1,d2] = true) (hv1 : v1.cells.toList = [v1]) (hv2 : v2.cells.toList = [v2]) :
 ∃ (A A2 : Option Addr) (c c2 : Nat) (ns : List Int) (os : List OObj) (xs : List Value),v1 = .slice A ns.length c ∧ v2 = .slice A2 os.length c2 ∧ (0 < ns.length → ∃ b off,A = some ⟨b,off,none⟩ ∧ b < W.heap.size ∧ ∀ i (h : i < ns.length),W.cell? ⟨b,off + i,none⟩ = some (.int .i64 ns[i])) ∧
   InSl W W.heap.size 7 (.slice A2 os.length c2) os.length xs ∧ OKids W W.heap.size os xs ∧ OIntL os ∧ bulkL os ≤ 1048576 ∧ ns.length ≤ 1048576 := by
 obtain ⟨f1,h1⟩ := h1;obtain ⟨f2,h2⟩ := h2;have hb' := of_decide_eq_true hb;simp only [Rows.uptoBulkAll] at hb';rw [hv1] at h1;rw [hv2] at h2;obtain ⟨A,c,ns,e1,k1,k2⟩ := slice_ints h1;obtain ⟨v,os,xs,e2,j1,j2,j3,j4⟩ := slice_objs (fun m _ => obj_in m) h2;injection e1 with e1 _;injection e2 with e2 _;subst e2;have j1' := j1;obtain ⟨A2,c2,rfl,_⟩ := j1;simp only at k2 j4;exact ⟨A,A2,c,c2,ns,os,xs,e1,rfl,k1,j1',j2,j3,by omega,by omega⟩
end
end Go.Proofs.YtcpijmbdibgdmaaGreatDoor
namespace Go.Proofs.YtcpijmbdibgdmaaGreatDoor
open Go.RowKit
attribute [local go_sem] ba_get store_flt
theorem drop0L {t : List UInt8} {i0 : Nat} (h : i0 < t.length) : t[i0] ∈ t.drop i0 := by
 have : t[i0] = (t.drop i0)[0]'(by rw [List.length_drop];omega) := by rw [List.getElem_drop];rfl
 rw [this];exact List.getElem_mem _
theorem at_anyL (fv hi lo : Nat → Nat) (lb lo' lc pb po pc fb fo fc : Nat) (t : List UInt8) (W0 w : World) (hP : PW fv hi lo lb lo' lc pb po pc fb fo fc W0) (hW : Below W0.heap.size W0 w) (ht : numM t = .real) :
 Calls Tryz.prog 151 #[S t] w fun e w' => e = .returned (.tuple #[.float .f64 (atF fv hi lo t),.int .i64 t.length,.nilIface]) ∧ Below w.heap.size w w' := by
 obtain ⟨n,a,ha,hn,hn0,hin,hdot,hok⟩ := real_fin ht;obtain ⟨i0,hu,hsg⟩ := sign_of t;obtain ⟨hlen,hulen⟩ := real_len ht;unfold atF;rw [hu] at hin hdot hok hulen ⊢;have hi0 : i0 < t.length := by rw [List.length_drop] at hulen;omega
 have hmem := okR_mem _ _ hok;have h1 := hin.h1;have h2 := hin.h2;have h6 := hin.h6;have h7 := hin.h7;have hm : (rfL RFS.zero (t.drop i0)).m < 10000000000000000000 := Nat.lt_of_lt_of_le hin.h3 (pow_num (b := 19) (by omega) (by decide));refine at_core fv hi lo lb lo' lc pb po pc fb fo fc t (rfL RFS.zero (t.drop i0)) (nL 0 (t.drop i0)) (negB t) W0 w hP hW hlen ?_ ?_ ?_ hm ?_ ⟨by omega,by omega⟩ (by rw [hin.h5];omega) ?_
 · intro w;refine special_any t w (by omega) (by omega) ?_;rcases hsg with ⟨rfl,_,h⟩ | ⟨rfl,h0,h⟩
   · left;have h3 := h hi0;have h4 := hmem _ (drop0L hi0);omega
   right;refine ⟨by omega,fun h5 => ?_⟩;have h4 := hmem _ (drop0L hi0);omega
 · intro w;exact rf_core t i0 (negB t) w (by omega) _ rfl hok hdot (hin.h9 hn0) ⟨by omega,by omega⟩ (by omega) hi0 hsg
 · intro w p hD;exact set_core p t _ i0 _ (negB t) w (by omega) hD _ rfl rfl hok hdot (hin.h9 hn0) hin.h5 hi0 hsg
 · unfold expF;split <;> omega
 · intro hm0 e;have h5 := hin.h5;rw [e,nd_zero] at h5;exact hm0 (hin.h10 h5.symm)
theorem pfa_of (fv hi lo : Nat → Nat) (lb lo' lc pb po pc fb fo fc : Nat) (W0 : World) (hP : PW fv hi lo lb lo' lc pb po pc fb fo fc W0) : PFAll (atF fv hi lo) W0 := by
 intro t w ht hW;have hA := at_anyL fv hi lo lb lo' lc pb po pc fb fo fc t W0 w hP hW ht;obtain ⟨x,hx⟩ : ∃ x,x = atF fv hi lo t := ⟨_,rfl⟩;rw [← hx] at hA ⊢;clear hx;have t1 : ((t.length : Int) != (t.length : Int)) = false := by simp
 have h121 : Calls Tryz.prog 121 #[S t,.int .i64 64] w fun e w' => e = .returned (.tuple #[.float .f64 x,.int .i64 t.length,.nilIface]) ∧ Below w.heap.size w w' := by
  go_enter Tryz.func121,Tryz.ntmps121;go_wp2_with fail;refine hA.mono ?_;rintro e w1 ⟨rfl,hB⟩;go_wp2_with fail;refine bodyPost_ret (v := .tuple #[.float .f64 x,.int .i64 t.length,.nilIface]) (by simp [results,Tryz.results121,go_sem]) rfl ?_;exact ⟨rfl,hB⟩
 clear hA
 have h101 : Calls Tryz.prog 101 #[S t,.int .i64 64] w fun e w' => e = .returned (.tuple #[.float .f64 x,.nilIface]) ∧ Below w.heap.size w w' := by
  go_enter Tryz.func101,Tryz.ntmps101;go_wp2_with fail;refine h121.mono ?_;rintro e w1 ⟨rfl,hB⟩;go_wp2_with fail;refine bodyPost_ret (v := .tuple #[.float .f64 x,.nilIface]) (by simp [results,Tryz.results101,go_sem]) rfl ?_;exact ⟨rfl,hB⟩
 clear h121
 have h84 : Calls Tryz.prog 84 #[S t,.int .i64 64] w fun e w' => e = .returned (.tuple #[.float .f64 x,.nilIface]) ∧ Below w.heap.size w w' := by
  go_enter Tryz.func84,Tryz.ntmps84;go_wp2_with fail;refine h101.mono ?_;rintro e w1 ⟨rfl,hB⟩;go_wp2_with fail;refine bodyPost_ret (v := .tuple #[.float .f64 x,.nilIface]) (by simp [results,Tryz.results84,go_sem]) rfl ?_;exact ⟨rfl,hB⟩
 exact h84
end Go.Proofs.YtcpijmbdibgdmaaGreatDoor
