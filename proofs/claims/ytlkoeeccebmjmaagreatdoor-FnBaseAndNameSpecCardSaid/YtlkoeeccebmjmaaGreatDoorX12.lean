/- Texts that the law leans on: PCorex9, PCorex10. Condition: as told at each. -/
import Derived.Test.YtlkoeeccebmjmaaGreatDoorXa
import Derived.Test.YtlkoeeccebmjmaaGreatDoorX11
set_option linter.unusedVariables false
set_option linter.unusedSimpArgs false
set_option maxRecDepth 100000
set_option maxHeartbeats 16000000
namespace Go.Proofs.YtlkoeeccebmjmaaGreatDoor.PCore
open Go.RowKit Go.ZW.PrintWords Go.ZW.PrintLast Go.ZW.PrintMore
attribute [local go_sem] lD lF mD mE kR kS lE lG   -- for this text's walks alone
def jD.f (k:Nat) (a0:ByteArray):Option (ByteArray):=(eR.f k a0 (a0.size:Int)).bind fun t184=>(if t184≤0 then (some (⟨#[]⟩:ByteArray)) else (if 0≤t184 then (if t184≤(a0.size:Int) then ((gR.f k (a0.extract 0 (t184:Int).toNat)).bind fun t185=>(some t185)) else (none)) else (none)))
theorem jD.mono:∀ a0 k,LeO (jD.f k a0) (jD.f (k+1) a0):=by
 intro a0 k;unfold jD.f
 repeat' first
  | (with_reducible exact gR.mono _ _)
  | (with_reducible exact eR.mono _ _ _)
  | (with_reducible exact LeO.refl _)
  | (with_reducible exact LeO.none _)
  | (with_reducible refine LeO.ite ?_ ?_)
  | (with_reducible refine LeO.bind ?_ (fun _=>?_))
  | exact gR.mono _ _
  | exact eR.mono _ _ _
  | exact LeO.none _
  | refine LeO.ite ?_ ?_
  | refine LeO.bind ?_ (fun _=>?_)
theorem jD.calls (k:Nat) (a0:ByteArray) (r:ByteArray) (w:World) (h:jD.f k a0=some r) :
 Calls Tryz.prog 102 #[.string a0] w fun e w'=>e = .returned (.string r)∧eV w w':=by
 unfold jD.f at h;have H:=h;clear h;replace H:=Option.bind_eq_some_iff.mp H;obtain ⟨t184,A20,H⟩:=H;have A2:=bW A20;clear A20
 by_cases c3:t184≤0
 ·rw[if_pos c3] at H;have c3b0:=decide_eq_true c3;clear c3;obtain rfl:=Option.some.inj H;go_enter Tryz.func102,Tryz.ntmps102
  go_wp2_with (first | ((with_reducible refine eQ (f:=106) rfl ?_);refine fU (some 7) rfl rfl Tryz.func106 bB rfl #[.string a0,.int .i64 (a0.size:Int)] rfl bD ?_;(with_reducible refine (eR.calls k a0 (a0.size:Int) t184 _ A2.out).mono ?_);rintro e w' ⟨rfl,⟨nd,rfl⟩⟩;refine ⟨_,rfl,?_⟩))
  go_ret;exact ⟨bE,dH⟩
 rw[if_neg c3] at H;have c3b0:=decide_eq_false c3;clear c3
 by_cases c4:0≤t184
 ·rw[if_pos c4] at H;have c4b0:=eq_true c4;have c4b1:=decide_eq_true c4;clear c4
  by_cases c5:t184≤(a0.size:Int)
  ·rw[if_pos c5] at H;have c5b0:=eq_true c5;have c5b1:=decide_eq_true c5;clear c5;replace H:=Option.bind_eq_some_iff.mp H;obtain ⟨t185,A60,H⟩:=H;have A6:=bW A60;clear A60;obtain rfl:=Option.some.inj H;go_enter Tryz.func102,Tryz.ntmps102
   go_wp2_with (first | ((with_reducible refine eQ (f:=106) rfl ?_);refine fU (some 7) rfl rfl Tryz.func106 bB rfl #[.string a0,.int .i64 (a0.size:Int)] rfl bD ?_;(with_reducible refine (eR.calls k a0 (a0.size:Int) t184 _ A2.out).mono ?_);rintro e w' ⟨rfl,⟨nd,rfl⟩⟩;refine ⟨_,rfl,?_⟩) | ((with_reducible refine eQ (f:=59) rfl ?_);refine fU (some 13) rfl rfl Tryz.func59 bB rfl #[.string (a0.extract 0 (t184:Int).toNat)] rfl bD ?_;(with_reducible refine (gR.calls k (a0.extract 0 (t184:Int).toNat) t185 _ A6.out).mono ?_);rintro e w' ⟨rfl,⟨nd,rfl⟩⟩;refine ⟨_,rfl,?_⟩))
   go_ret;exact ⟨bE,dH⟩
  rw[if_neg c5] at H;exact absurd H bJ
 rw[if_neg c4] at H;exact absurd H bJ
def eX.l0:Nat→ByteArray→List ByteArray→Int→Int→Option (List ByteArray)
 | 0,_,_,_,_=>none
 | k+1,x0,x3,x4,x5=>if x5≤(x0.size:Int) then (if x5=(x0.size:Int) then (if 0≤x4 then (if x4≤x5 then (if x3.length < 8796093022208 then (eX.l0 k x0 (x3++[x0.extract (x4:Int).toNat (x5:Int).toNat]) (wrap64 (x5+1)) (wrap64 (x5+1))) else (none)) else (none)) else (none)) else (if 0≤x5 then (if x5 < (x0.size:Int) then (if (bt x0 x5)=47 then (if 0≤x4 then (if x4≤x5 then (if x3.length < 8796093022208 then (eX.l0 k x0 (x3++[x0.extract (x4:Int).toNat (x5:Int).toNat]) (wrap64 (x5+1)) (wrap64 (x5+1))) else (none)) else (none)) else (none)) else (eX.l0 k x0 x3 x4 (wrap64 (x5+1)))) else (none)) else (none))) else (some x3)
def eX.f (k:Nat) (a0:ByteArray):Option (List ByteArray):=eX.l0 k a0 ([]:List ByteArray) 1 1
theorem eX.mono_l:∀ k,(∀ y0 y1 y2 y3,LeO (eX.l0 k y0 y1 y2 y3) (eX.l0 (k+1) y0 y1 y2 y3))
 | 0=>fun _ _ _ _ r h=>by simp[eX.l0] at h
 | k+1=>by
  have ih0:=eX.mono_l k
  intro y0 y1 y2 y3;unfold eX.l0
  exact cW
theorem eX.mono:∀ a0 k,LeO (eX.f k a0) (eX.f (k+1) a0):=by
 intro a0 k;have ih0:=eX.mono_l k;unfold eX.f
 exact cW
theorem eX.calls (k:Nat) (a0:ByteArray) (r:List ByteArray) (w:World) (h:eX.f k a0=some r) :
 Calls Tryz.prog 44 #[.string a0] w fun e w'=>∃ v0_:Value,e = .returned (v0_)∧Kd.R Kd.string 9 w' w.heap.size (fun _=>True) v0_ r∧Below w.heap.size w w':=by
 have HB:=bW (Below.refl w.heap.size w);unfold eX.f at h;have H:=h;clear h;have H':=bW H;clear H;go_enter Tryz.func44,Tryz.ntmps44;go_wp2
 go_loopg [3,4,5] k (fun kq v3 v4 v5 w'=>∃ (x3_1:List ByteArray) (x4_1:Int) (x5_1:Int),v4 = .int .i64 x4_1∧v5 = .int .i64 x5_1∧Aside0 (eX.l0 kq a0 x3_1 x4_1 x5_1=some r)∧Aside0 (kq≤k)∧Aside0 (Kd.R Kd.string 9 w' w.heap.size (fun _=>True) v3 x3_1)∧Aside0 (Below w.heap.size w w'))
 case atStart=>exact ⟨(([]:List ByteArray)),(1),(1),bE,bE,H',⟨Nat.le_refl _⟩,⟨by first | exact Kd.R_nil _ _ _ _ _ | exact Kd.N_nil _ _ _ _ _ | exact Kd.V_nil _ _ _ _ _ | exact Kd.Q_nil _ _ _ _ _ | exact Kd.S_nil _ _ _ _ _⟩,⟨aA⟩⟩
 case round =>
  clear H';obtain ⟨x3_1,x4_1,x5_1,rfl,rfl,HA,HK1,HO_3,HB⟩:=hrel
  cases gk with
  | zero=>exact absurd HA.out (by simp[eX.l0])
  | succ k1 =>
   have H:=HA.out;clear HA;simp only[eX.l0] at H
   by_cases c2:x5_1≤(a0.size:Int)
   ·rw[if_pos c2] at H;have c2b0:=decide_eq_true c2;clear c2
    by_cases c3:x5_1=(a0.size:Int)
    ·rw[if_pos c3] at H;have c3b0:=beq_iff_eq.mpr c3;have c3b1:=bne_eq_false_iff_eq.mpr c3;clear c3
     by_cases c4:0≤x4_1
     ·rw[if_pos c4] at H;have c4b0:=eq_true c4;have c4b1:=decide_eq_true c4;clear c4
      by_cases c5:x4_1≤x5_1
      ·rw[if_pos c5] at H;have c5b0:=eq_true c5;have c5b1:=decide_eq_true c5;clear c5;have c6b0:=eq_true (bV:x5_1≤(a0.size:Int))
       by_cases c7:x3_1.length < 8796093022208
       ·rw[if_pos c7] at H;have LMc7:=bW c7;clear c7
        obtain ⟨y186,hy186⟩:∃ y_:List ByteArray,y_=(x3_1++[a0.extract (x4_1:Int).toNat (x5_1:Int).toNat]):=⟨_,rfl⟩
        replace H:(eX.l0 k1 a0 y186 (wrap64 (x5_1+1)) (wrap64 (x5_1+1)))=some r:=by first | (rw[hy186];with_reducible exact H) | (have H2_:=(Option.bind_some _ _).symm.trans H;rw[hy186];with_reducible exact H2_) | (have H2_:=(Option.bind_some _ _).symm.trans H;with_reducible exact H2_) | with_reducible exact H | (rw[hy186];exact H) | exact H
        have Ny186:=bW hy186;clear hy186;have H':=bW H;clear H
        go_wp2_with (first | ((with_reducible refine nY (b:=.append) (xs:=#[.tmp 22,.tmp 27]) rfl ?_);at_builtin;refine Kd.R_append Kd.string (w0:=w) w.heap.size rfl (.tmp 22) (.tmp 27) 22 9 (.string ⟨#[]⟩) 16 rfl Tryz.underlying22 info9 rfl bF bA u3 x3_1 (a0.extract (x4_1:Int).toNat (x5_1:Int).toNat) [.string (a0.extract (x4_1:Int).toNat (x5_1:Int).toNat)] (fun _=>True) (fun _=>False) rfl rfl ?aP (fun _ hk=>hk.elim) ?aF ?aO ?aB ?aS ?aL ?_;(case aP=>exact rfl);(case aB=>exact bC);(case aF=>exact (fun _ _=>trivial));(case aO=>exact bO);(case aS=>exact (eJ bC));(case aL=>have:=LMc7.out;omega);intro v187 w8 ho hb hg hat;rw[← Ny186.out] at ho;have n0_:=bW (hb);have n1_:=bW (ho);clear HB;clear HO_3;have HB:=n0_;have HO188:=n1_;clear n0_ n1_;clear ho hb hg hat))
        go_roundg k1
        case measure=>have:=HK1.out;omega
        case rel=>exact ⟨(y186),(wrap64 (x5_1+1)),(wrap64 (x5_1+1)),bE,bE,H',⟨aW⟩,⟨by (with_reducible repeat (first | apply Kd.R_alloc | apply Kd.R_drewN | apply Kd.R_drew));exact HO188.out⟩,⟨aA⟩⟩
       rw[if_neg c7] at H;exact absurd H bJ
      rw[if_neg c5] at H;exact absurd H bJ
     rw[if_neg c4] at H;exact absurd H bJ
    rw[if_neg c3] at H;have c3b0:=beq_eq_false_iff_ne.mpr c3;have c3b1:=bne_iff_ne.mpr c3
    by_cases c9:0≤x5_1
    ·rw[if_pos c9] at H;have c9b0:=decide_eq_true c9;clear c9
     by_cases c10:x5_1 < (a0.size:Int)
     ·rw[if_pos c10] at H;have c10b0:=decide_eq_true c10;clear c10
      by_cases c12:(bt a0 x5_1)=47
      ·rw[if_pos c12] at H;have c12b0:=beq_iff_eq.mpr c12;have c12b1:=bne_eq_false_iff_eq.mpr c12;clear c12
       by_cases c13:0≤x4_1
       ·rw[if_pos c13] at H;have c13b0:=eq_true c13;have c13b1:=decide_eq_true c13;clear c13
        by_cases c14:x4_1≤x5_1
        ·rw[if_pos c14] at H;have c14b0:=eq_true c14;have c14b1:=decide_eq_true c14;clear c14;have c15b0:=eq_true (bV:x5_1≤(a0.size:Int))
         by_cases c16:x3_1.length < 8796093022208
         ·rw[if_pos c16] at H;have LMc16:=bW c16;clear c16
          obtain ⟨y189,hy189⟩:∃ y_:List ByteArray,y_=(x3_1++[a0.extract (x4_1:Int).toNat (x5_1:Int).toNat]):=⟨_,rfl⟩
          replace H:(eX.l0 k1 a0 y189 (wrap64 (x5_1+1)) (wrap64 (x5_1+1)))=some r:=by first | (rw[hy189];with_reducible exact H) | (have H2_:=(Option.bind_some _ _).symm.trans H;rw[hy189];with_reducible exact H2_) | (have H2_:=(Option.bind_some _ _).symm.trans H;with_reducible exact H2_) | with_reducible exact H | (rw[hy189];exact H) | exact H
          have Ny189:=bW hy189;clear hy189;have H':=bW H;clear H;have p11:0≤(x5_1:Int):=bV;have q11:x5_1 < (a0.size:Int):=bV;have hx11:=fN a0 x5_1;replace p11:=eq_true p11;replace q11:=eq_true q11
          go_wp2_with (first | ((with_reducible refine nY (b:=.append) (xs:=#[.tmp 22,.tmp 27]) rfl ?_);at_builtin;refine Kd.R_append Kd.string (w0:=w) w.heap.size rfl (.tmp 22) (.tmp 27) 22 9 (.string ⟨#[]⟩) 16 rfl Tryz.underlying22 info9 rfl bF bA u3 x3_1 (a0.extract (x4_1:Int).toNat (x5_1:Int).toNat) [.string (a0.extract (x4_1:Int).toNat (x5_1:Int).toNat)] (fun _=>True) (fun _=>False) rfl rfl ?aP (fun _ hk=>hk.elim) ?aF ?aO ?aB ?aS ?aL ?_;(case aP=>exact rfl);(case aB=>exact bC);(case aF=>exact (fun _ _=>trivial));(case aO=>exact bO);(case aS=>exact (eJ bC));(case aL=>have:=LMc16.out;omega);intro v190 w17 ho hb hg hat;rw[← Ny189.out] at ho;have n0_:=bW (hb);have n1_:=bW (ho);clear HB;clear HO_3;have HB:=n0_;have HO191:=n1_;clear n0_ n1_;clear ho hb hg hat))
          go_roundg k1
          case measure=>have:=HK1.out;omega
          case rel=>exact ⟨(y189),(wrap64 (x5_1+1)),(wrap64 (x5_1+1)),bE,bE,H',⟨aW⟩,⟨by (with_reducible repeat (first | apply Kd.R_alloc | apply Kd.R_drewN | apply Kd.R_drew));exact HO191.out⟩,⟨aA⟩⟩
         rw[if_neg c16] at H;exact absurd H bJ
        rw[if_neg c14] at H;exact absurd H bJ
       rw[if_neg c13] at H;exact absurd H bJ
      rw[if_neg c12] at H;have c12b0:=beq_eq_false_iff_ne.mpr c12;have c12b1:=bne_iff_ne.mpr c12;have H':=bW H;clear H;have p11:0≤(x5_1:Int):=bV;have q11:x5_1 < (a0.size:Int):=bV;have hx11:=fN a0 x5_1;replace p11:=eq_true p11;replace q11:=eq_true q11;go_wp2
      go_roundg k1
      case measure=>have:=HK1.out;omega
      case rel=>exact ⟨(x3_1),(x4_1),(wrap64 (x5_1+1)),bE,bE,H',⟨aW⟩,⟨aI⟩,⟨aA⟩⟩
     rw[if_neg c10] at H;exact absurd H bJ
    rw[if_neg c9] at H;exact absurd H bJ
   rw[if_neg c2] at H;have c2b0:=decide_eq_false c2;clear c2;obtain rfl:=Option.some.inj H;go_wp2;go_ret;exact ⟨_,aC,aI,aA⟩
def iC.f (a0:Int):Option (Bool):=if a0≥3 then (some (decide (a0≤5))) else (some false)
theorem iC.calls (a0:Int) (r:Bool) (w:World) (h:iC.f a0=some r) :
 Calls Tryz.prog 105 #[.int .i64 a0] w fun e w'=>e = .returned (.bool r)∧eV w w':=by
 unfold iC.f at h;have H:=h;clear h
 by_cases c2:a0≥3
 ·rw[if_pos c2] at H;have c2b0:=decide_eq_true c2;clear c2;obtain rfl:=Option.some.inj H;go_enter Tryz.func105,Tryz.ntmps105;go_wp2;go_ret;exact ⟨bE,dH⟩
 rw[if_neg c2] at H;have c2b0:=decide_eq_false c2;clear c2;obtain rfl:=Option.some.inj H;go_enter Tryz.func105,Tryz.ntmps105;go_wp2;go_ret;exact ⟨bE,dH⟩
def iC.Pure:Prop:=∀ (a0:Int),(Lit.int .i64 a0).wf=true→iC.f a0=some true
theorem iC.walk (P:iC.Pure) (a0:Int) (w:World) (w0:(Lit.int .i64 a0).wf=true) :
 Calls Tryz.prog 105 #[.int .i64 a0] w fun e w'=>e = .returned (.bool true)∧Below w.heap.size w w':=by
 have h:=P a0 w0;refine (iC.calls a0 true w h).mono ?_;rintro e w' ⟨rfl,hd⟩;exact ⟨rfl,hd.below⟩
def jO.f (k:Nat) (a0_0:ByteArray) (a0_1:ByteArray) (a0_2:ByteArray) (a0_3:Int) (l0_4:List ByteArray) (l0_5:List ByteArray) (l0_6:List ByteArray) (a0_7:ByteArray) (a0_8:ByteArray) (a0_9:ByteArray) (a0_10:ByteArray) (a0_11:ByteArray) (a0_12:ByteArray) (a0_13:Bool) (a0_14:Int):Option (ByteArray):=(eX.f k a0_1).bind fun t193=>(if (t193.length:Int) < 2 then (some (⟨#[]⟩:ByteArray)) else (if (t193.length:Int)=2 then (if a0_14=3 then (some (⟨#[]⟩:ByteArray)) else (if 0 < (t193.length:Int) then (some (iB ByteArray.empty t193 0)) else (none))) else (if 0 < (t193.length:Int) then (some (iB ByteArray.empty t193 0)) else (none))))
theorem jO.mono:∀ a0 a1 a2 a3 a4 a5 a6 a7 a8 a9 a10 a11 a12 a13 a14 k,LeO (jO.f k a0 a1 a2 a3 a4 a5 a6 a7 a8 a9 a10 a11 a12 a13 a14) (jO.f (k+1) a0 a1 a2 a3 a4 a5 a6 a7 a8 a9 a10 a11 a12 a13 a14):=by
 intro a0 a1 a2 a3 a4 a5 a6 a7 a8 a9 a10 a11 a12 a13 a14 k;unfold jO.f
 repeat' first
  | (with_reducible exact eX.mono _ _)
  | (with_reducible exact LeO.refl _)
  | (with_reducible exact LeO.none _)
  | (with_reducible refine LeO.ite ?_ ?_)
  | (with_reducible refine LeO.bind ?_ (fun _=>?_))
  | exact eX.mono _ _
  | exact LeO.none _
  | refine LeO.ite ?_ ?_
  | refine LeO.bind ?_ (fun _=>?_)
theorem jO.calls (k:Nat) (a0_0:ByteArray) (a0_1:ByteArray) (a0_2:ByteArray) (a0_3:Int) (A0_4:Option Addr) (c0_4:Nat) (l0_4:List ByteArray) (A0_5:Option Addr) (c0_5:Nat) (l0_5:List ByteArray) (A0_6:Option Addr) (c0_6:Nat) (l0_6:List ByteArray) (a0_7:ByteArray) (a0_8:ByteArray) (a0_9:ByteArray) (a0_10:ByteArray) (a0_11:ByteArray) (a0_12:ByteArray) (a0_13:Bool) (a0_14:Int) (r:ByteArray) (w:World) (hr0_4:Kd.C Kd.string w A0_4 l0_4.length l0_4) (hc0_4:l0_4.length≤c0_4) (hr0_5:Kd.C Kd.string w A0_5 l0_5.length l0_5) (hc0_5:l0_5.length≤c0_5) (hr0_6:Kd.C Kd.string w A0_6 l0_6.length l0_6) (hc0_6:l0_6.length≤c0_6) (h:jO.f k a0_0 a0_1 a0_2 a0_3 l0_4 l0_5 l0_6 a0_7 a0_8 a0_9 a0_10 a0_11 a0_12 a0_13 a0_14=some r) :
 Calls Tryz.prog 103 #[.agg #[.string a0_0,.string a0_1,.string a0_2,.int .i64 a0_3,.slice A0_4 l0_4.length c0_4,.slice A0_5 l0_5.length c0_5,.slice A0_6 l0_6.length c0_6,.string a0_7,.string a0_8,.string a0_9,.string a0_10,.string a0_11,.string a0_12,.bool a0_13,.int .i64 a0_14]] w fun e w'=>e = .returned (.string r)∧Below w.heap.size w w':=by
 have hu58:=Tryz.underlying58;have HR0_4:=bW hr0_4;have HC0_4:=bW hc0_4;clear hr0_4 hc0_4;have HR0_5:=bW hr0_5;have HC0_5:=bW hc0_5;clear hr0_5 hc0_5;have HR0_6:=bW hr0_6;have HC0_6:=bW hc0_6;clear hr0_6 hc0_6;have HB:=bW (Below.refl w.heap.size w);unfold jO.f at h;have H:=h;clear h;replace H:=Option.bind_eq_some_iff.mp H;obtain ⟨t193,A20,H⟩:=H;have A2:=bW A20;clear A20
 by_cases c3:(t193.length:Int) < 2
 ·rw[if_pos c3] at H;have c3b0:=decide_eq_true c3;have c3b1:decide (t193.length < 2)=true:=decide_eq_true bA;clear c3;obtain rfl:=Option.some.inj H;go_enter Tryz.func103,Tryz.ntmps103
  go_wp2_with (first | ((with_reducible refine gO (N:=1) rfl ?_);(try (refine iU bH ?_;dsimp only));refine gH ?hg (N:=1) ?hd (cs:=#[.string a0_0,.string a0_1,.string a0_2,.int .i64 a0_3,.slice A0_4 l0_4.length c0_4,.slice A0_5 l0_5.length c0_5,.slice A0_6 l0_6.length c0_6,.string a0_7,.string a0_8,.string a0_9,.string a0_10,.string a0_11,.string a0_12,.bool a0_13,.int .i64 a0_14]) (t:=58) ?hr ?_;(case hd=>rfl);(case hg=>rfl);(case hr=>exact cA);intro gb192 hg w4 hbox hb;have BK192:=bW (hbox);have GW192:=bW ((by rw[hg];exact (eJ bC):w.heap.size≤gb192));have GE192:=bW ((by rw[hg];exact (eJ bC):w.heap.size≤gb192));replace HB:=bW (eA bC hb);clear hb hbox hg;have hcz5_1:w4.cell? ⟨gb192,1,none⟩=some (.string a0_1):=(dY BK192.out 1).trans rfl;have hcz5_14:w4.cell? ⟨gb192,14,none⟩=some (.int .i64 a0_14):=(dY BK192.out 14).trans rfl) | ((with_reducible refine eQ (f:=44) rfl ?_);refine fU (some 6) rfl rfl Tryz.func44 bB rfl #[.string a0_1] rfl bD ?_;(with_reducible refine (eX.calls k a0_1 t193 _ A2.out).mono ?_);rintro e w6 ⟨v194,rfl,ho0,hb⟩;refine ⟨_,rfl,?_⟩;have n0_:=bW (Kd.R_lower ho0 (eJ (by repeat (first | (with_reducible first | exact HB.out | apply fC | apply eU | apply fG | refine fT ?_ GE192.out) | exact HB.out))));have n1_:=bW (hJ (g:=gb192) (o:=.cells #[.string a0_0,.string a0_1,.string a0_2,.int .i64 a0_3,.slice A0_4 l0_4.length c0_4,.slice A0_5 l0_5.length c0_5,.slice A0_6 l0_6.length c0_6,.string a0_7,.string a0_8,.string a0_9,.string a0_10,.string a0_11,.string a0_12,.bool a0_13,.int .i64 a0_14] 58 (0,0)) (by (with_reducible repeat (first | refine fZ ?_ _ | refine gC ?_ | refine fY ?_ _));exact BK192.out) hb);have n2_:=bW (eA (by repeat (first | (with_reducible first | exact HB.out | apply fC | apply eU | apply fG | refine fT ?_ GE192.out) | exact HB.out)) hb);clear BK192;clear HB;have HO195:=n0_;have BK192:=n1_;have HB:=n2_;clear n0_ n1_ n2_;(try clear hb);(try clear hb2);(try clear hk);(try clear hi);(try clear ho0);obtain ⟨Ao7,co7,eo7⟩:=Kd.R_slice HO195.out;subst eo7))
  go_ret;exact ⟨aC,aV⟩
 rw[if_neg c3] at H;have c3b0:=decide_eq_false c3;have c3b1:decide (t193.length < 2)=false:=decide_eq_false bA;clear c3
 by_cases c8:(t193.length:Int)=2
 ·rw[if_pos c8] at H;have c8b0:=beq_iff_eq.mpr c8;have c8b1:=bne_eq_false_iff_eq.mpr c8;clear c8
  by_cases c9:a0_14=3
  ·rw[if_pos c9] at H;have c9b0:=beq_iff_eq.mpr c9;have c9b1:=bne_eq_false_iff_eq.mpr c9;clear c9;obtain rfl:=Option.some.inj H;go_enter Tryz.func103,Tryz.ntmps103
   go_wp2_with (first | ((with_reducible refine gO (N:=1) rfl ?_);(try (refine iU bH ?_;dsimp only));refine gH ?hg (N:=1) ?hd (cs:=#[.string a0_0,.string a0_1,.string a0_2,.int .i64 a0_3,.slice A0_4 l0_4.length c0_4,.slice A0_5 l0_5.length c0_5,.slice A0_6 l0_6.length c0_6,.string a0_7,.string a0_8,.string a0_9,.string a0_10,.string a0_11,.string a0_12,.bool a0_13,.int .i64 a0_14]) (t:=58) ?hr ?_;(case hd=>rfl);(case hg=>rfl);(case hr=>exact cA);intro gb192 hg w10 hbox hb;have BK192:=bW (hbox);have GW192:=bW ((by rw[hg];exact (eJ bC):w.heap.size≤gb192));have GE192:=bW ((by rw[hg];exact (eJ bC):w.heap.size≤gb192));replace HB:=bW (eA bC hb);clear hb hbox hg;have hcz11_1:w10.cell? ⟨gb192,1,none⟩=some (.string a0_1):=(dY BK192.out 1).trans rfl;have hcz11_14:w10.cell? ⟨gb192,14,none⟩=some (.int .i64 a0_14):=(dY BK192.out 14).trans rfl) | ((with_reducible refine eQ (f:=44) rfl ?_);refine fU (some 6) rfl rfl Tryz.func44 bB rfl #[.string a0_1] rfl bD ?_;(with_reducible refine (eX.calls k a0_1 t193 _ A2.out).mono ?_);rintro e w12 ⟨v194,rfl,ho0,hb⟩;refine ⟨_,rfl,?_⟩;have n0_:=bW (Kd.R_lower ho0 (eJ (by repeat (first | (with_reducible first | exact HB.out | apply fC | apply eU | apply fG | refine fT ?_ GE192.out) | exact HB.out))));have n1_:=bW (hJ (g:=gb192) (o:=.cells #[.string a0_0,.string a0_1,.string a0_2,.int .i64 a0_3,.slice A0_4 l0_4.length c0_4,.slice A0_5 l0_5.length c0_5,.slice A0_6 l0_6.length c0_6,.string a0_7,.string a0_8,.string a0_9,.string a0_10,.string a0_11,.string a0_12,.bool a0_13,.int .i64 a0_14] 58 (0,0)) (by (with_reducible repeat (first | refine fZ ?_ _ | refine gC ?_ | refine fY ?_ _));exact BK192.out) hb);have n2_:=bW (eA (by repeat (first | (with_reducible first | exact HB.out | apply fC | apply eU | apply fG | refine fT ?_ GE192.out) | exact HB.out)) hb);clear BK192;clear HB;have HO195:=n0_;have BK192:=n1_;have HB:=n2_;clear n0_ n1_ n2_;(try clear hb);(try clear hb2);(try clear hk);(try clear hi);(try clear ho0);obtain ⟨Ao13,co13,eo13⟩:=Kd.R_slice HO195.out;subst eo13;have hcz14_1:w12.cell? ⟨gb192,1,none⟩=some (.string a0_1):=(dY BK192.out 1).trans rfl;have hcz14_14:w12.cell? ⟨gb192,14,none⟩=some (.int .i64 a0_14):=(dY BK192.out 14).trans rfl))
   go_ret;exact ⟨aC,aV⟩
  rw[if_neg c9] at H;have c9b0:=beq_eq_false_iff_ne.mpr c9;have c9b1:=bne_iff_ne.mpr c9
  by_cases c15:0 < (t193.length:Int)
  ·rw[if_pos c15] at H;have c15b0:=decide_eq_true c15;have c15b1:decide (0 < t193.length)=true:=decide_eq_true bA;clear c15;obtain rfl:=Option.some.inj H;go_enter Tryz.func103,Tryz.ntmps103
   go_wp2_with (first | ((with_reducible refine gO (N:=1) rfl ?_);(try (refine iU bH ?_;dsimp only));refine gH ?hg (N:=1) ?hd (cs:=#[.string a0_0,.string a0_1,.string a0_2,.int .i64 a0_3,.slice A0_4 l0_4.length c0_4,.slice A0_5 l0_5.length c0_5,.slice A0_6 l0_6.length c0_6,.string a0_7,.string a0_8,.string a0_9,.string a0_10,.string a0_11,.string a0_12,.bool a0_13,.int .i64 a0_14]) (t:=58) ?hr ?_;(case hd=>rfl);(case hg=>rfl);(case hr=>exact cA);intro gb192 hg w16 hbox hb;have BK192:=bW (hbox);have GW192:=bW ((by rw[hg];exact (eJ bC):w.heap.size≤gb192));have GE192:=bW ((by rw[hg];exact (eJ bC):w.heap.size≤gb192));replace HB:=bW (eA bC hb);clear hb hbox hg;have hcz17_1:w16.cell? ⟨gb192,1,none⟩=some (.string a0_1):=(dY BK192.out 1).trans rfl;have hcz17_14:w16.cell? ⟨gb192,14,none⟩=some (.int .i64 a0_14):=(dY BK192.out 14).trans rfl) | ((with_reducible refine eQ (f:=44) rfl ?_);refine fU (some 6) rfl rfl Tryz.func44 bB rfl #[.string a0_1] rfl bD ?_;(with_reducible refine (eX.calls k a0_1 t193 _ A2.out).mono ?_);rintro e w18 ⟨v194,rfl,ho0,hb⟩;refine ⟨_,rfl,?_⟩;have n0_:=bW (Kd.R_lower ho0 (eJ (by repeat (first | (with_reducible first | exact HB.out | apply fC | apply eU | apply fG | refine fT ?_ GE192.out) | exact HB.out))));have n1_:=bW (hJ (g:=gb192) (o:=.cells #[.string a0_0,.string a0_1,.string a0_2,.int .i64 a0_3,.slice A0_4 l0_4.length c0_4,.slice A0_5 l0_5.length c0_5,.slice A0_6 l0_6.length c0_6,.string a0_7,.string a0_8,.string a0_9,.string a0_10,.string a0_11,.string a0_12,.bool a0_13,.int .i64 a0_14] 58 (0,0)) (by (with_reducible repeat (first | refine fZ ?_ _ | refine gC ?_ | refine fY ?_ _));exact BK192.out) hb);have n2_:=bW (eA (by repeat (first | (with_reducible first | exact HB.out | apply fC | apply eU | apply fG | refine fT ?_ GE192.out) | exact HB.out)) hb);clear BK192;clear HB;have HO195:=n0_;have BK192:=n1_;have HB:=n2_;clear n0_ n1_ n2_;(try clear hb);(try clear hb2);(try clear hk);(try clear hi);(try clear ho0);obtain ⟨Ao19,co19,eo19⟩:=Kd.R_slice HO195.out;subst eo19;have hcz20_1:w18.cell? ⟨gb192,1,none⟩=some (.string a0_1):=(dY BK192.out 1).trans rfl;have hcz20_14:w18.cell? ⟨gb192,14,none⟩=some (.int .i64 a0_14):=(dY BK192.out 14).trans rfl;have p196:0≤(0:Int):=bA;have q196:0 < (t193.length:Int):=bV;obtain ⟨ad196,e196,hx196_0⟩:=Kd.at_string (Kd.R_reads' HO195.out).2.2 0 p196 q196;cases e196;have qi196:(0 < t193.length)=True:=eq_true bA;(try rw[show ((0:Int)).toNat=0 from rfl] at hx196_0);(try rw[Addr.add_zero'] at hx196_0);replace p196:=eq_true p196;replace q196:=eq_true q196))
   go_ret;exact ⟨aC,aV⟩
  rw[if_neg c15] at H;exact absurd H bJ
 rw[if_neg c8] at H;have c8b0:=beq_eq_false_iff_ne.mpr c8;have c8b1:=bne_iff_ne.mpr c8
 by_cases c21:0 < (t193.length:Int)
 ·rw[if_pos c21] at H;have c21b0:=decide_eq_true c21;have c21b1:decide (0 < t193.length)=true:=decide_eq_true bA;clear c21;obtain rfl:=Option.some.inj H;go_enter Tryz.func103,Tryz.ntmps103
  go_wp2_with (first | ((with_reducible refine gO (N:=1) rfl ?_);(try (refine iU bH ?_;dsimp only));refine gH ?hg (N:=1) ?hd (cs:=#[.string a0_0,.string a0_1,.string a0_2,.int .i64 a0_3,.slice A0_4 l0_4.length c0_4,.slice A0_5 l0_5.length c0_5,.slice A0_6 l0_6.length c0_6,.string a0_7,.string a0_8,.string a0_9,.string a0_10,.string a0_11,.string a0_12,.bool a0_13,.int .i64 a0_14]) (t:=58) ?hr ?_;(case hd=>rfl);(case hg=>rfl);(case hr=>exact cA);intro gb192 hg w22 hbox hb;have BK192:=bW (hbox);have GW192:=bW ((by rw[hg];exact (eJ bC):w.heap.size≤gb192));have GE192:=bW ((by rw[hg];exact (eJ bC):w.heap.size≤gb192));replace HB:=bW (eA bC hb);clear hb hbox hg;have hcz23_1:w22.cell? ⟨gb192,1,none⟩=some (.string a0_1):=(dY BK192.out 1).trans rfl;have hcz23_14:w22.cell? ⟨gb192,14,none⟩=some (.int .i64 a0_14):=(dY BK192.out 14).trans rfl) | ((with_reducible refine eQ (f:=44) rfl ?_);refine fU (some 6) rfl rfl Tryz.func44 bB rfl #[.string a0_1] rfl bD ?_;(with_reducible refine (eX.calls k a0_1 t193 _ A2.out).mono ?_);rintro e w24 ⟨v194,rfl,ho0,hb⟩;refine ⟨_,rfl,?_⟩;have n0_:=bW (Kd.R_lower ho0 (eJ (by repeat (first | (with_reducible first | exact HB.out | apply fC | apply eU | apply fG | refine fT ?_ GE192.out) | exact HB.out))));have n1_:=bW (hJ (g:=gb192) (o:=.cells #[.string a0_0,.string a0_1,.string a0_2,.int .i64 a0_3,.slice A0_4 l0_4.length c0_4,.slice A0_5 l0_5.length c0_5,.slice A0_6 l0_6.length c0_6,.string a0_7,.string a0_8,.string a0_9,.string a0_10,.string a0_11,.string a0_12,.bool a0_13,.int .i64 a0_14] 58 (0,0)) (by (with_reducible repeat (first | refine fZ ?_ _ | refine gC ?_ | refine fY ?_ _));exact BK192.out) hb);have n2_:=bW (eA (by repeat (first | (with_reducible first | exact HB.out | apply fC | apply eU | apply fG | refine fT ?_ GE192.out) | exact HB.out)) hb);clear BK192;clear HB;have HO195:=n0_;have BK192:=n1_;have HB:=n2_;clear n0_ n1_ n2_;(try clear hb);(try clear hb2);(try clear hk);(try clear hi);(try clear ho0);obtain ⟨Ao25,co25,eo25⟩:=Kd.R_slice HO195.out;subst eo25;have p197:0≤(0:Int):=bA;have q197:0 < (t193.length:Int):=bV;obtain ⟨ad197,e197,hx197_0⟩:=Kd.at_string (Kd.R_reads' HO195.out).2.2 0 p197 q197;cases e197;have qi197:(0 < t193.length)=True:=eq_true bA;(try rw[show ((0:Int)).toNat=0 from rfl] at hx197_0);(try rw[Addr.add_zero'] at hx197_0);replace p197:=eq_true p197;replace q197:=eq_true q197))
  go_ret;exact ⟨aC,aV⟩
 rw[if_neg c21] at H;exact absurd H bJ
def lK.f (a0_0:ByteArray) (a0_1:ByteArray) (a0_2:ByteArray) (a0_3:Int) (l0_4:List ByteArray) (l0_5:List ByteArray) (l0_6:List ByteArray) (a0_7:ByteArray) (a0_8:ByteArray) (a0_9:ByteArray) (a0_10:ByteArray) (a0_11:ByteArray) (a0_12:ByteArray) (a0_13:Bool) (a0_14:Int):Option (ByteArray):=if 0≤(wrap64 ((a0_1.size:Int) - (a0_2.size:Int))) then (if (wrap64 ((a0_1.size:Int) - (a0_2.size:Int)))≤(a0_1.size:Int) then (some (a0_1.extract 0 ((wrap64 ((a0_1.size:Int) - (a0_2.size:Int))):Int).toNat)) else (none)) else (none)
theorem lK.calls (a0_0:ByteArray) (a0_1:ByteArray) (a0_2:ByteArray) (a0_3:Int) (A0_4:Option Addr) (c0_4:Nat) (l0_4:List ByteArray) (A0_5:Option Addr) (c0_5:Nat) (l0_5:List ByteArray) (A0_6:Option Addr) (c0_6:Nat) (l0_6:List ByteArray) (a0_7:ByteArray) (a0_8:ByteArray) (a0_9:ByteArray) (a0_10:ByteArray) (a0_11:ByteArray) (a0_12:ByteArray) (a0_13:Bool) (a0_14:Int) (r:ByteArray) (w:World) (hr0_4:Kd.C Kd.string w A0_4 l0_4.length l0_4) (hc0_4:l0_4.length≤c0_4) (hr0_5:Kd.C Kd.string w A0_5 l0_5.length l0_5) (hc0_5:l0_5.length≤c0_5) (hr0_6:Kd.C Kd.string w A0_6 l0_6.length l0_6) (hc0_6:l0_6.length≤c0_6) (h:lK.f a0_0 a0_1 a0_2 a0_3 l0_4 l0_5 l0_6 a0_7 a0_8 a0_9 a0_10 a0_11 a0_12 a0_13 a0_14=some r) :
 Calls Tryz.prog 137 #[.agg #[.string a0_0,.string a0_1,.string a0_2,.int .i64 a0_3,.slice A0_4 l0_4.length c0_4,.slice A0_5 l0_5.length c0_5,.slice A0_6 l0_6.length c0_6,.string a0_7,.string a0_8,.string a0_9,.string a0_10,.string a0_11,.string a0_12,.bool a0_13,.int .i64 a0_14]] w fun e w'=>e = .returned (.string r)∧Below w.heap.size w w':=by
 have hu58:=Tryz.underlying58;have HR0_4:=bW hr0_4;have HC0_4:=bW hc0_4;clear hr0_4 hc0_4;have HR0_5:=bW hr0_5;have HC0_5:=bW hc0_5;clear hr0_5 hc0_5;have HR0_6:=bW hr0_6;have HC0_6:=bW hc0_6;clear hr0_6 hc0_6;have HB:=bW (Below.refl w.heap.size w);unfold lK.f at h;have H:=h;clear h
 obtain ⟨ji2,hji2⟩:∃ j_:Int,(wrap64 ((a0_1.size:Int) - (a0_2.size:Int)))=j_:=⟨_,rfl⟩
 replace H:(if 0≤(ji2) then (if (ji2)≤(a0_1.size:Int) then (some (a0_1.extract 0 ((ji2):Int).toNat)) else (none)) else (none))=some r:=by first | (rw[hji2] at H;exact H) | (simp only[hji2] at H ⊢;exact H)
 have hji2w:(IntKind.i64.wrap ((a0_1.size:Int) - (a0_2.size:Int)))=ji2:=(gU _).trans hji2
 by_cases c3:0≤(ji2)
 ·rw[if_pos c3] at H;have c3b0:=eq_true c3;have c3b1:=decide_eq_true c3;clear c3
  by_cases c4:(ji2)≤(a0_1.size:Int)
  ·rw[if_pos c4] at H;have c4b0:=eq_true c4;have c4b1:=decide_eq_true c4;clear c4;obtain rfl:=Option.some.inj H;go_enter Tryz.func137,Tryz.ntmps137
   go_wp2_with (first | ((with_reducible refine gO (N:=1) rfl ?_);refine gH ?hg (N:=1) ?hd (cs:=#[.string a0_0,.string a0_1,.string a0_2,.int .i64 a0_3,.slice A0_4 l0_4.length c0_4,.slice A0_5 l0_5.length c0_5,.slice A0_6 l0_6.length c0_6,.string a0_7,.string a0_8,.string a0_9,.string a0_10,.string a0_11,.string a0_12,.bool a0_13,.int .i64 a0_14]) (t:=58) ?hr ?_;(case hd=>rfl);(case hg=>rfl);(case hr=>exact cA);intro gb198 hg w5 hbox hb;have BK198:=bW (hbox);have GW198:=bW ((by rw[hg];exact (eJ bC):w.heap.size≤gb198));have GE198:=bW ((by rw[hg];exact (eJ bC):w.heap.size≤gb198));replace HB:=bW (eA bC hb);clear hb hbox hg;have hcz6_1:w5.cell? ⟨gb198,1,none⟩=some (.string a0_1):=(dY BK198.out 1).trans rfl;have hcz6_2:w5.cell? ⟨gb198,2,none⟩=some (.string a0_2):=(dY BK198.out 2).trans rfl))
   go_ret;exact ⟨by first | rfl | (simp[oZ,pA] <;> rfl) | (simp only[← hji2];first | rfl | (simp[oZ,pA] <;> rfl)) | (simp[*,oZ,pA] <;> rfl),by repeat (first | (with_reducible first | exact HB.out | apply fC | apply eU | apply fG | refine fT ?_ GE198.out) | exact HB.out)⟩
  rw[if_neg c4] at H;exact absurd H bJ
 rw[if_neg c3] at H;exact absurd H bJ
def gB.f (a0_0:ByteArray) (a0_1:ByteArray) (a0_2:ByteArray) (a0_3:Int) (l0_4:List ByteArray) (l0_5:List ByteArray) (l0_6:List ByteArray) (a0_7:ByteArray) (a0_8:ByteArray) (a0_9:ByteArray) (a0_10:ByteArray) (a0_11:ByteArray) (a0_12:ByteArray) (a0_13:Bool) (a0_14:Int):Option (ByteArray):=if (l0_4.length:Int)=0 then (some a0_1) else ((lK.f a0_0 a0_1 a0_2 a0_3 l0_4 l0_5 l0_6 a0_7 a0_8 a0_9 a0_10 a0_11 a0_12 a0_13 a0_14).bind fun t200=>(if 0≤a0_3 then (if a0_3≤(a0_2.size:Int) then (if t200.size+(a0_2.extract 0 (a0_3:Int).toNat).size≤9223372036854775807 then (some (t200++(a0_2.extract 0 (a0_3:Int).toNat))) else (none)) else (none)) else (none)))
def gB.T3:Bool×List (List Nat×List Nat):=(true,[([],[]),([0],[0]),([],[]),([2],[2]),([],[]),([4],[4]),([3,5],[3,5]),([1,6],[1,6]),([7,1,0,1,2,3,4,5,6,7],[7])])
def gB.B3:List Nat:=[0,1,0,4,0,16,60,127,255]
theorem gB.tab3:mP .any (opsOf Tryz.f108 3)=gB.T3:=by kernel_rfl
theorem gB.bits3:rC gB.T3.2 gB.B3=true:=by kernel_rfl
theorem gB.calls (a0_0:ByteArray) (a0_1:ByteArray) (a0_2:ByteArray) (a0_3:Int) (A0_4:Option Addr) (c0_4:Nat) (l0_4:List ByteArray) (A0_5:Option Addr) (c0_5:Nat) (l0_5:List ByteArray) (A0_6:Option Addr) (c0_6:Nat) (l0_6:List ByteArray) (a0_7:ByteArray) (a0_8:ByteArray) (a0_9:ByteArray) (a0_10:ByteArray) (a0_11:ByteArray) (a0_12:ByteArray) (a0_13:Bool) (a0_14:Int) (r:ByteArray) (w:World) (hr0_4:Kd.C Kd.string w A0_4 l0_4.length l0_4) (hc0_4:l0_4.length≤c0_4) (hr0_5:Kd.C Kd.string w A0_5 l0_5.length l0_5) (hc0_5:l0_5.length≤c0_5) (hr0_6:Kd.C Kd.string w A0_6 l0_6.length l0_6) (hc0_6:l0_6.length≤c0_6) (h:gB.f a0_0 a0_1 a0_2 a0_3 l0_4 l0_5 l0_6 a0_7 a0_8 a0_9 a0_10 a0_11 a0_12 a0_13 a0_14=some r) :
 Calls Tryz.prog 108 #[.agg #[.string a0_0,.string a0_1,.string a0_2,.int .i64 a0_3,.slice A0_4 l0_4.length c0_4,.slice A0_5 l0_5.length c0_5,.slice A0_6 l0_6.length c0_6,.string a0_7,.string a0_8,.string a0_9,.string a0_10,.string a0_11,.string a0_12,.bool a0_13,.int .i64 a0_14]] w fun e w'=>e = .returned (.string r)∧Below w.heap.size w w':=by
 have hu58:=Tryz.underlying58;have HR0_4:=bW hr0_4;have HC0_4:=bW hc0_4;clear hr0_4 hc0_4;have HR0_5:=bW hr0_5;have HC0_5:=bW hc0_5;clear hr0_5 hc0_5;have HR0_6:=bW hr0_6;have HC0_6:=bW hc0_6;clear hr0_6 hc0_6;have HB:=bW (Below.refl w.heap.size w);unfold gB.f at h;have H:=h;clear h
 by_cases c2:(l0_4.length:Int)=0
 ·rw[if_pos c2] at H;have c2b0:=beq_iff_eq.mpr c2;have c2b1:=bne_eq_false_iff_eq.mpr c2;clear c2;obtain rfl:=Option.some.inj H;go_enter Tryz.func108,Tryz.ntmps108
  go_wp2_with (first | ((with_reducible refine gO (N:=1) rfl ?_);refine gH ?hg (N:=1) ?hd (cs:=#[.string a0_0,.string a0_1,.string a0_2,.int .i64 a0_3,.slice A0_4 l0_4.length c0_4,.slice A0_5 l0_5.length c0_5,.slice A0_6 l0_6.length c0_6,.string a0_7,.string a0_8,.string a0_9,.string a0_10,.string a0_11,.string a0_12,.bool a0_13,.int .i64 a0_14]) (t:=58) ?hr ?_;(case hd=>rfl);(case hg=>rfl);(case hr=>exact cA);intro gb199 hg w3 hbox hb;have BK199:=bW (hbox);have GW199:=bW ((by rw[hg];exact (eJ bC):w.heap.size≤gb199));have GE199:=bW ((by rw[hg];exact (eJ bC):w.heap.size≤gb199));replace HB:=bW (eA bC hb);clear hb hbox hg;have hcz4_1:w3.cell? ⟨gb199,1,none⟩=some (.string a0_1):=(dY BK199.out 1).trans rfl;have hcz4_2:w3.cell? ⟨gb199,2,none⟩=some (.string a0_2):=(dY BK199.out 2).trans rfl;have hcz4_3:w3.cell? ⟨gb199,3,none⟩=some (.int .i64 a0_3):=(dY BK199.out 3).trans rfl;have hcz4_4:w3.cell? ⟨gb199,4,none⟩=some (.slice A0_4 l0_4.length c0_4):=(dY BK199.out 4).trans rfl))
  go_ret;exact ⟨aC,dL⟩
 rw[if_neg c2] at H;have c2b0:=beq_eq_false_iff_ne.mpr c2;have c2b1:=bne_iff_ne.mpr c2;have c2b2:¬ (l0_4=[]):=fun h_=>c2 (by rw[h_];rfl);replace H:=Option.bind_eq_some_iff.mp H;obtain ⟨t200,A50,H⟩:=H;have A5:=bW A50;clear A50
 by_cases c6:0≤a0_3
 ·rw[if_pos c6] at H;have c6b0:=eq_true c6;have c6b1:=decide_eq_true c6;clear c6
  by_cases c7:a0_3≤(a0_2.size:Int)
  ·rw[if_pos c7] at H;have c7b0:=eq_true c7;have c7b1:=decide_eq_true c7;clear c7
   by_cases c8:t200.size+(a0_2.extract 0 (a0_3:Int).toNat).size≤9223372036854775807
   ·rw[if_pos c8] at H;have c8b0:=eq_true c8;have c8b1:=decide_eq_true c8
    try have c8b2:(9223372036854775807 < t200.size+(a0_2.extract 0 (a0_3:Int).toNat).size)=False:=eq_false (Nat.not_lt.2 c8)
    try have c8b3:(9223372036854775807 < t200.size+a0_3.toNat)=False:=eq_false (by have e_:(a0_2.extract 0 (a0_3:Int).toNat).size=a0_3.toNat:=(by have h_:a0_3≤(a0_2.size:Int):=of_decide_eq_true (by assumption);rw[ByteArray.size_extract];omega);have l_:=of_decide_eq_true c8b1;omega)
    obtain rfl:=Option.some.inj H;go_enter Tryz.func108,Tryz.ntmps108
    try go_wp2_with (first | ((with_reducible refine gO (N:=1) rfl ?_);refine gH ?hg (N:=1) ?hd (cs:=#[.string a0_0,.string a0_1,.string a0_2,.int .i64 a0_3,.slice A0_4 l0_4.length c0_4,.slice A0_5 l0_5.length c0_5,.slice A0_6 l0_6.length c0_6,.string a0_7,.string a0_8,.string a0_9,.string a0_10,.string a0_11,.string a0_12,.bool a0_13,.int .i64 a0_14]) (t:=58) ?hr ?_;(case hd=>rfl);(case hg=>rfl);(case hr=>exact cA);intro gb199 hg w9 hbox hb;have BK199:=bW (hbox);have GW199:=bW ((by rw[hg];exact (eJ bC):w.heap.size≤gb199));have GE199:=bW ((by rw[hg];exact (eJ bC):w.heap.size≤gb199));replace HB:=bW (eA bC hb);clear hb hbox hg;have hcz10_0:w9.cell? ⟨gb199,0,none⟩=some (.string a0_0):=(dY BK199.out 0).trans rfl;have hcz10_1:w9.cell? ⟨gb199,1,none⟩=some (.string a0_1):=(dY BK199.out 1).trans rfl;have hcz10_2:w9.cell? ⟨gb199,2,none⟩=some (.string a0_2):=(dY BK199.out 2).trans rfl;have hcz10_3:w9.cell? ⟨gb199,3,none⟩=some (.int .i64 a0_3):=(dY BK199.out 3).trans rfl;have hcz10_4:w9.cell? ⟨gb199,4,none⟩=some (.slice A0_4 l0_4.length c0_4):=(dY BK199.out 4).trans rfl;have hcz10_5:w9.cell? ⟨gb199,5,none⟩=some (.slice A0_5 l0_5.length c0_5):=(dY BK199.out 5).trans rfl;have hcz10_6:w9.cell? ⟨gb199,6,none⟩=some (.slice A0_6 l0_6.length c0_6):=(dY BK199.out 6).trans rfl;have hcz10_7:w9.cell? ⟨gb199,7,none⟩=some (.string a0_7):=(dY BK199.out 7).trans rfl;have hcz10_8:w9.cell? ⟨gb199,8,none⟩=some (.string a0_8):=(dY BK199.out 8).trans rfl;have hcz10_9:w9.cell? ⟨gb199,9,none⟩=some (.string a0_9):=(dY BK199.out 9).trans rfl;have hcz10_10:w9.cell? ⟨gb199,10,none⟩=some (.string a0_10):=(dY BK199.out 10).trans rfl;have hcz10_11:w9.cell? ⟨gb199,11,none⟩=some (.string a0_11):=(dY BK199.out 11).trans rfl;have hcz10_12:w9.cell? ⟨gb199,12,none⟩=some (.string a0_12):=(dY BK199.out 12).trans rfl;have hcz10_13:w9.cell? ⟨gb199,13,none⟩=some (.bool a0_13):=(dY BK199.out 13).trans rfl;have hcz10_14:w9.cell? ⟨gb199,14,none⟩=some (.int .i64 a0_14):=(dY BK199.out 14).trans rfl))
    replace BK199:=bW (gC BK199.out);replace HB:=bW (fG HB.out)
    refine hY (n:=9) (S:=fun w'=>w'.cell? ⟨gb199,0,none⟩=some (.string a0_0)∧w'.cell? ⟨gb199,1,none⟩=some (.string a0_1)∧w'.cell? ⟨gb199,2,none⟩=some (.string a0_2)∧w'.cell? ⟨gb199,3,none⟩=some (.int .i64 a0_3)∧w'.cell? ⟨gb199,4,none⟩=some (.slice A0_4 l0_4.length c0_4)∧w'.cell? ⟨gb199,5,none⟩=some (.slice A0_5 l0_5.length c0_5)∧w'.cell? ⟨gb199,6,none⟩=some (.slice A0_6 l0_6.length c0_6)∧w'.cell? ⟨gb199,7,none⟩=some (.string a0_7)∧w'.cell? ⟨gb199,8,none⟩=some (.string a0_8)∧w'.cell? ⟨gb199,9,none⟩=some (.string a0_9)∧w'.cell? ⟨gb199,10,none⟩=some (.string a0_10)∧w'.cell? ⟨gb199,11,none⟩=some (.string a0_11)∧w'.cell? ⟨gb199,12,none⟩=some (.string a0_12)∧w'.cell? ⟨gb199,13,none⟩=some (.bool a0_13)∧w'.cell? ⟨gb199,14,none⟩=some (.int .i64 a0_14)) (ds:=[]) _ bB rfl rfl ⟨(dY BK199.out 0).trans rfl,(dY BK199.out 1).trans rfl,(dY BK199.out 2).trans rfl,(dY BK199.out 3).trans rfl,(dY BK199.out 4).trans rfl,(dY BK199.out 5).trans rfl,(dY BK199.out 6).trans rfl,(dY BK199.out 7).trans rfl,(dY BK199.out 8).trans rfl,(dY BK199.out 9).trans rfl,(dY BK199.out 10).trans rfl,(dY BK199.out 11).trans rfl,(dY BK199.out 12).trans rfl,(dY BK199.out 13).trans rfl,(dY BK199.out 14).trans rfl⟩ (fun hHeld=>?_);refine aA2 gB.tab3 gB.bits3 (fun HT_ HW_=>?_)
    generalize w9.drew=w11 at BK199 HB hHeld ⊢;refine nP (i:=2) (N:=some 11) (v:=?_) (a':=?_) #[false,false,true,false,false,false,false,false,false] rfl rfl (nH HT_.out bB) (fun _ _ _ h=>h) (Or.inl ⟨by rfl,?_⟩) ?_ ?_;rotate_left
    ·intro w';go_simp
     with_reducible rfl
    rotate_left
    ·simp only[Act.put,bX,bY,bZ,gU,iG];rfl
    refine nP (i:=4) (N:=some 13) (v:=?_) (a':=?_) #[false,false,true,false,true,false,false,false,false] rfl rfl (nH HT_.out bB) (fun _ _ _ h=>h) (Or.inl ⟨by rfl,?_⟩) ?_ ?_;rotate_left
    ·intro w';go_simp
     with_reducible rfl
    rotate_left
    ·simp only[Act.put,bX,bY,bZ,gU,iG];rfl
    refine take_ (i:=0) (N:=some 9) (v:=?_) (a':=?_) #[true,false,true,false,true,false,false,false,false] rfl rfl (oY HT_.out HW_.out bB) (fun _ _ _ h=>h) (Or.inl ⟨by rfl,?_⟩) hHeld ?_ ?_;rotate_left
    ·rintro w' ⟨s0,s1,s2,s3,s4,s5,s6,s7,s8,s9,s10,s11,s12,s13,s14⟩;go_simp
     with_reducible rfl
    rotate_left
    ·simp only[Act.put,bX,bY,bZ,gU,iG];rfl
    refine take_ (i:=3) (N:=some 12) (v:=?_) (a':=?_) #[true,false,true,true,true,false,false,false,false] rfl rfl (oY HT_.out HW_.out bB) (fun _ _ _ h=>h) (Or.inl ⟨by rfl,?_⟩) hHeld ?_ ?_;rotate_left
    ·rintro w' ⟨s0,s1,s2,s3,s4,s5,s6,s7,s8,s9,s10,s11,s12,s13,s14⟩;go_simp
     with_reducible rfl
    rotate_left
    ·simp only[Act.put,bX,bY,bZ,gU,iG];rfl
    refine take_ (i:=5) (N:=some 14) (v:=?_) (a':=?_) #[true,false,true,true,true,true,false,false,false] rfl rfl (oY HT_.out HW_.out bB) (fun _ _ _ h=>h) (Or.inl ⟨by rfl,?_⟩) hHeld ?_ ?_;rotate_left
    ·rintro w' ⟨s0,s1,s2,s3,s4,s5,s6,s7,s8,s9,s10,s11,s12,s13,s14⟩;go_simp
     with_reducible rfl
    rotate_left
    ·simp only[Act.put,bX,bY,bZ,gU,iG];rfl
    refine nP (i:=6) (N:=some 15) (v:=?_) (a':=?_) #[true,false,true,true,true,true,true,false,false] rfl rfl (nH HT_.out bB) (fun _ _ _ h=>h) (Or.inl ⟨by rfl,?_⟩) ?_ ?_;rotate_left
    ·intro w';go_simp
     with_reducible rfl
    rotate_left
    ·simp only[Act.put,bX,bY,bZ,gU,iG];rfl
    refine aHu (i:=1) (N:=some 10) #[true,true,true,true,true,true,true,false,false] rfl rfl (aGt HT_.out bB) bF (fun K hK=>?_);refine lA Tryz.func137 bB rfl #[.agg #[.string a0_0,.string a0_1,.string a0_2,.int .i64 a0_3,.slice A0_4 l0_4.length c0_4,.slice A0_5 l0_5.length c0_5,.slice A0_6 l0_6.length c0_6,.string a0_7,.string a0_8,.string a0_9,.string a0_10,.string a0_11,.string a0_12,.bool a0_13,.int .i64 a0_14]] bH rfl rfl bD ?_
    with_reducible refine (lK.calls a0_0 a0_1 a0_2 a0_3 _ _ l0_4 _ _ l0_5 _ _ l0_6 a0_7 a0_8 a0_9 a0_10 a0_11 a0_12 a0_13 a0_14 t200 _ ?side1 ?side2 ?side3 ?side4 ?side5 ?side6 A5.out).mono ?_
    (case side1=>exact cT)
    (case side2=>exact HC0_4.out)
    (case side3=>exact cU)
    (case side4=>exact HC0_5.out)
    (case side5=>exact cV)
    (case side6=>exact HC0_6.out)
    rintro e w12 ⟨rfl,hb⟩;refine ⟨_,rfl,?_⟩;replace BK199:=bW (hJ (g:=gb199) (o:=.cells #[.string a0_0,.string a0_1,.string a0_2,.int .i64 a0_3,.slice A0_4 l0_4.length c0_4,.slice A0_5 l0_5.length c0_5,.slice A0_6 l0_6.length c0_6,.string a0_7,.string a0_8,.string a0_9,.string a0_10,.string a0_11,.string a0_12,.bool a0_13,.int .i64 a0_14] 58 (0,0)) (by (with_reducible repeat (first | refine fZ ?_ _ | refine gC ?_ | refine fY ?_ _));exact BK199.out) hb);replace HB:=bW (eA (by repeat (first | (with_reducible first | exact HB.out | apply fC | apply eU | apply fG | refine fT ?_ GE199.out) | exact HB.out)) hb)
    (try clear hb)
    (try clear hb2)
    (try clear hk)
    (try clear hi)
    refine hK.out _ _ ⟨(dY BK199.out 0).trans rfl,(dY BK199.out 1).trans rfl,(dY BK199.out 2).trans rfl,(dY BK199.out 3).trans rfl,(dY BK199.out 4).trans rfl,(dY BK199.out 5).trans rfl,(dY BK199.out 6).trans rfl,(dY BK199.out 7).trans rfl,(dY BK199.out 8).trans rfl,(dY BK199.out 9).trans rfl,(dY BK199.out 10).trans rfl,(dY BK199.out 11).trans rfl,(dY BK199.out 12).trans rfl,(dY BK199.out 13).trans rfl,(dY BK199.out 14).trans rfl⟩ (fun hHeld=>?_);clear hK K;refine gJ sJ1 ?_
    refine nP (i:=7) (N:=some 16) (v:=?_) (a':=?_) #[true,true,true,true,true,true,true,true,false] rfl rfl (nH HT_.out bB) (fun _ _ _ h=>h) (Or.inl ⟨by rfl,?_⟩) ?_ ?_;rotate_left
    ·intro w';go_simp
     with_reducible rfl
    rotate_left
    ·simp only[Act.put,bX,bY,bZ,gU,iG];rfl
    refine nP (i:=8) (N:=some 2) (v:=?_) (a':=?_) #[true,true,true,true,true,true,true,true,true] rfl rfl (nH HT_.out bB) (fun _ _ _ h=>h) (Or.inl ⟨by rfl,?_⟩) ?_ ?_;rotate_left
    ·intro w';go_simp
     with_reducible rfl
    rotate_left
    ·simp only[Act.put,bX,bY,bZ,gU,iG];rfl
    refine iK (aEh HT_.out bB) ?_
    try go_wp2
    go_ret;exact ⟨aC,dL⟩
   rw[if_neg c8] at H;exact absurd H bJ
  rw[if_neg c7] at H;exact absurd H bJ
 rw[if_neg c6] at H;exact absurd H bJ
end Go.Proofs.YtlkoeeccebmjmaaGreatDoor.PCore
namespace Go.Proofs.YtlkoeeccebmjmaaGreatDoor.PCore
open Go.RowKit Go.ZW.PrintWords Go.ZW.PrintLast Go.ZW.PrintMore
attribute [local go_sem] lD lF mD mE kR kS lE lG   -- for this text's walks alone
def gM.j0:Nat→Bool→ByteArray→ByteArray→ByteArray→Int→List ByteArray→List ByteArray→List ByteArray→ByteArray→ByteArray→ByteArray→ByteArray→ByteArray→ByteArray→Bool→Int→Option (ByteArray)
 | 0,_,_,_,_,_,_,_,_,_,_,_,_,_,_,_,_=>none
 | k+1,x4,x202000,x202001,x202002,x202003,x202004,x202005,x202006,x202007,x202008,x202009,x202010,x202011,x202012,x202013,x202014=>if x4=true then (some (⟨#[]⟩:ByteArray)) else (if (x202004.length:Int)=0 then (some x202001) else ((iC.f x202014).bind fun t202=>(if t202=true then ((kD.f k x202001).bind fun t203=>(if t203.toList=([47]:List UInt8) then (some (⟨#[]⟩:ByteArray)) else (some t203))) else (if x202014=2 then ((gB.f x202000 x202001 x202002 x202003 x202004 x202005 x202006 x202007 x202008 x202009 x202010 x202011 x202012 x202013 x202014).bind fun t204=>(some t204)) else (if (x202004.length:Int)=1 then (some x202001) else ((gB.f x202000 x202001 x202002 x202003 x202004 x202005 x202006 x202007 x202008 x202009 x202010 x202011 x202012 x202013 x202014).bind fun t205=>(if t205.size+1≤9223372036854775807 then (if (t205++(⟨#[46]⟩:ByteArray)).size+x202007.size≤9223372036854775807 then (some ((t205++(⟨#[46]⟩:ByteArray))++x202007)) else (none)) else (none))))))))
def gM.f (k:Nat) (a0_0:ByteArray) (a0_1:ByteArray) (a0_2:ByteArray) (a0_3:Int) (l0_4:List ByteArray) (l0_5:List ByteArray) (l0_6:List ByteArray) (a0_7:ByteArray) (a0_8:ByteArray) (a0_9:ByteArray) (a0_10:ByteArray) (a0_11:ByteArray) (a0_12:ByteArray) (a0_13:Bool) (a0_14:Int):Option (ByteArray):=if (l0_4.length:Int)=0 then (if a0_1.toList=([47]:List UInt8) then (if a0_14≥2 then (gM.j0 k (decide (a0_14≤5)) a0_0 a0_1 a0_2 a0_3 l0_4 l0_5 l0_6 a0_7 a0_8 a0_9 a0_10 a0_11 a0_12 a0_13 a0_14) else (gM.j0 k false a0_0 a0_1 a0_2 a0_3 l0_4 l0_5 l0_6 a0_7 a0_8 a0_9 a0_10 a0_11 a0_12 a0_13 a0_14)) else (gM.j0 k false a0_0 a0_1 a0_2 a0_3 l0_4 l0_5 l0_6 a0_7 a0_8 a0_9 a0_10 a0_11 a0_12 a0_13 a0_14)) else (gM.j0 k false a0_0 a0_1 a0_2 a0_3 l0_4 l0_5 l0_6 a0_7 a0_8 a0_9 a0_10 a0_11 a0_12 a0_13 a0_14)
theorem gM.mono_l:∀ k,(∀ y0 y1 y2 y3 y4 y5 y6 y7 y8 y9 y10 y11 y12 y13 y14 y15,LeO (gM.j0 k y0 y1 y2 y3 y4 y5 y6 y7 y8 y9 y10 y11 y12 y13 y14 y15) (gM.j0 (k+1) y0 y1 y2 y3 y4 y5 y6 y7 y8 y9 y10 y11 y12 y13 y14 y15))
 | 0=>fun _ _ _ _ _ _ _ _ _ _ _ _ _ _ _ _ r h=>by simp[gM.j0] at h
 | k+1=>by
  have ih0:=gM.mono_l k
  intro y0 y1 y2 y3 y4 y5 y6 y7 y8 y9 y10 y11 y12 y13 y14 y15;unfold gM.j0
  exact dG
theorem gM.mono:∀ a0 a1 a2 a3 a4 a5 a6 a7 a8 a9 a10 a11 a12 a13 a14 k,LeO (gM.f k a0 a1 a2 a3 a4 a5 a6 a7 a8 a9 a10 a11 a12 a13 a14) (gM.f (k+1) a0 a1 a2 a3 a4 a5 a6 a7 a8 a9 a10 a11 a12 a13 a14):=by
 intro a0 a1 a2 a3 a4 a5 a6 a7 a8 a9 a10 a11 a12 a13 a14 k;have ih0:=gM.mono_l k;unfold gM.f
 exact dG
theorem gM.calls (k:Nat) (a0_0:ByteArray) (a0_1:ByteArray) (a0_2:ByteArray) (a0_3:Int) (A0_4:Option Addr) (c0_4:Nat) (l0_4:List ByteArray) (A0_5:Option Addr) (c0_5:Nat) (l0_5:List ByteArray) (A0_6:Option Addr) (c0_6:Nat) (l0_6:List ByteArray) (a0_7:ByteArray) (a0_8:ByteArray) (a0_9:ByteArray) (a0_10:ByteArray) (a0_11:ByteArray) (a0_12:ByteArray) (a0_13:Bool) (a0_14:Int) (r:ByteArray) (w:World) (hr0_4:Kd.C Kd.string w A0_4 l0_4.length l0_4) (hc0_4:l0_4.length≤c0_4) (hr0_5:Kd.C Kd.string w A0_5 l0_5.length l0_5) (hc0_5:l0_5.length≤c0_5) (hr0_6:Kd.C Kd.string w A0_6 l0_6.length l0_6) (hc0_6:l0_6.length≤c0_6) (h:gM.f k a0_0 a0_1 a0_2 a0_3 l0_4 l0_5 l0_6 a0_7 a0_8 a0_9 a0_10 a0_11 a0_12 a0_13 a0_14=some r) :
 Calls Tryz.prog 109 #[.agg #[.string a0_0,.string a0_1,.string a0_2,.int .i64 a0_3,.slice A0_4 l0_4.length c0_4,.slice A0_5 l0_5.length c0_5,.slice A0_6 l0_6.length c0_6,.string a0_7,.string a0_8,.string a0_9,.string a0_10,.string a0_11,.string a0_12,.bool a0_13,.int .i64 a0_14]] w fun e w'=>e = .returned (.string r)∧Below w.heap.size w w':=by
 have hu58:=Tryz.underlying58;have HR0_4:=bW hr0_4;have HC0_4:=bW hc0_4;clear hr0_4 hc0_4;have HR0_5:=bW hr0_5;have HC0_5:=bW hc0_5;clear hr0_5 hc0_5;have HR0_6:=bW hr0_6;have HC0_6:=bW hc0_6;clear hr0_6 hc0_6;have HB:=bW (Below.refl w.heap.size w);unfold gM.f at h;have H:=h;clear h
 have HC2:=bW H;clear H;go_enter Tryz.func109,Tryz.ntmps109
 go_upto_region 1 with (first | ((with_reducible refine gO (N:=1) rfl ?_);refine gH ?hg (N:=1) ?hd (cs:=#[.string a0_0,.string a0_1,.string a0_2,.int .i64 a0_3,.slice A0_4 l0_4.length c0_4,.slice A0_5 l0_5.length c0_5,.slice A0_6 l0_6.length c0_6,.string a0_7,.string a0_8,.string a0_9,.string a0_10,.string a0_11,.string a0_12,.bool a0_13,.int .i64 a0_14]) (t:=58) ?hr ?_;(case hd=>rfl);(case hg=>rfl);(case hr=>exact cA);intro gb201 hg w3 hbox hb;have BK201:=bW (hbox);have GW201:=bW ((by rw[hg];exact (eJ bC):w.heap.size≤gb201));have GE201:=bW ((by rw[hg];exact (eJ bC):w.heap.size≤gb201));replace HB:=bW (eA bC hb);clear hb hbox hg))
 (try simp only[Act.put,List.setIfInBounds_toArray,List.set_cons_zero,List.set_cons_succ])
 go_cut [4] (fun v4 wc=>∃ (kq:Nat) (x4_1:Bool),v4 = .bool x4_1∧Aside0 (gM.j0 kq x4_1 a0_0 a0_1 a0_2 a0_3 l0_4 l0_5 l0_6 a0_7 a0_8 a0_9 a0_10 a0_11 a0_12 a0_13 a0_14=some r)∧Aside0 (kq≤k)∧Aside0 (wc.heap[gb201]? = some (.cells #[.string a0_0,.string a0_1,.string a0_2,.int .i64 a0_3,(.slice A0_4 l0_4.length c0_4),(.slice A0_5 l0_5.length c0_5),(.slice A0_6 l0_6.length c0_6),.string a0_7,.string a0_8,.string a0_9,.string a0_10,.string a0_11,.string a0_12,.bool a0_13,.int .i64 a0_14] 58 (0,0)))∧Aside0 (Below w.heap.size w wc))
 case first =>
  have H:=HC2.out;clear HC2
  by_cases c4:(l0_4.length:Int)=0
  ·rw[if_pos c4] at H;have c4b0:=beq_iff_eq.mpr c4;have c4b1:=bne_eq_false_iff_eq.mpr c4;clear c4
   (first | rw[c4b0] | (simp only[gU,iG];rw[c4b0]) | skip)
   by_cases c5:a0_1.toList=([47]:List UInt8)
   ·rw[if_pos c5] at H;have c5b0:=beq_iff_eq.mpr c5;have c5b1:=bne_eq_false_iff_eq.mpr c5;clear c5
    by_cases c6:a0_14≥2
    ·rw[if_pos c6] at H;have c6b0:=decide_eq_true c6;clear c6;have H':=bW H;clear H;have hcz7_1:w3.cell? ⟨gb201,1,none⟩=some (.string a0_1):=(dY BK201.out 1).trans rfl;have hcz7_4:w3.cell? ⟨gb201,4,none⟩=some (.slice A0_4 l0_4.length c0_4):=(dY BK201.out 4).trans rfl
     have hcz7_7:w3.cell? ⟨gb201,7,none⟩=some (.string a0_7):=(dY BK201.out 7).trans rfl;have hcz7_14:w3.cell? ⟨gb201,14,none⟩=some (.int .i64 a0_14):=(dY BK201.out 14).trans rfl
     go_wp2
     go_meet
     case rel=>exact ⟨_,(decide (a0_14≤5)),bE,H',⟨dI⟩,⟨aY⟩,⟨aE⟩⟩
    rw[if_neg c6] at H;have c6b0:=decide_eq_false c6;clear c6;have H':=bW H;clear H;have hcz8_1:w3.cell? ⟨gb201,1,none⟩=some (.string a0_1):=(dY BK201.out 1).trans rfl;have hcz8_4:w3.cell? ⟨gb201,4,none⟩=some (.slice A0_4 l0_4.length c0_4):=(dY BK201.out 4).trans rfl
    have hcz8_7:w3.cell? ⟨gb201,7,none⟩=some (.string a0_7):=(dY BK201.out 7).trans rfl;have hcz8_14:w3.cell? ⟨gb201,14,none⟩=some (.int .i64 a0_14):=(dY BK201.out 14).trans rfl
    go_wp2
    go_meet
    case rel=>exact ⟨_,(false),bE,H',⟨dI⟩,⟨aY⟩,⟨aE⟩⟩
   rw[if_neg c5] at H;have c5b0:=beq_eq_false_iff_ne.mpr c5;have c5b1:=bne_iff_ne.mpr c5;have H':=bW H;clear H;have hcz9_1:w3.cell? ⟨gb201,1,none⟩=some (.string a0_1):=(dY BK201.out 1).trans rfl;have hcz9_4:w3.cell? ⟨gb201,4,none⟩=some (.slice A0_4 l0_4.length c0_4):=(dY BK201.out 4).trans rfl
   have hcz9_7:w3.cell? ⟨gb201,7,none⟩=some (.string a0_7):=(dY BK201.out 7).trans rfl
   have hcz9_14:w3.cell? ⟨gb201,14,none⟩=some (.int .i64 a0_14):=(dY BK201.out 14).trans rfl;go_wp2
   go_meet
   case rel=>exact ⟨_,(false),bE,H',⟨dI⟩,⟨aY⟩,⟨aE⟩⟩
  rw[if_neg c4] at H;have c4b0:=beq_eq_false_iff_ne.mpr c4;have c4b1:=bne_iff_ne.mpr c4;have c4b2:¬ (l0_4=[]):=fun h_=>c4 (by rw[h_];rfl)
  (first | rw[c4b0] | (simp only[gU,iG];rw[c4b0]) | skip)
  have H':=bW H;clear H;have hcz10_1:w3.cell? ⟨gb201,1,none⟩=some (.string a0_1):=(dY BK201.out 1).trans rfl;have hcz10_4:w3.cell? ⟨gb201,4,none⟩=some (.slice A0_4 l0_4.length c0_4):=(dY BK201.out 4).trans rfl
  have hcz10_7:w3.cell? ⟨gb201,7,none⟩=some (.string a0_7):=(dY BK201.out 7).trans rfl;have hcz10_14:w3.cell? ⟨gb201,14,none⟩=some (.int .i64 a0_14):=(dY BK201.out 14).trans rfl
  go_wp2
  go_meet
  case rel=>exact ⟨_,(false),bE,H',⟨dI⟩,⟨aY⟩,⟨aE⟩⟩
 clear HC2
 obtain ⟨kq,x4_1,rfl,HA,HJ1,BK201,HB⟩:=hcut
 cases kq with
 | zero=>exact absurd HA.out (by simp[gM.j0])
 | succ kj1 =>
  have H:=HA.out;clear HA;simp only[gM.j0] at H
  by_cases c11:x4_1=true
  ·subst c11;rw[if_pos rfl] at H;obtain rfl:=Option.some.inj H;go_wp2;go_ret;exact ⟨aC,aE⟩
  replace c11:=Bool.eq_false_iff.mpr c11;subst c11
  rw[if_neg (show ¬ (false=true) by decide)] at H
  by_cases c12:(l0_4.length:Int)=0
  ·rw[if_pos c12] at H;have c12b0:=beq_iff_eq.mpr c12;have c12b1:=bne_eq_false_iff_eq.mpr c12;clear c12;obtain rfl:=Option.some.inj H;have hcz13_1:wc.cell? ⟨gb201,1,none⟩=some (.string a0_1):=(dY BK201.out 1).trans rfl;have hcz13_4:wc.cell? ⟨gb201,4,none⟩=some (.slice A0_4 l0_4.length c0_4):=(dY BK201.out 4).trans rfl
   have hcz13_7:wc.cell? ⟨gb201,7,none⟩=some (.string a0_7):=(dY BK201.out 7).trans rfl
   have hcz13_14:wc.cell? ⟨gb201,14,none⟩=some (.int .i64 a0_14):=(dY BK201.out 14).trans rfl;go_wp2;go_ret
   exact ⟨aC,aE⟩
  rw[if_neg c12] at H;have c12b0:=beq_eq_false_iff_ne.mpr c12;have c12b1:=bne_iff_ne.mpr c12;have c12b2:¬ (l0_4=[]):=fun h_=>c12 (by rw[h_];rfl);replace H:=Option.bind_eq_some_iff.mp H;obtain ⟨t202,A140,H⟩:=H;have A14:=bW A140;clear A140
  by_cases c15:t202=true
  ·subst c15;rw[if_pos rfl] at H;replace H:=Option.bind_eq_some_iff.mp H;obtain ⟨t203,A160,H⟩:=H;have A16:=bW A160;clear A160
   by_cases c17:t203.toList=([47]:List UInt8)
   ·rw[if_pos c17] at H;have c17b0:=beq_iff_eq.mpr c17;have c17b1:=bne_eq_false_iff_eq.mpr c17;clear c17;obtain rfl:=Option.some.inj H;have hcz18_0:wc.cell? ⟨gb201,0,none⟩=some (.string a0_0):=(dY BK201.out 0).trans rfl;have hcz18_1:wc.cell? ⟨gb201,1,none⟩=some (.string a0_1):=(dY BK201.out 1).trans rfl;have hcz18_2:wc.cell? ⟨gb201,2,none⟩=some (.string a0_2):=(dY BK201.out 2).trans rfl;have hcz18_3:wc.cell? ⟨gb201,3,none⟩=some (.int .i64 a0_3):=(dY BK201.out 3).trans rfl;have hcz18_4:wc.cell? ⟨gb201,4,none⟩=some (.slice A0_4 l0_4.length c0_4):=(dY BK201.out 4).trans rfl;have hcz18_5:wc.cell? ⟨gb201,5,none⟩=some (.slice A0_5 l0_5.length c0_5):=(dY BK201.out 5).trans rfl
    have hcz18_6:wc.cell? ⟨gb201,6,none⟩=some (.slice A0_6 l0_6.length c0_6):=(dY BK201.out 6).trans rfl;have hcz18_7:wc.cell? ⟨gb201,7,none⟩=some (.string a0_7):=(dY BK201.out 7).trans rfl;have hcz18_8:wc.cell? ⟨gb201,8,none⟩=some (.string a0_8):=(dY BK201.out 8).trans rfl;have hcz18_9:wc.cell? ⟨gb201,9,none⟩=some (.string a0_9):=(dY BK201.out 9).trans rfl;have hcz18_10:wc.cell? ⟨gb201,10,none⟩=some (.string a0_10):=(dY BK201.out 10).trans rfl;have hcz18_11:wc.cell? ⟨gb201,11,none⟩=some (.string a0_11):=(dY BK201.out 11).trans rfl;have hcz18_12:wc.cell? ⟨gb201,12,none⟩=some (.string a0_12):=(dY BK201.out 12).trans rfl;have hcz18_13:wc.cell? ⟨gb201,13,none⟩=some (.bool a0_13):=(dY BK201.out 13).trans rfl
    have hcz18_14:wc.cell? ⟨gb201,14,none⟩=some (.int .i64 a0_14):=(dY BK201.out 14).trans rfl
    go_wp2_with (first | ((with_reducible refine eQ (f:=105) rfl ?_);refine fU (some 34) rfl rfl Tryz.func105 bB rfl #[.int .i64 a0_14] rfl bD ?_;(with_reducible refine (iC.calls a0_14 true _ A14.out).mono ?_);rintro e w' ⟨rfl,⟨nd,rfl⟩⟩;refine ⟨_,rfl,?_⟩) | ((with_reducible refine eQ (f:=101) rfl ?_);refine fU (some 37) rfl rfl Tryz.func101 bB rfl #[.string a0_1] rfl bD ?_;(with_reducible refine (kD.calls kj1 a0_1 t203 _ A16.out).mono ?_);rintro e w' ⟨rfl,⟨nd,rfl⟩⟩;refine ⟨_,rfl,?_⟩))
    go_ret;exact ⟨aC,aE⟩
   rw[if_neg c17] at H;have c17b0:=beq_eq_false_iff_ne.mpr c17;have c17b1:=bne_iff_ne.mpr c17;obtain rfl:=Option.some.inj H;have hcz19_0:wc.cell? ⟨gb201,0,none⟩=some (.string a0_0):=(dY BK201.out 0).trans rfl;have hcz19_1:wc.cell? ⟨gb201,1,none⟩=some (.string a0_1):=(dY BK201.out 1).trans rfl;have hcz19_2:wc.cell? ⟨gb201,2,none⟩=some (.string a0_2):=(dY BK201.out 2).trans rfl;have hcz19_3:wc.cell? ⟨gb201,3,none⟩=some (.int .i64 a0_3):=(dY BK201.out 3).trans rfl;have hcz19_4:wc.cell? ⟨gb201,4,none⟩=some (.slice A0_4 l0_4.length c0_4):=(dY BK201.out 4).trans rfl;have hcz19_5:wc.cell? ⟨gb201,5,none⟩=some (.slice A0_5 l0_5.length c0_5):=(dY BK201.out 5).trans rfl
   have hcz19_6:wc.cell? ⟨gb201,6,none⟩=some (.slice A0_6 l0_6.length c0_6):=(dY BK201.out 6).trans rfl;have hcz19_7:wc.cell? ⟨gb201,7,none⟩=some (.string a0_7):=(dY BK201.out 7).trans rfl;have hcz19_8:wc.cell? ⟨gb201,8,none⟩=some (.string a0_8):=(dY BK201.out 8).trans rfl;have hcz19_9:wc.cell? ⟨gb201,9,none⟩=some (.string a0_9):=(dY BK201.out 9).trans rfl;have hcz19_10:wc.cell? ⟨gb201,10,none⟩=some (.string a0_10):=(dY BK201.out 10).trans rfl;have hcz19_11:wc.cell? ⟨gb201,11,none⟩=some (.string a0_11):=(dY BK201.out 11).trans rfl;have hcz19_12:wc.cell? ⟨gb201,12,none⟩=some (.string a0_12):=(dY BK201.out 12).trans rfl;have hcz19_13:wc.cell? ⟨gb201,13,none⟩=some (.bool a0_13):=(dY BK201.out 13).trans rfl
   have hcz19_14:wc.cell? ⟨gb201,14,none⟩=some (.int .i64 a0_14):=(dY BK201.out 14).trans rfl
   go_wp2_with (first | ((with_reducible refine eQ (f:=105) rfl ?_);refine fU (some 34) rfl rfl Tryz.func105 bB rfl #[.int .i64 a0_14] rfl bD ?_;(with_reducible refine (iC.calls a0_14 true _ A14.out).mono ?_);rintro e w' ⟨rfl,⟨nd,rfl⟩⟩;refine ⟨_,rfl,?_⟩) | ((with_reducible refine eQ (f:=101) rfl ?_);refine fU (some 37) rfl rfl Tryz.func101 bB rfl #[.string a0_1] rfl bD ?_;(with_reducible refine (kD.calls kj1 a0_1 t203 _ A16.out).mono ?_);rintro e w' ⟨rfl,⟨nd,rfl⟩⟩;refine ⟨_,rfl,?_⟩))
   go_ret;exact ⟨aC,aE⟩
  replace c15:=Bool.eq_false_iff.mpr c15;subst c15;rw[if_neg (show ¬ (false=true) by decide)] at H
  by_cases c20:a0_14=2
  ·rw[if_pos c20] at H;have c20b0:=beq_iff_eq.mpr c20;have c20b1:=bne_eq_false_iff_eq.mpr c20;clear c20;replace H:=Option.bind_eq_some_iff.mp H;obtain ⟨t204,A210,H⟩:=H;have A21:=bW A210;clear A210;obtain rfl:=Option.some.inj H;have hcz22_0:wc.cell? ⟨gb201,0,none⟩=some (.string a0_0):=(dY BK201.out 0).trans rfl;have hcz22_1:wc.cell? ⟨gb201,1,none⟩=some (.string a0_1):=(dY BK201.out 1).trans rfl;have hcz22_2:wc.cell? ⟨gb201,2,none⟩=some (.string a0_2):=(dY BK201.out 2).trans rfl;have hcz22_3:wc.cell? ⟨gb201,3,none⟩=some (.int .i64 a0_3):=(dY BK201.out 3).trans rfl;have hcz22_4:wc.cell? ⟨gb201,4,none⟩=some (.slice A0_4 l0_4.length c0_4):=(dY BK201.out 4).trans rfl
   have hcz22_5:wc.cell? ⟨gb201,5,none⟩=some (.slice A0_5 l0_5.length c0_5):=(dY BK201.out 5).trans rfl;have hcz22_6:wc.cell? ⟨gb201,6,none⟩=some (.slice A0_6 l0_6.length c0_6):=(dY BK201.out 6).trans rfl;have hcz22_7:wc.cell? ⟨gb201,7,none⟩=some (.string a0_7):=(dY BK201.out 7).trans rfl;have hcz22_8:wc.cell? ⟨gb201,8,none⟩=some (.string a0_8):=(dY BK201.out 8).trans rfl;have hcz22_9:wc.cell? ⟨gb201,9,none⟩=some (.string a0_9):=(dY BK201.out 9).trans rfl;have hcz22_10:wc.cell? ⟨gb201,10,none⟩=some (.string a0_10):=(dY BK201.out 10).trans rfl;have hcz22_11:wc.cell? ⟨gb201,11,none⟩=some (.string a0_11):=(dY BK201.out 11).trans rfl;have hcz22_12:wc.cell? ⟨gb201,12,none⟩=some (.string a0_12):=(dY BK201.out 12).trans rfl
   have hcz22_13:wc.cell? ⟨gb201,13,none⟩=some (.bool a0_13):=(dY BK201.out 13).trans rfl;have hcz22_14:wc.cell? ⟨gb201,14,none⟩=some (.int .i64 a0_14):=(dY BK201.out 14).trans rfl
   go_wp2_with (first | ((with_reducible refine eQ (f:=105) rfl ?_);refine fU (some 34) rfl rfl Tryz.func105 bB rfl #[.int .i64 a0_14] rfl bD ?_;(with_reducible refine (iC.calls a0_14 false _ A14.out).mono ?_);rintro e w' ⟨rfl,⟨nd,rfl⟩⟩;refine ⟨_,rfl,?_⟩) | ((with_reducible refine eQ (f:=108) rfl ?_);refine fU (some 46) rfl rfl Tryz.func108 bB rfl #[.agg #[.string a0_0,.string a0_1,.string a0_2,.int .i64 a0_3,.slice A0_4 l0_4.length c0_4,.slice A0_5 l0_5.length c0_5,.slice A0_6 l0_6.length c0_6,.string a0_7,.string a0_8,.string a0_9,.string a0_10,.string a0_11,.string a0_12,.bool a0_13,.int .i64 a0_14]] rfl bD ?_;(with_reducible refine (gB.calls a0_0 a0_1 a0_2 a0_3 _ _ l0_4 _ _ l0_5 _ _ l0_6 a0_7 a0_8 a0_9 a0_10 a0_11 a0_12 a0_13 a0_14 t204 _ ?side1 ?side2 ?side3 ?side4 ?side5 ?side6 A21.out).mono ?_);(case side1=>repeat (first | exact (Kd.C_below HR0_4.out (by repeat (first | (with_reducible first | exact HB.out | apply fC | apply eU | apply fG | refine fT ?_ GE201.out) | exact HB.out))) | (with_reducible refine Kd.C_alloc ?_ _) | (with_reducible refine Kd.C_drewN ?_ _) | (with_reducible refine Kd.C_drew ?_)));(case side2=>exact HC0_4.out);(case side3=>repeat (first | exact (Kd.C_below HR0_5.out (by repeat (first | (with_reducible first | exact HB.out | apply fC | apply eU | apply fG | refine fT ?_ GE201.out) | exact HB.out))) | (with_reducible refine Kd.C_alloc ?_ _) | (with_reducible refine Kd.C_drewN ?_ _) | (with_reducible refine Kd.C_drew ?_)));(case side4=>exact HC0_5.out);(case side5=>repeat (first | exact (Kd.C_below HR0_6.out (by repeat (first | (with_reducible first | exact HB.out | apply fC | apply eU | apply fG | refine fT ?_ GE201.out) | exact HB.out))) | (with_reducible refine Kd.C_alloc ?_ _) | (with_reducible refine Kd.C_drewN ?_ _) | (with_reducible refine Kd.C_drew ?_)));(case side6=>exact HC0_6.out);rintro e w23 ⟨rfl,hb⟩;refine ⟨_,rfl,?_⟩;replace BK201:=bW (hJ (g:=gb201) (o:=.cells #[.string a0_0,.string a0_1,.string a0_2,.int .i64 a0_3,.slice A0_4 l0_4.length c0_4,.slice A0_5 l0_5.length c0_5,.slice A0_6 l0_6.length c0_6,.string a0_7,.string a0_8,.string a0_9,.string a0_10,.string a0_11,.string a0_12,.bool a0_13,.int .i64 a0_14] 58 (0,0)) (by (with_reducible repeat (first | refine fZ ?_ _ | refine gC ?_ | refine fY ?_ _));exact BK201.out) hb);replace HB:=bW (eA (by repeat (first | (with_reducible first | exact HB.out | apply fC | apply eU | apply fG | refine fT ?_ GE201.out) | exact HB.out)) hb);(try clear hb);(try clear hb2);(try clear hk);(try clear hi)))
   go_ret;exact ⟨aC,aE⟩
  rw[if_neg c20] at H;have c20b0:=beq_eq_false_iff_ne.mpr c20;have c20b1:=bne_iff_ne.mpr c20
  by_cases c24:(l0_4.length:Int)=1
  ·rw[if_pos c24] at H;have c24b0:=beq_iff_eq.mpr c24;have c24b1:=bne_eq_false_iff_eq.mpr c24;clear c24;obtain rfl:=Option.some.inj H;have hcz25_0:wc.cell? ⟨gb201,0,none⟩=some (.string a0_0):=(dY BK201.out 0).trans rfl;have hcz25_1:wc.cell? ⟨gb201,1,none⟩=some (.string a0_1):=(dY BK201.out 1).trans rfl;have hcz25_2:wc.cell? ⟨gb201,2,none⟩=some (.string a0_2):=(dY BK201.out 2).trans rfl;have hcz25_3:wc.cell? ⟨gb201,3,none⟩=some (.int .i64 a0_3):=(dY BK201.out 3).trans rfl;have hcz25_4:wc.cell? ⟨gb201,4,none⟩=some (.slice A0_4 l0_4.length c0_4):=(dY BK201.out 4).trans rfl;have hcz25_5:wc.cell? ⟨gb201,5,none⟩=some (.slice A0_5 l0_5.length c0_5):=(dY BK201.out 5).trans rfl
   have hcz25_6:wc.cell? ⟨gb201,6,none⟩=some (.slice A0_6 l0_6.length c0_6):=(dY BK201.out 6).trans rfl;have hcz25_7:wc.cell? ⟨gb201,7,none⟩=some (.string a0_7):=(dY BK201.out 7).trans rfl;have hcz25_8:wc.cell? ⟨gb201,8,none⟩=some (.string a0_8):=(dY BK201.out 8).trans rfl;have hcz25_9:wc.cell? ⟨gb201,9,none⟩=some (.string a0_9):=(dY BK201.out 9).trans rfl;have hcz25_10:wc.cell? ⟨gb201,10,none⟩=some (.string a0_10):=(dY BK201.out 10).trans rfl;have hcz25_11:wc.cell? ⟨gb201,11,none⟩=some (.string a0_11):=(dY BK201.out 11).trans rfl;have hcz25_12:wc.cell? ⟨gb201,12,none⟩=some (.string a0_12):=(dY BK201.out 12).trans rfl;have hcz25_13:wc.cell? ⟨gb201,13,none⟩=some (.bool a0_13):=(dY BK201.out 13).trans rfl
   have hcz25_14:wc.cell? ⟨gb201,14,none⟩=some (.int .i64 a0_14):=(dY BK201.out 14).trans rfl
   go_wp2_with (first | ((with_reducible refine eQ (f:=105) rfl ?_);refine fU (some 34) rfl rfl Tryz.func105 bB rfl #[.int .i64 a0_14] rfl bD ?_;(with_reducible refine (iC.calls a0_14 false _ A14.out).mono ?_);rintro e w' ⟨rfl,⟨nd,rfl⟩⟩;refine ⟨_,rfl,?_⟩))
   go_ret;exact ⟨aC,aE⟩
  rw[if_neg c24] at H;have c24b0:=beq_eq_false_iff_ne.mpr c24;have c24b1:=bne_iff_ne.mpr c24;replace H:=Option.bind_eq_some_iff.mp H;obtain ⟨t205,A260,H⟩:=H;have A26:=bW A260;clear A260
  by_cases c27:t205.size+1≤9223372036854775807
  ·rw[if_pos c27] at H;have c27b0:=eq_true c27;have c27b1:=decide_eq_true c27
   try have c27b2:(9223372036854775807 < t205.size+1)=False:=eq_false (Nat.not_lt.2 c27)
   by_cases c28:(t205++(⟨#[46]⟩:ByteArray)).size+a0_7.size≤9223372036854775807
   ·rw[if_pos c28] at H;have c28b0:=eq_true c28;have c28b1:=decide_eq_true c28
    try have c28b2:(9223372036854775807 < (t205++(⟨#[46]⟩:ByteArray)).size+a0_7.size)=False:=eq_false (Nat.not_lt.2 c28)
    try have c28b3:(9223372036854775807 < t205.size+1+a0_7.size)=False:=eq_false (by have l_:=of_decide_eq_true c28b1;have d_:(⟨#[46]⟩:ByteArray).size=1:=rfl;simp only[ByteArray.size_append] at l_;omega)
    obtain rfl:=Option.some.inj H;have hcz29_0:wc.cell? ⟨gb201,0,none⟩=some (.string a0_0):=(dY BK201.out 0).trans rfl;have hcz29_1:wc.cell? ⟨gb201,1,none⟩=some (.string a0_1):=(dY BK201.out 1).trans rfl;have hcz29_2:wc.cell? ⟨gb201,2,none⟩=some (.string a0_2):=(dY BK201.out 2).trans rfl;have hcz29_3:wc.cell? ⟨gb201,3,none⟩=some (.int .i64 a0_3):=(dY BK201.out 3).trans rfl;have hcz29_4:wc.cell? ⟨gb201,4,none⟩=some (.slice A0_4 l0_4.length c0_4):=(dY BK201.out 4).trans rfl;have hcz29_5:wc.cell? ⟨gb201,5,none⟩=some (.slice A0_5 l0_5.length c0_5):=(dY BK201.out 5).trans rfl;have hcz29_6:wc.cell? ⟨gb201,6,none⟩=some (.slice A0_6 l0_6.length c0_6):=(dY BK201.out 6).trans rfl
    have hcz29_7:wc.cell? ⟨gb201,7,none⟩=some (.string a0_7):=(dY BK201.out 7).trans rfl;have hcz29_8:wc.cell? ⟨gb201,8,none⟩=some (.string a0_8):=(dY BK201.out 8).trans rfl;have hcz29_9:wc.cell? ⟨gb201,9,none⟩=some (.string a0_9):=(dY BK201.out 9).trans rfl;have hcz29_10:wc.cell? ⟨gb201,10,none⟩=some (.string a0_10):=(dY BK201.out 10).trans rfl;have hcz29_11:wc.cell? ⟨gb201,11,none⟩=some (.string a0_11):=(dY BK201.out 11).trans rfl;have hcz29_12:wc.cell? ⟨gb201,12,none⟩=some (.string a0_12):=(dY BK201.out 12).trans rfl;have hcz29_13:wc.cell? ⟨gb201,13,none⟩=some (.bool a0_13):=(dY BK201.out 13).trans rfl;have hcz29_14:wc.cell? ⟨gb201,14,none⟩=some (.int .i64 a0_14):=(dY BK201.out 14).trans rfl
    try go_wp2_with (first | ((with_reducible refine eQ (f:=105) rfl ?_);refine fU (some 34) rfl rfl Tryz.func105 bB rfl #[.int .i64 a0_14] rfl bD ?_;(with_reducible refine (iC.calls a0_14 false _ A14.out).mono ?_);rintro e w' ⟨rfl,⟨nd,rfl⟩⟩;refine ⟨_,rfl,?_⟩))
    (try (rw[aE2 wc];generalize hq_:World.drewN wc _=wc;have n0_:Aside0 (wc.heap[gb201]? = some (.cells #[.string a0_0,.string a0_1,.string a0_2,.int .i64 a0_3,.slice A0_4 l0_4.length c0_4,.slice A0_5 l0_5.length c0_5,.slice A0_6 l0_6.length c0_6,.string a0_7,.string a0_8,.string a0_9,.string a0_10,.string a0_11,.string a0_12,.bool a0_13,.int .i64 a0_14] 58 (0,0))):=⟨by rw[← hq_];exact (by (with_reducible repeat (first | refine fZ ?_ _ | refine gC ?_ | refine fY ?_ _));exact BK201.out)⟩;have n1_:Aside0 (Below w.heap.size w wc):=⟨by rw[← hq_];exact (by repeat (first | (with_reducible first | exact HB.out | apply fC | apply eU | apply fG | refine fT ?_ GE201.out) | exact HB.out))⟩;clear BK201 HB hq_;have BK201:=n0_;have HB:=n1_;clear n0_ n1_))
    replace BK201:=bW (gC BK201.out);replace HB:=bW (fG HB.out)
    refine hY (n:=7) (S:=fun w'=>w'.cell? ⟨gb201,0,none⟩=some (.string a0_0)∧w'.cell? ⟨gb201,1,none⟩=some (.string a0_1)∧w'.cell? ⟨gb201,2,none⟩=some (.string a0_2)∧w'.cell? ⟨gb201,3,none⟩=some (.int .i64 a0_3)∧w'.cell? ⟨gb201,4,none⟩=some (.slice A0_4 l0_4.length c0_4)∧w'.cell? ⟨gb201,5,none⟩=some (.slice A0_5 l0_5.length c0_5)∧w'.cell? ⟨gb201,6,none⟩=some (.slice A0_6 l0_6.length c0_6)∧w'.cell? ⟨gb201,7,none⟩=some (.string a0_7)∧w'.cell? ⟨gb201,8,none⟩=some (.string a0_8)∧w'.cell? ⟨gb201,9,none⟩=some (.string a0_9)∧w'.cell? ⟨gb201,10,none⟩=some (.string a0_10)∧w'.cell? ⟨gb201,11,none⟩=some (.string a0_11)∧w'.cell? ⟨gb201,12,none⟩=some (.string a0_12)∧w'.cell? ⟨gb201,13,none⟩=some (.bool a0_13)∧w'.cell? ⟨gb201,14,none⟩=some (.int .i64 a0_14)) (ds:=[]) _ bB rfl rfl ⟨(dY BK201.out 0).trans rfl,(dY BK201.out 1).trans rfl,(dY BK201.out 2).trans rfl,(dY BK201.out 3).trans rfl,(dY BK201.out 4).trans rfl,(dY BK201.out 5).trans rfl,(dY BK201.out 6).trans rfl,(dY BK201.out 7).trans rfl,(dY BK201.out 8).trans rfl,(dY BK201.out 9).trans rfl,(dY BK201.out 10).trans rfl,(dY BK201.out 11).trans rfl,(dY BK201.out 12).trans rfl,(dY BK201.out 13).trans rfl,(dY BK201.out 14).trans rfl⟩ (fun hHeld=>?_)
    generalize wc.drew=w30 at BK201 HB hHeld ⊢;refine sA1 3 (some 57) sB1 ?_
    refine sC1 0 (some 54) sM1 ?_
    refine sC1 4 (some 58) sM1 ?_
    refine sF1 1 (some 55) sG1 (fun K hK=>?_);refine lA Tryz.func108 bB rfl #[.agg #[.string a0_0,.string a0_1,.string a0_2,.int .i64 a0_3,.slice A0_4 l0_4.length c0_4,.slice A0_5 l0_5.length c0_5,.slice A0_6 l0_6.length c0_6,.string a0_7,.string a0_8,.string a0_9,.string a0_10,.string a0_11,.string a0_12,.bool a0_13,.int .i64 a0_14]] bH rfl rfl bD ?_
    with_reducible refine (gB.calls a0_0 a0_1 a0_2 a0_3 _ _ l0_4 _ _ l0_5 _ _ l0_6 a0_7 a0_8 a0_9 a0_10 a0_11 a0_12 a0_13 a0_14 t205 _ ?side1 ?side2 ?side3 ?side4 ?side5 ?side6 A26.out).mono ?_
    (case side1=>exact cT)
    (case side2=>exact HC0_4.out)
    (case side3=>exact cU)
    (case side4=>exact HC0_5.out)
    (case side5=>exact cV)
    (case side6=>exact HC0_6.out)
    rintro e w31 ⟨rfl,hb⟩;refine ⟨_,rfl,?_⟩;replace BK201:=bW (hJ (g:=gb201) (o:=.cells #[.string a0_0,.string a0_1,.string a0_2,.int .i64 a0_3,.slice A0_4 l0_4.length c0_4,.slice A0_5 l0_5.length c0_5,.slice A0_6 l0_6.length c0_6,.string a0_7,.string a0_8,.string a0_9,.string a0_10,.string a0_11,.string a0_12,.bool a0_13,.int .i64 a0_14] 58 (0,0)) (by (with_reducible repeat (first | refine fZ ?_ _ | refine gC ?_ | refine fY ?_ _));exact BK201.out) hb);replace HB:=bW (eA (by repeat (first | (with_reducible first | exact HB.out | apply fC | apply eU | apply fG | refine fT ?_ GE201.out) | exact HB.out)) hb)
    (try clear hb)
    (try clear hb2)
    (try clear hk)
    (try clear hi)
    refine hK.out _ _ ⟨(dY BK201.out 0).trans rfl,(dY BK201.out 1).trans rfl,(dY BK201.out 2).trans rfl,(dY BK201.out 3).trans rfl,(dY BK201.out 4).trans rfl,(dY BK201.out 5).trans rfl,(dY BK201.out 6).trans rfl,(dY BK201.out 7).trans rfl,(dY BK201.out 8).trans rfl,(dY BK201.out 9).trans rfl,(dY BK201.out 10).trans rfl,(dY BK201.out 11).trans rfl,(dY BK201.out 12).trans rfl,(dY BK201.out 13).trans rfl,(dY BK201.out 14).trans rfl⟩ (fun hHeld=>?_);clear hK K;refine gJ sJ1 ?_
    refine sA1 2 (some 56) sB1 ?_
    refine sA1 5 (some 59) sB1 ?_
    refine sA1 6 (some 2) sB1 ?_
    refine iK bB ?_
    try go_wp2
    go_ret;exact ⟨aC,aE⟩
   rw[if_neg c28] at H;exact absurd H bJ
  rw[if_neg c27] at H;exact absurd H bJ
end Go.Proofs.YtlkoeeccebmjmaaGreatDoor.PCore
