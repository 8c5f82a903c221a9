/- Texts that the law leans on: PCorex10, PCorex11. Condition: as told at each. -/
import Derived.Test.YtcdgldnphhidlaaGreatDoorQa
import Derived.Test.YtcdgldnphhidlaaGreatDoorQ11
set_option linter.unusedVariables false
set_option linter.unusedSimpArgs false
set_option maxRecDepth 100000
set_option maxHeartbeats 16000000
namespace Go.Proofs.YtcdgldnphhidlaaGreatDoor.PCore
open Go.RowKit Go.ZW.PrintWords Go.ZW.PrintLast Go.ZW.PrintMore
attribute [local go_sem] kO kQ lO lP jX jY kP kR   -- for this text's walks alone
def jQ.f (k:Nat) (a0:ByteArray):Option (ByteArray):=(eU.f k a0 (a0.size:Int)).bind fun t208=>(if t208≤0 then (some (⟨#[]⟩:ByteArray)) else (if 0≤t208 then (if t208≤(a0.size:Int) then ((gW.f k (a0.extract 0 (t208:Int).toNat)).bind fun t209=>(some t209)) else (none)) else (none)))
theorem jQ.mono:∀ a0 k,LeO (jQ.f k a0) (jQ.f (k+1) a0):=by
 intro a0 k;unfold jQ.f
 repeat' first
  | (with_reducible exact gW.mono _ _)
  | (with_reducible exact eU.mono _ _ _)
  | (with_reducible exact LeO.refl _)
  | (with_reducible exact LeO.none _)
  | (with_reducible refine LeO.ite ?_ ?_)
  | (with_reducible refine LeO.bind ?_ (fun _=>?_))
  | exact gW.mono _ _
  | exact eU.mono _ _ _
  | exact LeO.none _
  | refine LeO.ite ?_ ?_
  | refine LeO.bind ?_ (fun _=>?_)
theorem jQ.calls (k:Nat) (a0:ByteArray) (r:ByteArray) (w:World) (h:jQ.f k a0=some r) :
 Calls Tryz.prog 122 #[.string a0] w fun e w'=>e = .returned (.string r)∧fA w w':=by
 unfold jQ.f at h;have H:=h;clear h;replace H:=Option.bind_eq_some_iff.mp H;obtain ⟨t208,A20,H⟩:=H;have A2:=cB A20;clear A20
 by_cases c3:t208≤0
 ·rw[if_pos c3] at H;have c3b0:=decide_eq_true c3;clear c3;obtain rfl:=Option.some.inj H;go_enter Tryz.func122,Tryz.ntmps122
  go_wp2_with (first | ((with_reducible refine eT (f:=89) rfl ?_);refine fY (some 7) rfl rfl Tryz.func89 bB rfl #[.string a0,.int .i64 (a0.size:Int)] rfl bD ?_;(with_reducible refine (eU.calls k a0 (a0.size:Int) t208 _ A2.out).mono ?_);rintro e w' ⟨rfl,⟨nd,rfl⟩⟩;refine ⟨_,rfl,?_⟩))
  go_ret;exact ⟨bE,dL⟩
 rw[if_neg c3] at H;have c3b0:=decide_eq_false c3;clear c3
 by_cases c4:0≤t208
 ·rw[if_pos c4] at H;have c4b0:=eq_true c4;have c4b1:=decide_eq_true c4;clear c4
  by_cases c5:t208≤(a0.size:Int)
  ·rw[if_pos c5] at H;have c5b0:=eq_true c5;have c5b1:=decide_eq_true c5;clear c5;replace H:=Option.bind_eq_some_iff.mp H;obtain ⟨t209,A60,H⟩:=H;have A6:=cB A60;clear A60;obtain rfl:=Option.some.inj H;go_enter Tryz.func122,Tryz.ntmps122
   go_wp2_with (first | ((with_reducible refine eT (f:=89) rfl ?_);refine fY (some 7) rfl rfl Tryz.func89 bB rfl #[.string a0,.int .i64 (a0.size:Int)] rfl bD ?_;(with_reducible refine (eU.calls k a0 (a0.size:Int) t208 _ A2.out).mono ?_);rintro e w' ⟨rfl,⟨nd,rfl⟩⟩;refine ⟨_,rfl,?_⟩) | ((with_reducible refine eT (f:=62) rfl ?_);refine fY (some 13) rfl rfl Tryz.func62 bB rfl #[.string (a0.extract 0 (t208:Int).toNat)] rfl bD ?_;(with_reducible refine (gW.calls k (a0.extract 0 (t208:Int).toNat) t209 _ A6.out).mono ?_);rintro e w' ⟨rfl,⟨nd,rfl⟩⟩;refine ⟨_,rfl,?_⟩))
   go_ret;exact ⟨bE,dL⟩
  rw[if_neg c5] at H;exact absurd H bI
 rw[if_neg c4] at H;exact absurd H bI
def fE.l0:Nat→ByteArray→List ByteArray→Int→Int→Option (List ByteArray)
 | 0,_,_,_,_=>none
 | k+1,x0,x3,x4,x5=>if x5≤(x0.size:Int) then (if x5=(x0.size:Int) then (if 0≤x4 then (if x4≤x5 then (if x3.length < 8796093022208 then (fE.l0 k x0 (x3++[x0.extract (x4:Int).toNat (x5:Int).toNat]) (wrap64 (x5+1)) (wrap64 (x5+1))) else (none)) else (none)) else (none)) else (if 0≤x5 then (if x5 < (x0.size:Int) then (if (bt x0 x5)=47 then (if 0≤x4 then (if x4≤x5 then (if x3.length < 8796093022208 then (fE.l0 k x0 (x3++[x0.extract (x4:Int).toNat (x5:Int).toNat]) (wrap64 (x5+1)) (wrap64 (x5+1))) else (none)) else (none)) else (none)) else (fE.l0 k x0 x3 x4 (wrap64 (x5+1)))) else (none)) else (none))) else (some x3)
def fE.f (k:Nat) (a0:ByteArray):Option (List ByteArray):=fE.l0 k a0 ([]:List ByteArray) 1 1
theorem fE.mono_l:∀ k,(∀ y0 y1 y2 y3,LeO (fE.l0 k y0 y1 y2 y3) (fE.l0 (k+1) y0 y1 y2 y3))
 | 0=>fun _ _ _ _ r h=>by simp[fE.l0] at h
 | k+1=>by
  have ih0:=fE.mono_l k
  intro y0 y1 y2 y3;unfold fE.l0
  exact cZ
theorem fE.mono:∀ a0 k,LeO (fE.f k a0) (fE.f (k+1) a0):=by
 intro a0 k;have ih0:=fE.mono_l k;unfold fE.f
 exact cZ
theorem fE.calls (k:Nat) (a0:ByteArray) (r:List ByteArray) (w:World) (h:fE.f k a0=some r) :
 Calls Tryz.prog 154 #[.string a0] w fun e w'=>∃ v0_:Value,e = .returned (v0_)∧Kd.R Kd.string 9 w' w.heap.size (fun _=>True) v0_ r∧Below w.heap.size w w':=by
 have HB:=cB (Below.refl w.heap.size w);unfold fE.f at h;have H:=h;clear h;have H':=cB H;clear H;go_enter Tryz.func154,Tryz.ntmps154;go_wp2
 go_loopg [3,4,5] k (fun kq v3 v4 v5 w'=>∃ (x3_1:List ByteArray) (x4_1:Int) (x5_1:Int),v4 = .int .i64 x4_1∧v5 = .int .i64 x5_1∧Aside0 (fE.l0 kq a0 x3_1 x4_1 x5_1=some r)∧Aside0 (kq≤k)∧Aside0 (Kd.R Kd.string 9 w' w.heap.size (fun _=>True) v3 x3_1)∧Aside0 (Below w.heap.size w w'))
 case atStart=>exact ⟨(([]:List ByteArray)),(1),(1),bE,bE,H',⟨Nat.le_refl _⟩,⟨by first | exact Kd.R_nil _ _ _ _ _ | exact Kd.N_nil _ _ _ _ _ | exact Kd.V_nil _ _ _ _ _ | exact Kd.Q_nil _ _ _ _ _ | exact Kd.S_nil _ _ _ _ _⟩,⟨aA⟩⟩
 case round =>
  clear H'
  obtain ⟨x3_1,x4_1,x5_1,rfl,rfl,HA,HK1,HO_3,HB⟩:=hrel
  cases gk with
  | zero=>exact absurd HA.out (by simp[fE.l0])
  | succ k1 =>
   have H:=HA.out;clear HA;simp only[fE.l0] at H
   by_cases c2:x5_1≤(a0.size:Int)
   ·rw[if_pos c2] at H;have c2b0:=decide_eq_true c2;clear c2
    by_cases c3:x5_1=(a0.size:Int)
    ·rw[if_pos c3] at H;have c3b0:=beq_iff_eq.mpr c3;have c3b1:=bne_eq_false_iff_eq.mpr c3;clear c3
     by_cases c4:0≤x4_1
     ·rw[if_pos c4] at H;have c4b0:=eq_true c4;have c4b1:=decide_eq_true c4;clear c4
      by_cases c5:x4_1≤x5_1
      ·rw[if_pos c5] at H;have c5b0:=eq_true c5;have c5b1:=decide_eq_true c5;clear c5;have c6b0:=eq_true (cA:x5_1≤(a0.size:Int))
       by_cases c7:x3_1.length < 8796093022208
       ·rw[if_pos c7] at H;have LMc7:=cB c7;clear c7
        obtain ⟨y210,hy210⟩:∃ y_:List ByteArray,y_=(x3_1++[a0.extract (x4_1:Int).toNat (x5_1:Int).toNat]):=⟨_,rfl⟩
        replace H:(fE.l0 k1 a0 y210 (wrap64 (x5_1+1)) (wrap64 (x5_1+1)))=some r:=by first | (rw[hy210];with_reducible exact H) | (have H2_:=(Option.bind_some _ _).symm.trans H;rw[hy210];with_reducible exact H2_) | (have H2_:=(Option.bind_some _ _).symm.trans H;with_reducible exact H2_) | with_reducible exact H | (rw[hy210];exact H) | exact H
        have Ny210:=cB hy210;clear hy210;have H':=cB H;clear H
        go_wp2_with (first | ((with_reducible refine oT (b:=.append) (xs:=#[.tmp 22,.tmp 27]) rfl ?_);at_builtin;refine Kd.R_append Kd.string (w0:=w) w.heap.size rfl (.tmp 22) (.tmp 27) 22 9 (.string ⟨#[]⟩) 16 rfl Tryz.underlying22 info9 rfl bF bA u3 x3_1 (a0.extract (x4_1:Int).toNat (x5_1:Int).toNat) [.string (a0.extract (x4_1:Int).toNat (x5_1:Int).toNat)] (fun _=>True) (fun _=>False) rfl rfl ?aP (fun _ hk=>hk.elim) ?aF ?aO ?aB ?aS ?aL ?_;(case aP=>exact rfl);(case aB=>exact bC);(case aF=>exact (fun _ _=>trivial));(case aO=>exact bR);(case aS=>exact (eN bC));(case aL=>have:=LMc7.out;omega);intro v211 w8 ho hb hg hat;rw[← Ny210.out] at ho;have n0_:=cB (hb);have n1_:=cB (ho);clear HB;clear HO_3;have HB:=n0_;have HO212:=n1_;clear n0_ n1_;clear ho hb hg hat))
        go_roundg k1
        case measure=>have:=HK1.out;omega
        case rel=>exact ⟨(y210),(wrap64 (x5_1+1)),(wrap64 (x5_1+1)),bE,bE,H',⟨aW⟩,⟨by (with_reducible repeat (first | apply Kd.R_alloc | apply Kd.R_drewN | apply Kd.R_drew));exact HO212.out⟩,⟨aA⟩⟩
       rw[if_neg c7] at H;exact absurd H bI
      rw[if_neg c5] at H;exact absurd H bI
     rw[if_neg c4] at H;exact absurd H bI
    rw[if_neg c3] at H;have c3b0:=beq_eq_false_iff_ne.mpr c3;have c3b1:=bne_iff_ne.mpr c3
    by_cases c9:0≤x5_1
    ·rw[if_pos c9] at H;have c9b0:=decide_eq_true c9;clear c9
     by_cases c10:x5_1 < (a0.size:Int)
     ·rw[if_pos c10] at H;have c10b0:=decide_eq_true c10;clear c10
      by_cases c12:(bt a0 x5_1)=47
      ·rw[if_pos c12] at H;have c12b0:=beq_iff_eq.mpr c12;have c12b1:=bne_eq_false_iff_eq.mpr c12;clear c12
       by_cases c13:0≤x4_1
       ·rw[if_pos c13] at H;have c13b0:=eq_true c13;have c13b1:=decide_eq_true c13;clear c13
        by_cases c14:x4_1≤x5_1
        ·rw[if_pos c14] at H;have c14b0:=eq_true c14;have c14b1:=decide_eq_true c14;clear c14;have c15b0:=eq_true (cA:x5_1≤(a0.size:Int))
         by_cases c16:x3_1.length < 8796093022208
         ·rw[if_pos c16] at H;have LMc16:=cB c16;clear c16
          obtain ⟨y213,hy213⟩:∃ y_:List ByteArray,y_=(x3_1++[a0.extract (x4_1:Int).toNat (x5_1:Int).toNat]):=⟨_,rfl⟩
          replace H:(fE.l0 k1 a0 y213 (wrap64 (x5_1+1)) (wrap64 (x5_1+1)))=some r:=by first | (rw[hy213];with_reducible exact H) | (have H2_:=(Option.bind_some _ _).symm.trans H;rw[hy213];with_reducible exact H2_) | (have H2_:=(Option.bind_some _ _).symm.trans H;with_reducible exact H2_) | with_reducible exact H | (rw[hy213];exact H) | exact H
          have Ny213:=cB hy213;clear hy213;have H':=cB H;clear H;have p11:0≤(x5_1:Int):=cA;have q11:x5_1 < (a0.size:Int):=cA;have hx11:=fQ a0 x5_1;replace p11:=eq_true p11;replace q11:=eq_true q11
          go_wp2_with (first | ((with_reducible refine oT (b:=.append) (xs:=#[.tmp 22,.tmp 27]) rfl ?_);at_builtin;refine Kd.R_append Kd.string (w0:=w) w.heap.size rfl (.tmp 22) (.tmp 27) 22 9 (.string ⟨#[]⟩) 16 rfl Tryz.underlying22 info9 rfl bF bA u3 x3_1 (a0.extract (x4_1:Int).toNat (x5_1:Int).toNat) [.string (a0.extract (x4_1:Int).toNat (x5_1:Int).toNat)] (fun _=>True) (fun _=>False) rfl rfl ?aP (fun _ hk=>hk.elim) ?aF ?aO ?aB ?aS ?aL ?_;(case aP=>exact rfl);(case aB=>exact bC);(case aF=>exact (fun _ _=>trivial));(case aO=>exact bR);(case aS=>exact (eN bC));(case aL=>have:=LMc16.out;omega);intro v214 w17 ho hb hg hat;rw[← Ny213.out] at ho;have n0_:=cB (hb);have n1_:=cB (ho);clear HB;clear HO_3;have HB:=n0_;have HO215:=n1_;clear n0_ n1_;clear ho hb hg hat))
          go_roundg k1
          case measure=>have:=HK1.out;omega
          case rel=>exact ⟨(y213),(wrap64 (x5_1+1)),(wrap64 (x5_1+1)),bE,bE,H',⟨aW⟩,⟨by (with_reducible repeat (first | apply Kd.R_alloc | apply Kd.R_drewN | apply Kd.R_drew));exact HO215.out⟩,⟨aA⟩⟩
         rw[if_neg c16] at H;exact absurd H bI
        rw[if_neg c14] at H;exact absurd H bI
       rw[if_neg c13] at H;exact absurd H bI
      rw[if_neg c12] at H;have c12b0:=beq_eq_false_iff_ne.mpr c12;have c12b1:=bne_iff_ne.mpr c12;have H':=cB H;clear H;have p11:0≤(x5_1:Int):=cA;have q11:x5_1 < (a0.size:Int):=cA;have hx11:=fQ a0 x5_1;replace p11:=eq_true p11;replace q11:=eq_true q11;go_wp2
      go_roundg k1
      case measure=>have:=HK1.out;omega
      case rel=>exact ⟨(x3_1),(x4_1),(wrap64 (x5_1+1)),bE,bE,H',⟨aW⟩,⟨aI⟩,⟨aA⟩⟩
     rw[if_neg c10] at H;exact absurd H bI
    rw[if_neg c9] at H;exact absurd H bI
   rw[if_neg c2] at H;have c2b0:=decide_eq_false c2;clear c2;obtain rfl:=Option.some.inj H;go_wp2;go_ret;exact ⟨_,aC,aI,aA⟩
def iM.f (a0:Int):Option (Bool):=if a0≥3 then (some (decide (a0≤5))) else (some false)
theorem iM.calls (a0:Int) (r:Bool) (w:World) (h:iM.f a0=some r) :
 Calls Tryz.prog 125 #[.int .i64 a0] w fun e w'=>e = .returned (.bool r)∧fA w w':=by
 unfold iM.f at h;have H:=h;clear h
 by_cases c2:a0≥3
 ·rw[if_pos c2] at H;have c2b0:=decide_eq_true c2;clear c2;obtain rfl:=Option.some.inj H;go_enter Tryz.func125,Tryz.ntmps125;go_wp2;go_ret;exact ⟨bE,dL⟩
 rw[if_neg c2] at H;have c2b0:=decide_eq_false c2;clear c2;obtain rfl:=Option.some.inj H;go_enter Tryz.func125,Tryz.ntmps125;go_wp2;go_ret;exact ⟨bE,dL⟩
def iM.Pure:Prop:=∀ (a0:Int),(Lit.int .i64 a0).wf=true→iM.f a0=some true
theorem iM.walk (P:iM.Pure) (a0:Int) (w:World) (w0:(Lit.int .i64 a0).wf=true) :
 Calls Tryz.prog 125 #[.int .i64 a0] w fun e w'=>e = .returned (.bool true)∧Below w.heap.size w w':=by
 have h:=P a0 w0;refine (iM.calls a0 true w h).mono ?_;rintro e w' ⟨rfl,hd⟩;exact ⟨rfl,hd.below⟩
def kH.f (k:Nat) (a0_0:ByteArray) (a0_1:ByteArray) (a0_2:ByteArray) (a0_3:Int) (l0_4:List ByteArray) (l0_5:List ByteArray) (l0_6:List ByteArray) (a0_7:ByteArray) (a0_8:ByteArray) (a0_9:ByteArray) (a0_10:ByteArray) (a0_11:ByteArray) (a0_12:ByteArray) (a0_13:Bool) (a0_14:Int):Option (ByteArray):=(fE.f k a0_1).bind fun t217=>(if (t217.length:Int) < 2 then (some (⟨#[]⟩:ByteArray)) else (if (t217.length:Int)=2 then (if a0_14=3 then (some (⟨#[]⟩:ByteArray)) else (if 0 < (t217.length:Int) then (some (iB ByteArray.empty t217 0)) else (none))) else (if 0 < (t217.length:Int) then (some (iB ByteArray.empty t217 0)) else (none))))
theorem kH.mono:∀ a0 a1 a2 a3 a4 a5 a6 a7 a8 a9 a10 a11 a12 a13 a14 k,LeO (kH.f k a0 a1 a2 a3 a4 a5 a6 a7 a8 a9 a10 a11 a12 a13 a14) (kH.f (k+1) a0 a1 a2 a3 a4 a5 a6 a7 a8 a9 a10 a11 a12 a13 a14):=by
 intro a0 a1 a2 a3 a4 a5 a6 a7 a8 a9 a10 a11 a12 a13 a14 k;unfold kH.f
 repeat' first
  | (with_reducible exact fE.mono _ _)
  | (with_reducible exact LeO.refl _)
  | (with_reducible exact LeO.none _)
  | (with_reducible refine LeO.ite ?_ ?_)
  | (with_reducible refine LeO.bind ?_ (fun _=>?_))
  | exact fE.mono _ _
  | exact LeO.none _
  | refine LeO.ite ?_ ?_
  | refine LeO.bind ?_ (fun _=>?_)
theorem kH.calls (k:Nat) (a0_0:ByteArray) (a0_1:ByteArray) (a0_2:ByteArray) (a0_3:Int) (A0_4:Option Addr) (c0_4:Nat) (l0_4:List ByteArray) (A0_5:Option Addr) (c0_5:Nat) (l0_5:List ByteArray) (A0_6:Option Addr) (c0_6:Nat) (l0_6:List ByteArray) (a0_7:ByteArray) (a0_8:ByteArray) (a0_9:ByteArray) (a0_10:ByteArray) (a0_11:ByteArray) (a0_12:ByteArray) (a0_13:Bool) (a0_14:Int) (r:ByteArray) (w:World) (hr0_4:Kd.C Kd.string w A0_4 l0_4.length l0_4) (hc0_4:l0_4.length≤c0_4) (hr0_5:Kd.C Kd.string w A0_5 l0_5.length l0_5) (hc0_5:l0_5.length≤c0_5) (hr0_6:Kd.C Kd.string w A0_6 l0_6.length l0_6) (hc0_6:l0_6.length≤c0_6) (h:kH.f k a0_0 a0_1 a0_2 a0_3 l0_4 l0_5 l0_6 a0_7 a0_8 a0_9 a0_10 a0_11 a0_12 a0_13 a0_14=some r) :
 Calls Tryz.prog 123 #[.agg #[.string a0_0,.string a0_1,.string a0_2,.int .i64 a0_3,.slice A0_4 l0_4.length c0_4,.slice A0_5 l0_5.length c0_5,.slice A0_6 l0_6.length c0_6,.string a0_7,.string a0_8,.string a0_9,.string a0_10,.string a0_11,.string a0_12,.bool a0_13,.int .i64 a0_14]] w fun e w'=>e = .returned (.string r)∧Below w.heap.size w w':=by
 have hu69:=Tryz.underlying69;have HR0_4:=cB hr0_4;have HC0_4:=cB hc0_4;clear hr0_4 hc0_4;have HR0_5:=cB hr0_5;have HC0_5:=cB hc0_5;clear hr0_5 hc0_5;have HR0_6:=cB hr0_6;have HC0_6:=cB hc0_6;clear hr0_6 hc0_6;have HB:=cB (Below.refl w.heap.size w);unfold kH.f at h;have H:=h;clear h;replace H:=Option.bind_eq_some_iff.mp H;obtain ⟨t217,A20,H⟩:=H;have A2:=cB A20;clear A20
 by_cases c3:(t217.length:Int) < 2
 ·rw[if_pos c3] at H;have c3b0:=decide_eq_true c3;have c3b1:decide (t217.length < 2)=true:=decide_eq_true bA;clear c3;obtain rfl:=Option.some.inj H;go_enter Tryz.func123,Tryz.ntmps123
  go_wp2_with (first | ((with_reducible refine gT (N:=1) rfl ?_);(try (refine jB bH ?_;dsimp only));refine gP ?hg (N:=1) ?hd (cs:=#[.string a0_0,.string a0_1,.string a0_2,.int .i64 a0_3,.slice A0_4 l0_4.length c0_4,.slice A0_5 l0_5.length c0_5,.slice A0_6 l0_6.length c0_6,.string a0_7,.string a0_8,.string a0_9,.string a0_10,.string a0_11,.string a0_12,.bool a0_13,.int .i64 a0_14]) (t:=69) ?hr ?_;(case hd=>rfl);(case hg=>rfl);(case hr=>exact cG);intro gb216 hg w4 hbox hb;have BK216:=cB (hbox);have GW216:=cB ((by rw[hg];exact (eN bC):w.heap.size≤gb216));have GE216:=cB ((by rw[hg];exact (eN bC):w.heap.size≤gb216));replace HB:=cB (eD bC hb);clear hb hbox hg;have hcz5_1:w4.cell? ⟨gb216,1,none⟩=some (.string a0_1):=(eB BK216.out 1).trans rfl;have hcz5_14:w4.cell? ⟨gb216,14,none⟩=some (.int .i64 a0_14):=(eB BK216.out 14).trans rfl) | ((with_reducible refine eT (f:=154) rfl ?_);refine fY (some 6) rfl rfl Tryz.func154 bB rfl #[.string a0_1] rfl bD ?_;(with_reducible refine (fE.calls k a0_1 t217 _ A2.out).mono ?_);rintro e w6 ⟨v218,rfl,ho0,hb⟩;refine ⟨_,rfl,?_⟩;have n0_:=cB (Kd.R_lower ho0 (eN (by repeat (first | (with_reducible first | exact HB.out | apply fH | apply eY | apply fK | refine fX ?_ GE216.out) | exact HB.out))));have n1_:=cB (iG (g:=gb216) (o:=.cells #[.string a0_0,.string a0_1,.string a0_2,.int .i64 a0_3,.slice A0_4 l0_4.length c0_4,.slice A0_5 l0_5.length c0_5,.slice A0_6 l0_6.length c0_6,.string a0_7,.string a0_8,.string a0_9,.string a0_10,.string a0_11,.string a0_12,.bool a0_13,.int .i64 a0_14] 69 (0,0)) (by (with_reducible repeat (first | refine gD ?_ _ | refine gI ?_ | refine gC ?_ _));exact BK216.out) hb);have n2_:=cB (eD (by repeat (first | (with_reducible first | exact HB.out | apply fH | apply eY | apply fK | refine fX ?_ GE216.out) | exact HB.out)) hb);clear BK216;clear HB;have HO219:=n0_;have BK216:=n1_;have HB:=n2_;clear n0_ n1_ n2_;(try clear hb);(try clear hb2);(try clear hk);(try clear hi);(try clear ho0);obtain ⟨Ao7,co7,eo7⟩:=Kd.R_slice HO219.out;subst eo7))
  go_ret;exact ⟨aC,aV⟩
 rw[if_neg c3] at H;have c3b0:=decide_eq_false c3;have c3b1:decide (t217.length < 2)=false:=decide_eq_false bA;clear c3
 by_cases c8:(t217.length:Int)=2
 ·rw[if_pos c8] at H;have c8b0:=beq_iff_eq.mpr c8;have c8b1:=bne_eq_false_iff_eq.mpr c8;clear c8
  by_cases c9:a0_14=3
  ·rw[if_pos c9] at H;have c9b0:=beq_iff_eq.mpr c9;have c9b1:=bne_eq_false_iff_eq.mpr c9;clear c9;obtain rfl:=Option.some.inj H;go_enter Tryz.func123,Tryz.ntmps123
   go_wp2_with (first | ((with_reducible refine gT (N:=1) rfl ?_);(try (refine jB bH ?_;dsimp only));refine gP ?hg (N:=1) ?hd (cs:=#[.string a0_0,.string a0_1,.string a0_2,.int .i64 a0_3,.slice A0_4 l0_4.length c0_4,.slice A0_5 l0_5.length c0_5,.slice A0_6 l0_6.length c0_6,.string a0_7,.string a0_8,.string a0_9,.string a0_10,.string a0_11,.string a0_12,.bool a0_13,.int .i64 a0_14]) (t:=69) ?hr ?_;(case hd=>rfl);(case hg=>rfl);(case hr=>exact cG);intro gb216 hg w10 hbox hb;have BK216:=cB (hbox);have GW216:=cB ((by rw[hg];exact (eN bC):w.heap.size≤gb216));have GE216:=cB ((by rw[hg];exact (eN bC):w.heap.size≤gb216));replace HB:=cB (eD bC hb);clear hb hbox hg;have hcz11_1:w10.cell? ⟨gb216,1,none⟩=some (.string a0_1):=(eB BK216.out 1).trans rfl;have hcz11_14:w10.cell? ⟨gb216,14,none⟩=some (.int .i64 a0_14):=(eB BK216.out 14).trans rfl) | ((with_reducible refine eT (f:=154) rfl ?_);refine fY (some 6) rfl rfl Tryz.func154 bB rfl #[.string a0_1] rfl bD ?_;(with_reducible refine (fE.calls k a0_1 t217 _ A2.out).mono ?_);rintro e w12 ⟨v218,rfl,ho0,hb⟩;refine ⟨_,rfl,?_⟩;have n0_:=cB (Kd.R_lower ho0 (eN (by repeat (first | (with_reducible first | exact HB.out | apply fH | apply eY | apply fK | refine fX ?_ GE216.out) | exact HB.out))));have n1_:=cB (iG (g:=gb216) (o:=.cells #[.string a0_0,.string a0_1,.string a0_2,.int .i64 a0_3,.slice A0_4 l0_4.length c0_4,.slice A0_5 l0_5.length c0_5,.slice A0_6 l0_6.length c0_6,.string a0_7,.string a0_8,.string a0_9,.string a0_10,.string a0_11,.string a0_12,.bool a0_13,.int .i64 a0_14] 69 (0,0)) (by (with_reducible repeat (first | refine gD ?_ _ | refine gI ?_ | refine gC ?_ _));exact BK216.out) hb);have n2_:=cB (eD (by repeat (first | (with_reducible first | exact HB.out | apply fH | apply eY | apply fK | refine fX ?_ GE216.out) | exact HB.out)) hb);clear BK216;clear HB;have HO219:=n0_;have BK216:=n1_;have HB:=n2_;clear n0_ n1_ n2_;(try clear hb);(try clear hb2);(try clear hk);(try clear hi);(try clear ho0);obtain ⟨Ao13,co13,eo13⟩:=Kd.R_slice HO219.out;subst eo13;have hcz14_1:w12.cell? ⟨gb216,1,none⟩=some (.string a0_1):=(eB BK216.out 1).trans rfl;have hcz14_14:w12.cell? ⟨gb216,14,none⟩=some (.int .i64 a0_14):=(eB BK216.out 14).trans rfl))
   go_ret;exact ⟨aC,aV⟩
  rw[if_neg c9] at H;have c9b0:=beq_eq_false_iff_ne.mpr c9;have c9b1:=bne_iff_ne.mpr c9
  by_cases c15:0 < (t217.length:Int)
  ·rw[if_pos c15] at H;have c15b0:=decide_eq_true c15;have c15b1:decide (0 < t217.length)=true:=decide_eq_true bA;clear c15;obtain rfl:=Option.some.inj H;go_enter Tryz.func123,Tryz.ntmps123
   go_wp2_with (first | ((with_reducible refine gT (N:=1) rfl ?_);(try (refine jB bH ?_;dsimp only));refine gP ?hg (N:=1) ?hd (cs:=#[.string a0_0,.string a0_1,.string a0_2,.int .i64 a0_3,.slice A0_4 l0_4.length c0_4,.slice A0_5 l0_5.length c0_5,.slice A0_6 l0_6.length c0_6,.string a0_7,.string a0_8,.string a0_9,.string a0_10,.string a0_11,.string a0_12,.bool a0_13,.int .i64 a0_14]) (t:=69) ?hr ?_;(case hd=>rfl);(case hg=>rfl);(case hr=>exact cG);intro gb216 hg w16 hbox hb;have BK216:=cB (hbox);have GW216:=cB ((by rw[hg];exact (eN bC):w.heap.size≤gb216));have GE216:=cB ((by rw[hg];exact (eN bC):w.heap.size≤gb216));replace HB:=cB (eD bC hb);clear hb hbox hg;have hcz17_1:w16.cell? ⟨gb216,1,none⟩=some (.string a0_1):=(eB BK216.out 1).trans rfl;have hcz17_14:w16.cell? ⟨gb216,14,none⟩=some (.int .i64 a0_14):=(eB BK216.out 14).trans rfl) | ((with_reducible refine eT (f:=154) rfl ?_);refine fY (some 6) rfl rfl Tryz.func154 bB rfl #[.string a0_1] rfl bD ?_;(with_reducible refine (fE.calls k a0_1 t217 _ A2.out).mono ?_);rintro e w18 ⟨v218,rfl,ho0,hb⟩;refine ⟨_,rfl,?_⟩;have n0_:=cB (Kd.R_lower ho0 (eN (by repeat (first | (with_reducible first | exact HB.out | apply fH | apply eY | apply fK | refine fX ?_ GE216.out) | exact HB.out))));have n1_:=cB (iG (g:=gb216) (o:=.cells #[.string a0_0,.string a0_1,.string a0_2,.int .i64 a0_3,.slice A0_4 l0_4.length c0_4,.slice A0_5 l0_5.length c0_5,.slice A0_6 l0_6.length c0_6,.string a0_7,.string a0_8,.string a0_9,.string a0_10,.string a0_11,.string a0_12,.bool a0_13,.int .i64 a0_14] 69 (0,0)) (by (with_reducible repeat (first | refine gD ?_ _ | refine gI ?_ | refine gC ?_ _));exact BK216.out) hb);have n2_:=cB (eD (by repeat (first | (with_reducible first | exact HB.out | apply fH | apply eY | apply fK | refine fX ?_ GE216.out) | exact HB.out)) hb);clear BK216;clear HB;have HO219:=n0_;have BK216:=n1_;have HB:=n2_;clear n0_ n1_ n2_;(try clear hb);(try clear hb2);(try clear hk);(try clear hi);(try clear ho0);obtain ⟨Ao19,co19,eo19⟩:=Kd.R_slice HO219.out;subst eo19;have hcz20_1:w18.cell? ⟨gb216,1,none⟩=some (.string a0_1):=(eB BK216.out 1).trans rfl;have hcz20_14:w18.cell? ⟨gb216,14,none⟩=some (.int .i64 a0_14):=(eB BK216.out 14).trans rfl;have p220:0≤(0:Int):=bA;have q220:0 < (t217.length:Int):=cA;obtain ⟨ad220,e220,hx220_0⟩:=Kd.at_string (Kd.R_reads' HO219.out).2.2 0 p220 q220;cases e220;have qi220:(0 < t217.length)=True:=eq_true bA;(try rw[show ((0:Int)).toNat=0 from rfl] at hx220_0);(try rw[Addr.add_zero'] at hx220_0);replace p220:=eq_true p220;replace q220:=eq_true q220))
   go_ret;exact ⟨aC,aV⟩
  rw[if_neg c15] at H;exact absurd H bI
 rw[if_neg c8] at H;have c8b0:=beq_eq_false_iff_ne.mpr c8;have c8b1:=bne_iff_ne.mpr c8
 by_cases c21:0 < (t217.length:Int)
 ·rw[if_pos c21] at H;have c21b0:=decide_eq_true c21;have c21b1:decide (0 < t217.length)=true:=decide_eq_true bA;clear c21;obtain rfl:=Option.some.inj H;go_enter Tryz.func123,Tryz.ntmps123
  go_wp2_with (first | ((with_reducible refine gT (N:=1) rfl ?_);(try (refine jB bH ?_;dsimp only));refine gP ?hg (N:=1) ?hd (cs:=#[.string a0_0,.string a0_1,.string a0_2,.int .i64 a0_3,.slice A0_4 l0_4.length c0_4,.slice A0_5 l0_5.length c0_5,.slice A0_6 l0_6.length c0_6,.string a0_7,.string a0_8,.string a0_9,.string a0_10,.string a0_11,.string a0_12,.bool a0_13,.int .i64 a0_14]) (t:=69) ?hr ?_;(case hd=>rfl);(case hg=>rfl);(case hr=>exact cG);intro gb216 hg w22 hbox hb;have BK216:=cB (hbox);have GW216:=cB ((by rw[hg];exact (eN bC):w.heap.size≤gb216));have GE216:=cB ((by rw[hg];exact (eN bC):w.heap.size≤gb216));replace HB:=cB (eD bC hb);clear hb hbox hg;have hcz23_1:w22.cell? ⟨gb216,1,none⟩=some (.string a0_1):=(eB BK216.out 1).trans rfl;have hcz23_14:w22.cell? ⟨gb216,14,none⟩=some (.int .i64 a0_14):=(eB BK216.out 14).trans rfl) | ((with_reducible refine eT (f:=154) rfl ?_);refine fY (some 6) rfl rfl Tryz.func154 bB rfl #[.string a0_1] rfl bD ?_;(with_reducible refine (fE.calls k a0_1 t217 _ A2.out).mono ?_);rintro e w24 ⟨v218,rfl,ho0,hb⟩;refine ⟨_,rfl,?_⟩;have n0_:=cB (Kd.R_lower ho0 (eN (by repeat (first | (with_reducible first | exact HB.out | apply fH | apply eY | apply fK | refine fX ?_ GE216.out) | exact HB.out))));have n1_:=cB (iG (g:=gb216) (o:=.cells #[.string a0_0,.string a0_1,.string a0_2,.int .i64 a0_3,.slice A0_4 l0_4.length c0_4,.slice A0_5 l0_5.length c0_5,.slice A0_6 l0_6.length c0_6,.string a0_7,.string a0_8,.string a0_9,.string a0_10,.string a0_11,.string a0_12,.bool a0_13,.int .i64 a0_14] 69 (0,0)) (by (with_reducible repeat (first | refine gD ?_ _ | refine gI ?_ | refine gC ?_ _));exact BK216.out) hb);have n2_:=cB (eD (by repeat (first | (with_reducible first | exact HB.out | apply fH | apply eY | apply fK | refine fX ?_ GE216.out) | exact HB.out)) hb);clear BK216;clear HB;have HO219:=n0_;have BK216:=n1_;have HB:=n2_;clear n0_ n1_ n2_;(try clear hb);(try clear hb2);(try clear hk);(try clear hi);(try clear ho0);obtain ⟨Ao25,co25,eo25⟩:=Kd.R_slice HO219.out;subst eo25;have p221:0≤(0:Int):=bA;have q221:0 < (t217.length:Int):=cA;obtain ⟨ad221,e221,hx221_0⟩:=Kd.at_string (Kd.R_reads' HO219.out).2.2 0 p221 q221;cases e221;have qi221:(0 < t217.length)=True:=eq_true bA;(try rw[show ((0:Int)).toNat=0 from rfl] at hx221_0);(try rw[Addr.add_zero'] at hx221_0);replace p221:=eq_true p221;replace q221:=eq_true q221))
  go_ret;exact ⟨aC,aV⟩
 rw[if_neg c21] at H;exact absurd H bI
def mF.f (a0_0:ByteArray) (a0_1:ByteArray) (a0_2:ByteArray) (a0_3:Int) (l0_4:List ByteArray) (l0_5:List ByteArray) (l0_6:List ByteArray) (a0_7:ByteArray) (a0_8:ByteArray) (a0_9:ByteArray) (a0_10:ByteArray) (a0_11:ByteArray) (a0_12:ByteArray) (a0_13:Bool) (a0_14:Int):Option (ByteArray):=if 0≤(wrap64 ((a0_1.size:Int) - (a0_2.size:Int))) then (if (wrap64 ((a0_1.size:Int) - (a0_2.size:Int)))≤(a0_1.size:Int) then (some (a0_1.extract 0 ((wrap64 ((a0_1.size:Int) - (a0_2.size:Int))):Int).toNat)) else (none)) else (none)
theorem mF.calls (a0_0:ByteArray) (a0_1:ByteArray) (a0_2:ByteArray) (a0_3:Int) (A0_4:Option Addr) (c0_4:Nat) (l0_4:List ByteArray) (A0_5:Option Addr) (c0_5:Nat) (l0_5:List ByteArray) (A0_6:Option Addr) (c0_6:Nat) (l0_6:List ByteArray) (a0_7:ByteArray) (a0_8:ByteArray) (a0_9:ByteArray) (a0_10:ByteArray) (a0_11:ByteArray) (a0_12:ByteArray) (a0_13:Bool) (a0_14:Int) (r:ByteArray) (w:World) (hr0_4:Kd.C Kd.string w A0_4 l0_4.length l0_4) (hc0_4:l0_4.length≤c0_4) (hr0_5:Kd.C Kd.string w A0_5 l0_5.length l0_5) (hc0_5:l0_5.length≤c0_5) (hr0_6:Kd.C Kd.string w A0_6 l0_6.length l0_6) (hc0_6:l0_6.length≤c0_6) (h:mF.f a0_0 a0_1 a0_2 a0_3 l0_4 l0_5 l0_6 a0_7 a0_8 a0_9 a0_10 a0_11 a0_12 a0_13 a0_14=some r) :
 Calls Tryz.prog 155 #[.agg #[.string a0_0,.string a0_1,.string a0_2,.int .i64 a0_3,.slice A0_4 l0_4.length c0_4,.slice A0_5 l0_5.length c0_5,.slice A0_6 l0_6.length c0_6,.string a0_7,.string a0_8,.string a0_9,.string a0_10,.string a0_11,.string a0_12,.bool a0_13,.int .i64 a0_14]] w fun e w'=>e = .returned (.string r)∧Below w.heap.size w w':=by
 have hu69:=Tryz.underlying69;have HR0_4:=cB hr0_4;have HC0_4:=cB hc0_4;clear hr0_4 hc0_4;have HR0_5:=cB hr0_5;have HC0_5:=cB hc0_5;clear hr0_5 hc0_5;have HR0_6:=cB hr0_6;have HC0_6:=cB hc0_6;clear hr0_6 hc0_6;have HB:=cB (Below.refl w.heap.size w);unfold mF.f at h;have H:=h;clear h
 obtain ⟨ji2,hji2⟩:∃ j_:Int,(wrap64 ((a0_1.size:Int) - (a0_2.size:Int)))=j_:=⟨_,rfl⟩
 replace H:(if 0≤(ji2) then (if (ji2)≤(a0_1.size:Int) then (some (a0_1.extract 0 ((ji2):Int).toNat)) else (none)) else (none))=some r:=by first | (rw[hji2] at H;exact H) | (simp only[hji2] at H ⊢;exact H)
 have hji2w:(IntKind.i64.wrap ((a0_1.size:Int) - (a0_2.size:Int)))=ji2:=(hL _).trans hji2
 by_cases c3:0≤(ji2)
 ·rw[if_pos c3] at H;have c3b0:=eq_true c3;have c3b1:=decide_eq_true c3;clear c3
  by_cases c4:(ji2)≤(a0_1.size:Int)
  ·rw[if_pos c4] at H;have c4b0:=eq_true c4;have c4b1:=decide_eq_true c4;clear c4;obtain rfl:=Option.some.inj H;go_enter Tryz.func155,Tryz.ntmps155
   go_wp2_with (first | ((with_reducible refine gT (N:=1) rfl ?_);refine gP ?hg (N:=1) ?hd (cs:=#[.string a0_0,.string a0_1,.string a0_2,.int .i64 a0_3,.slice A0_4 l0_4.length c0_4,.slice A0_5 l0_5.length c0_5,.slice A0_6 l0_6.length c0_6,.string a0_7,.string a0_8,.string a0_9,.string a0_10,.string a0_11,.string a0_12,.bool a0_13,.int .i64 a0_14]) (t:=69) ?hr ?_;(case hd=>rfl);(case hg=>rfl);(case hr=>exact cG);intro gb222 hg w5 hbox hb;have BK222:=cB (hbox);have GW222:=cB ((by rw[hg];exact (eN bC):w.heap.size≤gb222));have GE222:=cB ((by rw[hg];exact (eN bC):w.heap.size≤gb222));replace HB:=cB (eD bC hb);clear hb hbox hg;have hcz6_1:w5.cell? ⟨gb222,1,none⟩=some (.string a0_1):=(eB BK222.out 1).trans rfl;have hcz6_2:w5.cell? ⟨gb222,2,none⟩=some (.string a0_2):=(eB BK222.out 2).trans rfl))
   go_ret;exact ⟨by first | rfl | (simp[oR,oS] <;> rfl) | (simp only[← hji2];first | rfl | (simp[oR,oS] <;> rfl)) | (simp[*,oR,oS] <;> rfl),by repeat (first | (with_reducible first | exact HB.out | apply fH | apply eY | apply fK | refine fX ?_ GE222.out) | exact HB.out)⟩
  rw[if_neg c4] at H;exact absurd H bI
 rw[if_neg c3] at H;exact absurd H bI
def gH.f (a0_0:ByteArray) (a0_1:ByteArray) (a0_2:ByteArray) (a0_3:Int) (l0_4:List ByteArray) (l0_5:List ByteArray) (l0_6:List ByteArray) (a0_7:ByteArray) (a0_8:ByteArray) (a0_9:ByteArray) (a0_10:ByteArray) (a0_11:ByteArray) (a0_12:ByteArray) (a0_13:Bool) (a0_14:Int):Option (ByteArray):=if (l0_4.length:Int)=0 then (some a0_1) else ((mF.f a0_0 a0_1 a0_2 a0_3 l0_4 l0_5 l0_6 a0_7 a0_8 a0_9 a0_10 a0_11 a0_12 a0_13 a0_14).bind fun t224=>(if 0≤a0_3 then (if a0_3≤(a0_2.size:Int) then (if t224.size+(a0_2.extract 0 (a0_3:Int).toNat).size≤9223372036854775807 then (some (t224++(a0_2.extract 0 (a0_3:Int).toNat))) else (none)) else (none)) else (none)))
def gH.T3:Bool×List (List Nat×List Nat):=(true,[([],[]),([0],[0]),([],[]),([2],[2]),([],[]),([4],[4]),([3,5],[3,5]),([1,6],[1,6]),([7,1,0,1,2,3,4,5,6,7],[7])])
def gH.B3:List Nat:=[0,1,0,4,0,16,60,127,255]
theorem gH.tab3:nA .any (opsOf Tryz.f127 3)=gH.T3:=by kernel_rfl
theorem gH.bits3:sM gH.T3.2 gH.B3=true:=by kernel_rfl
theorem gH.calls (a0_0:ByteArray) (a0_1:ByteArray) (a0_2:ByteArray) (a0_3:Int) (A0_4:Option Addr) (c0_4:Nat) (l0_4:List ByteArray) (A0_5:Option Addr) (c0_5:Nat) (l0_5:List ByteArray) (A0_6:Option Addr) (c0_6:Nat) (l0_6:List ByteArray) (a0_7:ByteArray) (a0_8:ByteArray) (a0_9:ByteArray) (a0_10:ByteArray) (a0_11:ByteArray) (a0_12:ByteArray) (a0_13:Bool) (a0_14:Int) (r:ByteArray) (w:World) (hr0_4:Kd.C Kd.string w A0_4 l0_4.length l0_4) (hc0_4:l0_4.length≤c0_4) (hr0_5:Kd.C Kd.string w A0_5 l0_5.length l0_5) (hc0_5:l0_5.length≤c0_5) (hr0_6:Kd.C Kd.string w A0_6 l0_6.length l0_6) (hc0_6:l0_6.length≤c0_6) (h:gH.f a0_0 a0_1 a0_2 a0_3 l0_4 l0_5 l0_6 a0_7 a0_8 a0_9 a0_10 a0_11 a0_12 a0_13 a0_14=some r) :
 Calls Tryz.prog 127 #[.agg #[.string a0_0,.string a0_1,.string a0_2,.int .i64 a0_3,.slice A0_4 l0_4.length c0_4,.slice A0_5 l0_5.length c0_5,.slice A0_6 l0_6.length c0_6,.string a0_7,.string a0_8,.string a0_9,.string a0_10,.string a0_11,.string a0_12,.bool a0_13,.int .i64 a0_14]] w fun e w'=>e = .returned (.string r)∧Below w.heap.size w w':=by
 have hu69:=Tryz.underlying69;have HR0_4:=cB hr0_4;have HC0_4:=cB hc0_4;clear hr0_4 hc0_4;have HR0_5:=cB hr0_5;have HC0_5:=cB hc0_5;clear hr0_5 hc0_5;have HR0_6:=cB hr0_6;have HC0_6:=cB hc0_6;clear hr0_6 hc0_6;have HB:=cB (Below.refl w.heap.size w);unfold gH.f at h;have H:=h;clear h
 by_cases c2:(l0_4.length:Int)=0
 ·rw[if_pos c2] at H;have c2b0:=beq_iff_eq.mpr c2;have c2b1:=bne_eq_false_iff_eq.mpr c2;clear c2;obtain rfl:=Option.some.inj H;go_enter Tryz.func127,Tryz.ntmps127
  go_wp2_with (first | ((with_reducible refine gT (N:=1) rfl ?_);refine gP ?hg (N:=1) ?hd (cs:=#[.string a0_0,.string a0_1,.string a0_2,.int .i64 a0_3,.slice A0_4 l0_4.length c0_4,.slice A0_5 l0_5.length c0_5,.slice A0_6 l0_6.length c0_6,.string a0_7,.string a0_8,.string a0_9,.string a0_10,.string a0_11,.string a0_12,.bool a0_13,.int .i64 a0_14]) (t:=69) ?hr ?_;(case hd=>rfl);(case hg=>rfl);(case hr=>exact cG);intro gb223 hg w3 hbox hb;have BK223:=cB (hbox);have GW223:=cB ((by rw[hg];exact (eN bC):w.heap.size≤gb223));have GE223:=cB ((by rw[hg];exact (eN bC):w.heap.size≤gb223));replace HB:=cB (eD bC hb);clear hb hbox hg;have hcz4_1:w3.cell? ⟨gb223,1,none⟩=some (.string a0_1):=(eB BK223.out 1).trans rfl;have hcz4_2:w3.cell? ⟨gb223,2,none⟩=some (.string a0_2):=(eB BK223.out 2).trans rfl;have hcz4_3:w3.cell? ⟨gb223,3,none⟩=some (.int .i64 a0_3):=(eB BK223.out 3).trans rfl;have hcz4_4:w3.cell? ⟨gb223,4,none⟩=some (.slice A0_4 l0_4.length c0_4):=(eB BK223.out 4).trans rfl))
  go_ret;exact ⟨aC,dP⟩
 rw[if_neg c2] at H;have c2b0:=beq_eq_false_iff_ne.mpr c2;have c2b1:=bne_iff_ne.mpr c2;have c2b2:¬ (l0_4=[]):=fun h_=>c2 (by rw[h_];rfl);replace H:=Option.bind_eq_some_iff.mp H;obtain ⟨t224,A50,H⟩:=H;have A5:=cB A50;clear A50
 by_cases c6:0≤a0_3
 ·rw[if_pos c6] at H;have c6b0:=eq_true c6;have c6b1:=decide_eq_true c6;clear c6
  by_cases c7:a0_3≤(a0_2.size:Int)
  ·rw[if_pos c7] at H;have c7b0:=eq_true c7;have c7b1:=decide_eq_true c7;clear c7
   by_cases c8:t224.size+(a0_2.extract 0 (a0_3:Int).toNat).size≤9223372036854775807
   ·rw[if_pos c8] at H;have c8b0:=eq_true c8;have c8b1:=decide_eq_true c8
    try have c8b2:(9223372036854775807 < t224.size+(a0_2.extract 0 (a0_3:Int).toNat).size)=False:=eq_false (Nat.not_lt.2 c8)
    try have c8b3:(9223372036854775807 < t224.size+a0_3.toNat)=False:=eq_false (by have e_:(a0_2.extract 0 (a0_3:Int).toNat).size=a0_3.toNat:=(by have h_:a0_3≤(a0_2.size:Int):=of_decide_eq_true (by assumption);rw[ByteArray.size_extract];omega);have l_:=of_decide_eq_true c8b1;omega)
    obtain rfl:=Option.some.inj H;go_enter Tryz.func127,Tryz.ntmps127
    try go_wp2_with (first | ((with_reducible refine gT (N:=1) rfl ?_);refine gP ?hg (N:=1) ?hd (cs:=#[.string a0_0,.string a0_1,.string a0_2,.int .i64 a0_3,.slice A0_4 l0_4.length c0_4,.slice A0_5 l0_5.length c0_5,.slice A0_6 l0_6.length c0_6,.string a0_7,.string a0_8,.string a0_9,.string a0_10,.string a0_11,.string a0_12,.bool a0_13,.int .i64 a0_14]) (t:=69) ?hr ?_;(case hd=>rfl);(case hg=>rfl);(case hr=>exact cG);intro gb223 hg w9 hbox hb;have BK223:=cB (hbox);have GW223:=cB ((by rw[hg];exact (eN bC):w.heap.size≤gb223));have GE223:=cB ((by rw[hg];exact (eN bC):w.heap.size≤gb223));replace HB:=cB (eD bC hb);clear hb hbox hg;have hcz10_0:w9.cell? ⟨gb223,0,none⟩=some (.string a0_0):=(eB BK223.out 0).trans rfl;have hcz10_1:w9.cell? ⟨gb223,1,none⟩=some (.string a0_1):=(eB BK223.out 1).trans rfl;have hcz10_2:w9.cell? ⟨gb223,2,none⟩=some (.string a0_2):=(eB BK223.out 2).trans rfl;have hcz10_3:w9.cell? ⟨gb223,3,none⟩=some (.int .i64 a0_3):=(eB BK223.out 3).trans rfl;have hcz10_4:w9.cell? ⟨gb223,4,none⟩=some (.slice A0_4 l0_4.length c0_4):=(eB BK223.out 4).trans rfl;have hcz10_5:w9.cell? ⟨gb223,5,none⟩=some (.slice A0_5 l0_5.length c0_5):=(eB BK223.out 5).trans rfl;have hcz10_6:w9.cell? ⟨gb223,6,none⟩=some (.slice A0_6 l0_6.length c0_6):=(eB BK223.out 6).trans rfl;have hcz10_7:w9.cell? ⟨gb223,7,none⟩=some (.string a0_7):=(eB BK223.out 7).trans rfl;have hcz10_8:w9.cell? ⟨gb223,8,none⟩=some (.string a0_8):=(eB BK223.out 8).trans rfl;have hcz10_9:w9.cell? ⟨gb223,9,none⟩=some (.string a0_9):=(eB BK223.out 9).trans rfl;have hcz10_10:w9.cell? ⟨gb223,10,none⟩=some (.string a0_10):=(eB BK223.out 10).trans rfl;have hcz10_11:w9.cell? ⟨gb223,11,none⟩=some (.string a0_11):=(eB BK223.out 11).trans rfl;have hcz10_12:w9.cell? ⟨gb223,12,none⟩=some (.string a0_12):=(eB BK223.out 12).trans rfl;have hcz10_13:w9.cell? ⟨gb223,13,none⟩=some (.bool a0_13):=(eB BK223.out 13).trans rfl;have hcz10_14:w9.cell? ⟨gb223,14,none⟩=some (.int .i64 a0_14):=(eB BK223.out 14).trans rfl))
    replace BK223:=cB (gI BK223.out);replace HB:=cB (fK HB.out)
    refine iJ (n:=9) (S:=fun w'=>w'.cell? ⟨gb223,0,none⟩=some (.string a0_0)∧w'.cell? ⟨gb223,1,none⟩=some (.string a0_1)∧w'.cell? ⟨gb223,2,none⟩=some (.string a0_2)∧w'.cell? ⟨gb223,3,none⟩=some (.int .i64 a0_3)∧w'.cell? ⟨gb223,4,none⟩=some (.slice A0_4 l0_4.length c0_4)∧w'.cell? ⟨gb223,5,none⟩=some (.slice A0_5 l0_5.length c0_5)∧w'.cell? ⟨gb223,6,none⟩=some (.slice A0_6 l0_6.length c0_6)∧w'.cell? ⟨gb223,7,none⟩=some (.string a0_7)∧w'.cell? ⟨gb223,8,none⟩=some (.string a0_8)∧w'.cell? ⟨gb223,9,none⟩=some (.string a0_9)∧w'.cell? ⟨gb223,10,none⟩=some (.string a0_10)∧w'.cell? ⟨gb223,11,none⟩=some (.string a0_11)∧w'.cell? ⟨gb223,12,none⟩=some (.string a0_12)∧w'.cell? ⟨gb223,13,none⟩=some (.bool a0_13)∧w'.cell? ⟨gb223,14,none⟩=some (.int .i64 a0_14)) (ds:=[]) _ bB rfl rfl ⟨(eB BK223.out 0).trans rfl,(eB BK223.out 1).trans rfl,(eB BK223.out 2).trans rfl,(eB BK223.out 3).trans rfl,(eB BK223.out 4).trans rfl,(eB BK223.out 5).trans rfl,(eB BK223.out 6).trans rfl,(eB BK223.out 7).trans rfl,(eB BK223.out 8).trans rfl,(eB BK223.out 9).trans rfl,(eB BK223.out 10).trans rfl,(eB BK223.out 11).trans rfl,(eB BK223.out 12).trans rfl,(eB BK223.out 13).trans rfl,(eB BK223.out 14).trans rfl⟩ (fun hHeld=>?_);refine aB4 gH.tab3 gH.bits3 (fun HT_ HW_=>?_)
    generalize w9.drew=w11 at BK223 HB hHeld ⊢;refine oG (i:=2) (N:=some 11) (v:=?_) (a':=?_) #[false,false,true,false,false,false,false,false,false] rfl rfl (nW HT_.out bB) (fun _ _ _ h=>h) (Or.inl ⟨by rfl,?_⟩) ?_ ?_;rotate_left
    ·intro w';go_simp
     with_reducible rfl
    rotate_left
    ·simp only[Act.put,cC,cD,cE,hL,iR];rfl
    refine oG (i:=4) (N:=some 13) (v:=?_) (a':=?_) #[false,false,true,false,true,false,false,false,false] rfl rfl (nW HT_.out bB) (fun _ _ _ h=>h) (Or.inl ⟨by rfl,?_⟩) ?_ ?_;rotate_left
    ·intro w';go_simp
     with_reducible rfl
    rotate_left
    ·simp only[Act.put,cC,cD,cE,hL,iR];rfl
    refine take_ (i:=0) (N:=some 9) (v:=?_) (a':=?_) #[true,false,true,false,true,false,false,false,false] rfl rfl (pX HT_.out HW_.out bB) (fun _ _ _ h=>h) (Or.inl ⟨by rfl,?_⟩) hHeld ?_ ?_;rotate_left
    ·rintro w' ⟨s0,s1,s2,s3,s4,s5,s6,s7,s8,s9,s10,s11,s12,s13,s14⟩;go_simp
     with_reducible rfl
    rotate_left
    ·simp only[Act.put,cC,cD,cE,hL,iR];rfl
    refine take_ (i:=3) (N:=some 12) (v:=?_) (a':=?_) #[true,false,true,true,true,false,false,false,false] rfl rfl (pX HT_.out HW_.out bB) (fun _ _ _ h=>h) (Or.inl ⟨by rfl,?_⟩) hHeld ?_ ?_;rotate_left
    ·rintro w' ⟨s0,s1,s2,s3,s4,s5,s6,s7,s8,s9,s10,s11,s12,s13,s14⟩;go_simp
     with_reducible rfl
    rotate_left
    ·simp only[Act.put,cC,cD,cE,hL,iR];rfl
    refine take_ (i:=5) (N:=some 14) (v:=?_) (a':=?_) #[true,false,true,true,true,true,false,false,false] rfl rfl (pX HT_.out HW_.out bB) (fun _ _ _ h=>h) (Or.inl ⟨by rfl,?_⟩) hHeld ?_ ?_;rotate_left
    ·rintro w' ⟨s0,s1,s2,s3,s4,s5,s6,s7,s8,s9,s10,s11,s12,s13,s14⟩;go_simp
     with_reducible rfl
    rotate_left
    ·simp only[Act.put,cC,cD,cE,hL,iR];rfl
    refine oG (i:=6) (N:=some 15) (v:=?_) (a':=?_) #[true,false,true,true,true,true,true,false,false] rfl rfl (nW HT_.out bB) (fun _ _ _ h=>h) (Or.inl ⟨by rfl,?_⟩) ?_ ?_;rotate_left
    ·intro w';go_simp
     with_reducible rfl
    rotate_left
    ·simp only[Act.put,cC,cD,cE,hL,iR];rfl
    refine aI8 (i:=1) (N:=some 10) #[true,true,true,true,true,true,true,false,false] rfl rfl (aH7 HT_.out bB) bF (fun K hK=>?_);refine lS Tryz.func155 bB rfl #[.agg #[.string a0_0,.string a0_1,.string a0_2,.int .i64 a0_3,.slice A0_4 l0_4.length c0_4,.slice A0_5 l0_5.length c0_5,.slice A0_6 l0_6.length c0_6,.string a0_7,.string a0_8,.string a0_9,.string a0_10,.string a0_11,.string a0_12,.bool a0_13,.int .i64 a0_14]] bH rfl rfl bD ?_
    with_reducible refine (mF.calls a0_0 a0_1 a0_2 a0_3 _ _ l0_4 _ _ l0_5 _ _ l0_6 a0_7 a0_8 a0_9 a0_10 a0_11 a0_12 a0_13 a0_14 t224 _ ?side1 ?side2 ?side3 ?side4 ?side5 ?side6 A5.out).mono ?_
    (case side1=>exact cW)
    (case side2=>exact HC0_4.out)
    (case side3=>exact cX)
    (case side4=>exact HC0_5.out)
    (case side5=>exact cY)
    (case side6=>exact HC0_6.out)
    rintro e w12 ⟨rfl,hb⟩;refine ⟨_,rfl,?_⟩;replace BK223:=cB (iG (g:=gb223) (o:=.cells #[.string a0_0,.string a0_1,.string a0_2,.int .i64 a0_3,.slice A0_4 l0_4.length c0_4,.slice A0_5 l0_5.length c0_5,.slice A0_6 l0_6.length c0_6,.string a0_7,.string a0_8,.string a0_9,.string a0_10,.string a0_11,.string a0_12,.bool a0_13,.int .i64 a0_14] 69 (0,0)) (by (with_reducible repeat (first | refine gD ?_ _ | refine gI ?_ | refine gC ?_ _));exact BK223.out) hb);replace HB:=cB (eD (by repeat (first | (with_reducible first | exact HB.out | apply fH | apply eY | apply fK | refine fX ?_ GE223.out) | exact HB.out)) hb)
    (try clear hb)
    (try clear hb2)
    (try clear hk)
    (try clear hi)
    refine hK.out _ _ ⟨(eB BK223.out 0).trans rfl,(eB BK223.out 1).trans rfl,(eB BK223.out 2).trans rfl,(eB BK223.out 3).trans rfl,(eB BK223.out 4).trans rfl,(eB BK223.out 5).trans rfl,(eB BK223.out 6).trans rfl,(eB BK223.out 7).trans rfl,(eB BK223.out 8).trans rfl,(eB BK223.out 9).trans rfl,(eB BK223.out 10).trans rfl,(eB BK223.out 11).trans rfl,(eB BK223.out 12).trans rfl,(eB BK223.out 13).trans rfl,(eB BK223.out 14).trans rfl⟩ (fun hHeld=>?_);clear hK K;refine gM sJ1 ?_
    refine oG (i:=7) (N:=some 16) (v:=?_) (a':=?_) #[true,true,true,true,true,true,true,true,false] rfl rfl (nW HT_.out bB) (fun _ _ _ h=>h) (Or.inl ⟨by rfl,?_⟩) ?_ ?_;rotate_left
    ·intro w';go_simp
     with_reducible rfl
    rotate_left
    ·simp only[Act.put,cC,cD,cE,hL,iR];rfl
    refine oG (i:=8) (N:=some 2) (v:=?_) (a':=?_) #[true,true,true,true,true,true,true,true,true] rfl rfl (nW HT_.out bB) (fun _ _ _ h=>h) (Or.inl ⟨by rfl,?_⟩) ?_ ?_;rotate_left
    ·intro w';go_simp
     with_reducible rfl
    rotate_left
    ·simp only[Act.put,cC,cD,cE,hL,iR];rfl
    refine iV (aFy HT_.out bB) ?_
    try go_wp2
    go_ret;exact ⟨aC,dP⟩
   rw[if_neg c8] at H;exact absurd H bI
  rw[if_neg c7] at H;exact absurd H bI
 rw[if_neg c6] at H;exact absurd H bI
end Go.Proofs.YtcdgldnphhidlaaGreatDoor.PCore
namespace Go.Proofs.YtcdgldnphhidlaaGreatDoor.PCore
open Go.RowKit Go.ZW.PrintWords Go.ZW.PrintLast Go.ZW.PrintMore
attribute [local go_sem] kO kQ lO lP jX jY kP kR   -- for this text's walks alone
def gS.j0:Nat→Bool→ByteArray→ByteArray→ByteArray→Int→List ByteArray→List ByteArray→List ByteArray→ByteArray→ByteArray→ByteArray→ByteArray→ByteArray→ByteArray→Bool→Int→Option (ByteArray)
 | 0,_,_,_,_,_,_,_,_,_,_,_,_,_,_,_,_=>none
 | k+1,x4,x226000,x226001,x226002,x226003,x226004,x226005,x226006,x226007,x226008,x226009,x226010,x226011,x226012,x226013,x226014=>if x4=true then (some (⟨#[]⟩:ByteArray)) else (if (x226004.length:Int)=0 then (some x226001) else ((iM.f x226014).bind fun t226=>(if t226=true then ((kY.f k x226001).bind fun t227=>(if t227.toList=([47]:List UInt8) then (some (⟨#[]⟩:ByteArray)) else (some t227))) else (if x226014=2 then ((gH.f x226000 x226001 x226002 x226003 x226004 x226005 x226006 x226007 x226008 x226009 x226010 x226011 x226012 x226013 x226014).bind fun t228=>(some t228)) else (if (x226004.length:Int)=1 then (some x226001) else ((gH.f x226000 x226001 x226002 x226003 x226004 x226005 x226006 x226007 x226008 x226009 x226010 x226011 x226012 x226013 x226014).bind fun t229=>(if t229.size+1≤9223372036854775807 then (if (t229++(⟨#[46]⟩:ByteArray)).size+x226007.size≤9223372036854775807 then (some ((t229++(⟨#[46]⟩:ByteArray))++x226007)) else (none)) else (none))))))))
def gS.f (k:Nat) (a0_0:ByteArray) (a0_1:ByteArray) (a0_2:ByteArray) (a0_3:Int) (l0_4:List ByteArray) (l0_5:List ByteArray) (l0_6:List ByteArray) (a0_7:ByteArray) (a0_8:ByteArray) (a0_9:ByteArray) (a0_10:ByteArray) (a0_11:ByteArray) (a0_12:ByteArray) (a0_13:Bool) (a0_14:Int):Option (ByteArray):=if (l0_4.length:Int)=0 then (if a0_1.toList=([47]:List UInt8) then (if a0_14≥2 then (gS.j0 k (decide (a0_14≤5)) a0_0 a0_1 a0_2 a0_3 l0_4 l0_5 l0_6 a0_7 a0_8 a0_9 a0_10 a0_11 a0_12 a0_13 a0_14) else (gS.j0 k false a0_0 a0_1 a0_2 a0_3 l0_4 l0_5 l0_6 a0_7 a0_8 a0_9 a0_10 a0_11 a0_12 a0_13 a0_14)) else (gS.j0 k false a0_0 a0_1 a0_2 a0_3 l0_4 l0_5 l0_6 a0_7 a0_8 a0_9 a0_10 a0_11 a0_12 a0_13 a0_14)) else (gS.j0 k false a0_0 a0_1 a0_2 a0_3 l0_4 l0_5 l0_6 a0_7 a0_8 a0_9 a0_10 a0_11 a0_12 a0_13 a0_14)
theorem gS.mono_l:∀ k,(∀ y0 y1 y2 y3 y4 y5 y6 y7 y8 y9 y10 y11 y12 y13 y14 y15,LeO (gS.j0 k y0 y1 y2 y3 y4 y5 y6 y7 y8 y9 y10 y11 y12 y13 y14 y15) (gS.j0 (k+1) y0 y1 y2 y3 y4 y5 y6 y7 y8 y9 y10 y11 y12 y13 y14 y15))
 | 0=>fun _ _ _ _ _ _ _ _ _ _ _ _ _ _ _ _ r h=>by simp[gS.j0] at h
 | k+1=>by
  have ih0:=gS.mono_l k
  intro y0 y1 y2 y3 y4 y5 y6 y7 y8 y9 y10 y11 y12 y13 y14 y15;unfold gS.j0
  exact dJ
theorem gS.mono:∀ a0 a1 a2 a3 a4 a5 a6 a7 a8 a9 a10 a11 a12 a13 a14 k,LeO (gS.f k a0 a1 a2 a3 a4 a5 a6 a7 a8 a9 a10 a11 a12 a13 a14) (gS.f (k+1) a0 a1 a2 a3 a4 a5 a6 a7 a8 a9 a10 a11 a12 a13 a14):=by
 intro a0 a1 a2 a3 a4 a5 a6 a7 a8 a9 a10 a11 a12 a13 a14 k;have ih0:=gS.mono_l k;unfold gS.f
 exact dJ
theorem gS.calls (k:Nat) (a0_0:ByteArray) (a0_1:ByteArray) (a0_2:ByteArray) (a0_3:Int) (A0_4:Option Addr) (c0_4:Nat) (l0_4:List ByteArray) (A0_5:Option Addr) (c0_5:Nat) (l0_5:List ByteArray) (A0_6:Option Addr) (c0_6:Nat) (l0_6:List ByteArray) (a0_7:ByteArray) (a0_8:ByteArray) (a0_9:ByteArray) (a0_10:ByteArray) (a0_11:ByteArray) (a0_12:ByteArray) (a0_13:Bool) (a0_14:Int) (r:ByteArray) (w:World) (hr0_4:Kd.C Kd.string w A0_4 l0_4.length l0_4) (hc0_4:l0_4.length≤c0_4) (hr0_5:Kd.C Kd.string w A0_5 l0_5.length l0_5) (hc0_5:l0_5.length≤c0_5) (hr0_6:Kd.C Kd.string w A0_6 l0_6.length l0_6) (hc0_6:l0_6.length≤c0_6) (h:gS.f k a0_0 a0_1 a0_2 a0_3 l0_4 l0_5 l0_6 a0_7 a0_8 a0_9 a0_10 a0_11 a0_12 a0_13 a0_14=some r) :
 Calls Tryz.prog 128 #[.agg #[.string a0_0,.string a0_1,.string a0_2,.int .i64 a0_3,.slice A0_4 l0_4.length c0_4,.slice A0_5 l0_5.length c0_5,.slice A0_6 l0_6.length c0_6,.string a0_7,.string a0_8,.string a0_9,.string a0_10,.string a0_11,.string a0_12,.bool a0_13,.int .i64 a0_14]] w fun e w'=>e = .returned (.string r)∧Below w.heap.size w w':=by
 have hu69:=Tryz.underlying69;have HR0_4:=cB hr0_4;have HC0_4:=cB hc0_4;clear hr0_4 hc0_4;have HR0_5:=cB hr0_5;have HC0_5:=cB hc0_5;clear hr0_5 hc0_5;have HR0_6:=cB hr0_6;have HC0_6:=cB hc0_6;clear hr0_6 hc0_6;have HB:=cB (Below.refl w.heap.size w);unfold gS.f at h;have H:=h;clear h
 have HC2:=cB H;clear H;go_enter Tryz.func128,Tryz.ntmps128
 go_upto_region 1 with (first | ((with_reducible refine gT (N:=1) rfl ?_);refine gP ?hg (N:=1) ?hd (cs:=#[.string a0_0,.string a0_1,.string a0_2,.int .i64 a0_3,.slice A0_4 l0_4.length c0_4,.slice A0_5 l0_5.length c0_5,.slice A0_6 l0_6.length c0_6,.string a0_7,.string a0_8,.string a0_9,.string a0_10,.string a0_11,.string a0_12,.bool a0_13,.int .i64 a0_14]) (t:=69) ?hr ?_;(case hd=>rfl);(case hg=>rfl);(case hr=>exact cG);intro gb225 hg w3 hbox hb;have BK225:=cB (hbox);have GW225:=cB ((by rw[hg];exact (eN bC):w.heap.size≤gb225));have GE225:=cB ((by rw[hg];exact (eN bC):w.heap.size≤gb225));replace HB:=cB (eD bC hb);clear hb hbox hg))
 (try simp only[Act.put,List.setIfInBounds_toArray,List.set_cons_zero,List.set_cons_succ])
 go_cut [4] (fun v4 wc=>∃ (kq:Nat) (x4_1:Bool),v4 = .bool x4_1∧Aside0 (gS.j0 kq x4_1 a0_0 a0_1 a0_2 a0_3 l0_4 l0_5 l0_6 a0_7 a0_8 a0_9 a0_10 a0_11 a0_12 a0_13 a0_14=some r)∧Aside0 (kq≤k)∧Aside0 (wc.heap[gb225]? = some (.cells #[.string a0_0,.string a0_1,.string a0_2,.int .i64 a0_3,(.slice A0_4 l0_4.length c0_4),(.slice A0_5 l0_5.length c0_5),(.slice A0_6 l0_6.length c0_6),.string a0_7,.string a0_8,.string a0_9,.string a0_10,.string a0_11,.string a0_12,.bool a0_13,.int .i64 a0_14] 69 (0,0)))∧Aside0 (Below w.heap.size w wc))
 case first =>
  have H:=HC2.out;clear HC2
  by_cases c4:(l0_4.length:Int)=0
  ·rw[if_pos c4] at H;have c4b0:=beq_iff_eq.mpr c4;have c4b1:=bne_eq_false_iff_eq.mpr c4;clear c4
   (first | rw[c4b0] | (simp only[hL,iR];rw[c4b0]) | skip)
   by_cases c5:a0_1.toList=([47]:List UInt8)
   ·rw[if_pos c5] at H;have c5b0:=beq_iff_eq.mpr c5;have c5b1:=bne_eq_false_iff_eq.mpr c5;clear c5
    by_cases c6:a0_14≥2
    ·rw[if_pos c6] at H;have c6b0:=decide_eq_true c6;clear c6;have H':=cB H;clear H;have hcz7_1:w3.cell? ⟨gb225,1,none⟩=some (.string a0_1):=(eB BK225.out 1).trans rfl;have hcz7_4:w3.cell? ⟨gb225,4,none⟩=some (.slice A0_4 l0_4.length c0_4):=(eB BK225.out 4).trans rfl
     have hcz7_7:w3.cell? ⟨gb225,7,none⟩=some (.string a0_7):=(eB BK225.out 7).trans rfl;have hcz7_14:w3.cell? ⟨gb225,14,none⟩=some (.int .i64 a0_14):=(eB BK225.out 14).trans rfl
     go_wp2
     go_meet
     case rel=>exact ⟨_,(decide (a0_14≤5)),bE,H',⟨dM⟩,⟨aZ⟩,⟨aE⟩⟩
    rw[if_neg c6] at H;have c6b0:=decide_eq_false c6;clear c6;have H':=cB H;clear H;have hcz8_1:w3.cell? ⟨gb225,1,none⟩=some (.string a0_1):=(eB BK225.out 1).trans rfl;have hcz8_4:w3.cell? ⟨gb225,4,none⟩=some (.slice A0_4 l0_4.length c0_4):=(eB BK225.out 4).trans rfl
    have hcz8_7:w3.cell? ⟨gb225,7,none⟩=some (.string a0_7):=(eB BK225.out 7).trans rfl;have hcz8_14:w3.cell? ⟨gb225,14,none⟩=some (.int .i64 a0_14):=(eB BK225.out 14).trans rfl
    go_wp2
    go_meet
    case rel=>exact ⟨_,(false),bE,H',⟨dM⟩,⟨aZ⟩,⟨aE⟩⟩
   rw[if_neg c5] at H;have c5b0:=beq_eq_false_iff_ne.mpr c5;have c5b1:=bne_iff_ne.mpr c5;have H':=cB H;clear H;have hcz9_1:w3.cell? ⟨gb225,1,none⟩=some (.string a0_1):=(eB BK225.out 1).trans rfl;have hcz9_4:w3.cell? ⟨gb225,4,none⟩=some (.slice A0_4 l0_4.length c0_4):=(eB BK225.out 4).trans rfl
   have hcz9_7:w3.cell? ⟨gb225,7,none⟩=some (.string a0_7):=(eB BK225.out 7).trans rfl
   have hcz9_14:w3.cell? ⟨gb225,14,none⟩=some (.int .i64 a0_14):=(eB BK225.out 14).trans rfl;go_wp2
   go_meet
   case rel=>exact ⟨_,(false),bE,H',⟨dM⟩,⟨aZ⟩,⟨aE⟩⟩
  rw[if_neg c4] at H;have c4b0:=beq_eq_false_iff_ne.mpr c4;have c4b1:=bne_iff_ne.mpr c4;have c4b2:¬ (l0_4=[]):=fun h_=>c4 (by rw[h_];rfl)
  (first | rw[c4b0] | (simp only[hL,iR];rw[c4b0]) | skip)
  have H':=cB H;clear H;have hcz10_1:w3.cell? ⟨gb225,1,none⟩=some (.string a0_1):=(eB BK225.out 1).trans rfl;have hcz10_4:w3.cell? ⟨gb225,4,none⟩=some (.slice A0_4 l0_4.length c0_4):=(eB BK225.out 4).trans rfl
  have hcz10_7:w3.cell? ⟨gb225,7,none⟩=some (.string a0_7):=(eB BK225.out 7).trans rfl;have hcz10_14:w3.cell? ⟨gb225,14,none⟩=some (.int .i64 a0_14):=(eB BK225.out 14).trans rfl
  go_wp2
  go_meet
  case rel=>exact ⟨_,(false),bE,H',⟨dM⟩,⟨aZ⟩,⟨aE⟩⟩
 clear HC2
 obtain ⟨kq,x4_1,rfl,HA,HJ1,BK225,HB⟩:=hcut
 cases kq with
 | zero=>exact absurd HA.out (by simp[gS.j0])
 | succ kj1 =>
  have H:=HA.out;clear HA;simp only[gS.j0] at H
  by_cases c11:x4_1=true
  ·subst c11;rw[if_pos rfl] at H;obtain rfl:=Option.some.inj H;go_wp2;go_ret;exact ⟨aC,aE⟩
  replace c11:=Bool.eq_false_iff.mpr c11;subst c11
  rw[if_neg (show ¬ (false=true) by decide)] at H
  by_cases c12:(l0_4.length:Int)=0
  ·rw[if_pos c12] at H;have c12b0:=beq_iff_eq.mpr c12;have c12b1:=bne_eq_false_iff_eq.mpr c12;clear c12;obtain rfl:=Option.some.inj H;have hcz13_1:wc.cell? ⟨gb225,1,none⟩=some (.string a0_1):=(eB BK225.out 1).trans rfl;have hcz13_4:wc.cell? ⟨gb225,4,none⟩=some (.slice A0_4 l0_4.length c0_4):=(eB BK225.out 4).trans rfl
   have hcz13_7:wc.cell? ⟨gb225,7,none⟩=some (.string a0_7):=(eB BK225.out 7).trans rfl
   have hcz13_14:wc.cell? ⟨gb225,14,none⟩=some (.int .i64 a0_14):=(eB BK225.out 14).trans rfl;go_wp2;go_ret
   exact ⟨aC,aE⟩
  rw[if_neg c12] at H;have c12b0:=beq_eq_false_iff_ne.mpr c12;have c12b1:=bne_iff_ne.mpr c12;have c12b2:¬ (l0_4=[]):=fun h_=>c12 (by rw[h_];rfl);replace H:=Option.bind_eq_some_iff.mp H;obtain ⟨t226,A140,H⟩:=H;have A14:=cB A140;clear A140
  by_cases c15:t226=true
  ·subst c15;rw[if_pos rfl] at H;replace H:=Option.bind_eq_some_iff.mp H;obtain ⟨t227,A160,H⟩:=H;have A16:=cB A160;clear A160
   by_cases c17:t227.toList=([47]:List UInt8)
   ·rw[if_pos c17] at H;have c17b0:=beq_iff_eq.mpr c17;have c17b1:=bne_eq_false_iff_eq.mpr c17;clear c17;obtain rfl:=Option.some.inj H;have hcz18_0:wc.cell? ⟨gb225,0,none⟩=some (.string a0_0):=(eB BK225.out 0).trans rfl;have hcz18_1:wc.cell? ⟨gb225,1,none⟩=some (.string a0_1):=(eB BK225.out 1).trans rfl;have hcz18_2:wc.cell? ⟨gb225,2,none⟩=some (.string a0_2):=(eB BK225.out 2).trans rfl;have hcz18_3:wc.cell? ⟨gb225,3,none⟩=some (.int .i64 a0_3):=(eB BK225.out 3).trans rfl;have hcz18_4:wc.cell? ⟨gb225,4,none⟩=some (.slice A0_4 l0_4.length c0_4):=(eB BK225.out 4).trans rfl;have hcz18_5:wc.cell? ⟨gb225,5,none⟩=some (.slice A0_5 l0_5.length c0_5):=(eB BK225.out 5).trans rfl
    have hcz18_6:wc.cell? ⟨gb225,6,none⟩=some (.slice A0_6 l0_6.length c0_6):=(eB BK225.out 6).trans rfl;have hcz18_7:wc.cell? ⟨gb225,7,none⟩=some (.string a0_7):=(eB BK225.out 7).trans rfl;have hcz18_8:wc.cell? ⟨gb225,8,none⟩=some (.string a0_8):=(eB BK225.out 8).trans rfl;have hcz18_9:wc.cell? ⟨gb225,9,none⟩=some (.string a0_9):=(eB BK225.out 9).trans rfl;have hcz18_10:wc.cell? ⟨gb225,10,none⟩=some (.string a0_10):=(eB BK225.out 10).trans rfl;have hcz18_11:wc.cell? ⟨gb225,11,none⟩=some (.string a0_11):=(eB BK225.out 11).trans rfl;have hcz18_12:wc.cell? ⟨gb225,12,none⟩=some (.string a0_12):=(eB BK225.out 12).trans rfl;have hcz18_13:wc.cell? ⟨gb225,13,none⟩=some (.bool a0_13):=(eB BK225.out 13).trans rfl
    have hcz18_14:wc.cell? ⟨gb225,14,none⟩=some (.int .i64 a0_14):=(eB BK225.out 14).trans rfl
    go_wp2_with (first | ((with_reducible refine eT (f:=125) rfl ?_);refine fY (some 34) rfl rfl Tryz.func125 bB rfl #[.int .i64 a0_14] rfl bD ?_;(with_reducible refine (iM.calls a0_14 true _ A14.out).mono ?_);rintro e w' ⟨rfl,⟨nd,rfl⟩⟩;refine ⟨_,rfl,?_⟩) | ((with_reducible refine eT (f:=121) rfl ?_);refine fY (some 37) rfl rfl Tryz.func121 bB rfl #[.string a0_1] rfl bD ?_;(with_reducible refine (kY.calls kj1 a0_1 t227 _ A16.out).mono ?_);rintro e w' ⟨rfl,⟨nd,rfl⟩⟩;refine ⟨_,rfl,?_⟩))
    go_ret;exact ⟨aC,aE⟩
   rw[if_neg c17] at H;have c17b0:=beq_eq_false_iff_ne.mpr c17;have c17b1:=bne_iff_ne.mpr c17;obtain rfl:=Option.some.inj H;have hcz19_0:wc.cell? ⟨gb225,0,none⟩=some (.string a0_0):=(eB BK225.out 0).trans rfl;have hcz19_1:wc.cell? ⟨gb225,1,none⟩=some (.string a0_1):=(eB BK225.out 1).trans rfl;have hcz19_2:wc.cell? ⟨gb225,2,none⟩=some (.string a0_2):=(eB BK225.out 2).trans rfl;have hcz19_3:wc.cell? ⟨gb225,3,none⟩=some (.int .i64 a0_3):=(eB BK225.out 3).trans rfl;have hcz19_4:wc.cell? ⟨gb225,4,none⟩=some (.slice A0_4 l0_4.length c0_4):=(eB BK225.out 4).trans rfl;have hcz19_5:wc.cell? ⟨gb225,5,none⟩=some (.slice A0_5 l0_5.length c0_5):=(eB BK225.out 5).trans rfl
   have hcz19_6:wc.cell? ⟨gb225,6,none⟩=some (.slice A0_6 l0_6.length c0_6):=(eB BK225.out 6).trans rfl;have hcz19_7:wc.cell? ⟨gb225,7,none⟩=some (.string a0_7):=(eB BK225.out 7).trans rfl;have hcz19_8:wc.cell? ⟨gb225,8,none⟩=some (.string a0_8):=(eB BK225.out 8).trans rfl;have hcz19_9:wc.cell? ⟨gb225,9,none⟩=some (.string a0_9):=(eB BK225.out 9).trans rfl;have hcz19_10:wc.cell? ⟨gb225,10,none⟩=some (.string a0_10):=(eB BK225.out 10).trans rfl;have hcz19_11:wc.cell? ⟨gb225,11,none⟩=some (.string a0_11):=(eB BK225.out 11).trans rfl;have hcz19_12:wc.cell? ⟨gb225,12,none⟩=some (.string a0_12):=(eB BK225.out 12).trans rfl;have hcz19_13:wc.cell? ⟨gb225,13,none⟩=some (.bool a0_13):=(eB BK225.out 13).trans rfl
   have hcz19_14:wc.cell? ⟨gb225,14,none⟩=some (.int .i64 a0_14):=(eB BK225.out 14).trans rfl
   go_wp2_with (first | ((with_reducible refine eT (f:=125) rfl ?_);refine fY (some 34) rfl rfl Tryz.func125 bB rfl #[.int .i64 a0_14] rfl bD ?_;(with_reducible refine (iM.calls a0_14 true _ A14.out).mono ?_);rintro e w' ⟨rfl,⟨nd,rfl⟩⟩;refine ⟨_,rfl,?_⟩) | ((with_reducible refine eT (f:=121) rfl ?_);refine fY (some 37) rfl rfl Tryz.func121 bB rfl #[.string a0_1] rfl bD ?_;(with_reducible refine (kY.calls kj1 a0_1 t227 _ A16.out).mono ?_);rintro e w' ⟨rfl,⟨nd,rfl⟩⟩;refine ⟨_,rfl,?_⟩))
   go_ret;exact ⟨aC,aE⟩
  replace c15:=Bool.eq_false_iff.mpr c15;subst c15;rw[if_neg (show ¬ (false=true) by decide)] at H
  by_cases c20:a0_14=2
  ·rw[if_pos c20] at H;have c20b0:=beq_iff_eq.mpr c20;have c20b1:=bne_eq_false_iff_eq.mpr c20;clear c20;replace H:=Option.bind_eq_some_iff.mp H;obtain ⟨t228,A210,H⟩:=H;have A21:=cB A210;clear A210;obtain rfl:=Option.some.inj H;have hcz22_0:wc.cell? ⟨gb225,0,none⟩=some (.string a0_0):=(eB BK225.out 0).trans rfl;have hcz22_1:wc.cell? ⟨gb225,1,none⟩=some (.string a0_1):=(eB BK225.out 1).trans rfl;have hcz22_2:wc.cell? ⟨gb225,2,none⟩=some (.string a0_2):=(eB BK225.out 2).trans rfl;have hcz22_3:wc.cell? ⟨gb225,3,none⟩=some (.int .i64 a0_3):=(eB BK225.out 3).trans rfl;have hcz22_4:wc.cell? ⟨gb225,4,none⟩=some (.slice A0_4 l0_4.length c0_4):=(eB BK225.out 4).trans rfl
   have hcz22_5:wc.cell? ⟨gb225,5,none⟩=some (.slice A0_5 l0_5.length c0_5):=(eB BK225.out 5).trans rfl;have hcz22_6:wc.cell? ⟨gb225,6,none⟩=some (.slice A0_6 l0_6.length c0_6):=(eB BK225.out 6).trans rfl;have hcz22_7:wc.cell? ⟨gb225,7,none⟩=some (.string a0_7):=(eB BK225.out 7).trans rfl;have hcz22_8:wc.cell? ⟨gb225,8,none⟩=some (.string a0_8):=(eB BK225.out 8).trans rfl;have hcz22_9:wc.cell? ⟨gb225,9,none⟩=some (.string a0_9):=(eB BK225.out 9).trans rfl;have hcz22_10:wc.cell? ⟨gb225,10,none⟩=some (.string a0_10):=(eB BK225.out 10).trans rfl;have hcz22_11:wc.cell? ⟨gb225,11,none⟩=some (.string a0_11):=(eB BK225.out 11).trans rfl;have hcz22_12:wc.cell? ⟨gb225,12,none⟩=some (.string a0_12):=(eB BK225.out 12).trans rfl
   have hcz22_13:wc.cell? ⟨gb225,13,none⟩=some (.bool a0_13):=(eB BK225.out 13).trans rfl;have hcz22_14:wc.cell? ⟨gb225,14,none⟩=some (.int .i64 a0_14):=(eB BK225.out 14).trans rfl
   go_wp2_with (first | ((with_reducible refine eT (f:=125) rfl ?_);refine fY (some 34) rfl rfl Tryz.func125 bB rfl #[.int .i64 a0_14] rfl bD ?_;(with_reducible refine (iM.calls a0_14 false _ A14.out).mono ?_);rintro e w' ⟨rfl,⟨nd,rfl⟩⟩;refine ⟨_,rfl,?_⟩) | ((with_reducible refine eT (f:=127) rfl ?_);refine fY (some 46) rfl rfl Tryz.func127 bB rfl #[.agg #[.string a0_0,.string a0_1,.string a0_2,.int .i64 a0_3,.slice A0_4 l0_4.length c0_4,.slice A0_5 l0_5.length c0_5,.slice A0_6 l0_6.length c0_6,.string a0_7,.string a0_8,.string a0_9,.string a0_10,.string a0_11,.string a0_12,.bool a0_13,.int .i64 a0_14]] rfl bD ?_;(with_reducible refine (gH.calls a0_0 a0_1 a0_2 a0_3 _ _ l0_4 _ _ l0_5 _ _ l0_6 a0_7 a0_8 a0_9 a0_10 a0_11 a0_12 a0_13 a0_14 t228 _ ?side1 ?side2 ?side3 ?side4 ?side5 ?side6 A21.out).mono ?_);(case side1=>repeat (first | exact (Kd.C_below HR0_4.out (by repeat (first | (with_reducible first | exact HB.out | apply fH | apply eY | apply fK | refine fX ?_ GE225.out) | exact HB.out))) | (with_reducible refine Kd.C_alloc ?_ _) | (with_reducible refine Kd.C_drewN ?_ _) | (with_reducible refine Kd.C_drew ?_)));(case side2=>exact HC0_4.out);(case side3=>repeat (first | exact (Kd.C_below HR0_5.out (by repeat (first | (with_reducible first | exact HB.out | apply fH | apply eY | apply fK | refine fX ?_ GE225.out) | exact HB.out))) | (with_reducible refine Kd.C_alloc ?_ _) | (with_reducible refine Kd.C_drewN ?_ _) | (with_reducible refine Kd.C_drew ?_)));(case side4=>exact HC0_5.out);(case side5=>repeat (first | exact (Kd.C_below HR0_6.out (by repeat (first | (with_reducible first | exact HB.out | apply fH | apply eY | apply fK | refine fX ?_ GE225.out) | exact HB.out))) | (with_reducible refine Kd.C_alloc ?_ _) | (with_reducible refine Kd.C_drewN ?_ _) | (with_reducible refine Kd.C_drew ?_)));(case side6=>exact HC0_6.out);rintro e w23 ⟨rfl,hb⟩;refine ⟨_,rfl,?_⟩;replace BK225:=cB (iG (g:=gb225) (o:=.cells #[.string a0_0,.string a0_1,.string a0_2,.int .i64 a0_3,.slice A0_4 l0_4.length c0_4,.slice A0_5 l0_5.length c0_5,.slice A0_6 l0_6.length c0_6,.string a0_7,.string a0_8,.string a0_9,.string a0_10,.string a0_11,.string a0_12,.bool a0_13,.int .i64 a0_14] 69 (0,0)) (by (with_reducible repeat (first | refine gD ?_ _ | refine gI ?_ | refine gC ?_ _));exact BK225.out) hb);replace HB:=cB (eD (by repeat (first | (with_reducible first | exact HB.out | apply fH | apply eY | apply fK | refine fX ?_ GE225.out) | exact HB.out)) hb);(try clear hb);(try clear hb2);(try clear hk);(try clear hi)))
   go_ret;exact ⟨aC,aE⟩
  rw[if_neg c20] at H;have c20b0:=beq_eq_false_iff_ne.mpr c20;have c20b1:=bne_iff_ne.mpr c20
  by_cases c24:(l0_4.length:Int)=1
  ·rw[if_pos c24] at H;have c24b0:=beq_iff_eq.mpr c24;have c24b1:=bne_eq_false_iff_eq.mpr c24;clear c24;obtain rfl:=Option.some.inj H;have hcz25_0:wc.cell? ⟨gb225,0,none⟩=some (.string a0_0):=(eB BK225.out 0).trans rfl;have hcz25_1:wc.cell? ⟨gb225,1,none⟩=some (.string a0_1):=(eB BK225.out 1).trans rfl;have hcz25_2:wc.cell? ⟨gb225,2,none⟩=some (.string a0_2):=(eB BK225.out 2).trans rfl;have hcz25_3:wc.cell? ⟨gb225,3,none⟩=some (.int .i64 a0_3):=(eB BK225.out 3).trans rfl;have hcz25_4:wc.cell? ⟨gb225,4,none⟩=some (.slice A0_4 l0_4.length c0_4):=(eB BK225.out 4).trans rfl;have hcz25_5:wc.cell? ⟨gb225,5,none⟩=some (.slice A0_5 l0_5.length c0_5):=(eB BK225.out 5).trans rfl
   have hcz25_6:wc.cell? ⟨gb225,6,none⟩=some (.slice A0_6 l0_6.length c0_6):=(eB BK225.out 6).trans rfl;have hcz25_7:wc.cell? ⟨gb225,7,none⟩=some (.string a0_7):=(eB BK225.out 7).trans rfl;have hcz25_8:wc.cell? ⟨gb225,8,none⟩=some (.string a0_8):=(eB BK225.out 8).trans rfl;have hcz25_9:wc.cell? ⟨gb225,9,none⟩=some (.string a0_9):=(eB BK225.out 9).trans rfl;have hcz25_10:wc.cell? ⟨gb225,10,none⟩=some (.string a0_10):=(eB BK225.out 10).trans rfl;have hcz25_11:wc.cell? ⟨gb225,11,none⟩=some (.string a0_11):=(eB BK225.out 11).trans rfl;have hcz25_12:wc.cell? ⟨gb225,12,none⟩=some (.string a0_12):=(eB BK225.out 12).trans rfl;have hcz25_13:wc.cell? ⟨gb225,13,none⟩=some (.bool a0_13):=(eB BK225.out 13).trans rfl
   have hcz25_14:wc.cell? ⟨gb225,14,none⟩=some (.int .i64 a0_14):=(eB BK225.out 14).trans rfl
   go_wp2_with (first | ((with_reducible refine eT (f:=125) rfl ?_);refine fY (some 34) rfl rfl Tryz.func125 bB rfl #[.int .i64 a0_14] rfl bD ?_;(with_reducible refine (iM.calls a0_14 false _ A14.out).mono ?_);rintro e w' ⟨rfl,⟨nd,rfl⟩⟩;refine ⟨_,rfl,?_⟩))
   go_ret;exact ⟨aC,aE⟩
  rw[if_neg c24] at H;have c24b0:=beq_eq_false_iff_ne.mpr c24;have c24b1:=bne_iff_ne.mpr c24;replace H:=Option.bind_eq_some_iff.mp H;obtain ⟨t229,A260,H⟩:=H;have A26:=cB A260;clear A260
  by_cases c27:t229.size+1≤9223372036854775807
  ·rw[if_pos c27] at H;have c27b0:=eq_true c27;have c27b1:=decide_eq_true c27
   try have c27b2:(9223372036854775807 < t229.size+1)=False:=eq_false (Nat.not_lt.2 c27)
   by_cases c28:(t229++(⟨#[46]⟩:ByteArray)).size+a0_7.size≤9223372036854775807
   ·rw[if_pos c28] at H;have c28b0:=eq_true c28;have c28b1:=decide_eq_true c28
    try have c28b2:(9223372036854775807 < (t229++(⟨#[46]⟩:ByteArray)).size+a0_7.size)=False:=eq_false (Nat.not_lt.2 c28)
    try have c28b3:(9223372036854775807 < t229.size+1+a0_7.size)=False:=eq_false (by have l_:=of_decide_eq_true c28b1;have d_:(⟨#[46]⟩:ByteArray).size=1:=rfl;simp only[ByteArray.size_append] at l_;omega)
    obtain rfl:=Option.some.inj H;have hcz29_0:wc.cell? ⟨gb225,0,none⟩=some (.string a0_0):=(eB BK225.out 0).trans rfl;have hcz29_1:wc.cell? ⟨gb225,1,none⟩=some (.string a0_1):=(eB BK225.out 1).trans rfl;have hcz29_2:wc.cell? ⟨gb225,2,none⟩=some (.string a0_2):=(eB BK225.out 2).trans rfl;have hcz29_3:wc.cell? ⟨gb225,3,none⟩=some (.int .i64 a0_3):=(eB BK225.out 3).trans rfl;have hcz29_4:wc.cell? ⟨gb225,4,none⟩=some (.slice A0_4 l0_4.length c0_4):=(eB BK225.out 4).trans rfl;have hcz29_5:wc.cell? ⟨gb225,5,none⟩=some (.slice A0_5 l0_5.length c0_5):=(eB BK225.out 5).trans rfl;have hcz29_6:wc.cell? ⟨gb225,6,none⟩=some (.slice A0_6 l0_6.length c0_6):=(eB BK225.out 6).trans rfl
    have hcz29_7:wc.cell? ⟨gb225,7,none⟩=some (.string a0_7):=(eB BK225.out 7).trans rfl;have hcz29_8:wc.cell? ⟨gb225,8,none⟩=some (.string a0_8):=(eB BK225.out 8).trans rfl;have hcz29_9:wc.cell? ⟨gb225,9,none⟩=some (.string a0_9):=(eB BK225.out 9).trans rfl;have hcz29_10:wc.cell? ⟨gb225,10,none⟩=some (.string a0_10):=(eB BK225.out 10).trans rfl;have hcz29_11:wc.cell? ⟨gb225,11,none⟩=some (.string a0_11):=(eB BK225.out 11).trans rfl;have hcz29_12:wc.cell? ⟨gb225,12,none⟩=some (.string a0_12):=(eB BK225.out 12).trans rfl;have hcz29_13:wc.cell? ⟨gb225,13,none⟩=some (.bool a0_13):=(eB BK225.out 13).trans rfl;have hcz29_14:wc.cell? ⟨gb225,14,none⟩=some (.int .i64 a0_14):=(eB BK225.out 14).trans rfl
    try go_wp2_with (first | ((with_reducible refine eT (f:=125) rfl ?_);refine fY (some 34) rfl rfl Tryz.func125 bB rfl #[.int .i64 a0_14] rfl bD ?_;(with_reducible refine (iM.calls a0_14 false _ A14.out).mono ?_);rintro e w' ⟨rfl,⟨nd,rfl⟩⟩;refine ⟨_,rfl,?_⟩))
    (try (rw[aGg wc];generalize hq_:World.drewN wc _=wc;have n0_:Aside0 (wc.heap[gb225]? = some (.cells #[.string a0_0,.string a0_1,.string a0_2,.int .i64 a0_3,.slice A0_4 l0_4.length c0_4,.slice A0_5 l0_5.length c0_5,.slice A0_6 l0_6.length c0_6,.string a0_7,.string a0_8,.string a0_9,.string a0_10,.string a0_11,.string a0_12,.bool a0_13,.int .i64 a0_14] 69 (0,0))):=⟨by rw[← hq_];exact (by (with_reducible repeat (first | refine gD ?_ _ | refine gI ?_ | refine gC ?_ _));exact BK225.out)⟩;have n1_:Aside0 (Below w.heap.size w wc):=⟨by rw[← hq_];exact (by repeat (first | (with_reducible first | exact HB.out | apply fH | apply eY | apply fK | refine fX ?_ GE225.out) | exact HB.out))⟩;clear BK225 HB hq_;have BK225:=n0_;have HB:=n1_;clear n0_ n1_))
    replace BK225:=cB (gI BK225.out);replace HB:=cB (fK HB.out)
    refine iJ (n:=7) (S:=fun w'=>w'.cell? ⟨gb225,0,none⟩=some (.string a0_0)∧w'.cell? ⟨gb225,1,none⟩=some (.string a0_1)∧w'.cell? ⟨gb225,2,none⟩=some (.string a0_2)∧w'.cell? ⟨gb225,3,none⟩=some (.int .i64 a0_3)∧w'.cell? ⟨gb225,4,none⟩=some (.slice A0_4 l0_4.length c0_4)∧w'.cell? ⟨gb225,5,none⟩=some (.slice A0_5 l0_5.length c0_5)∧w'.cell? ⟨gb225,6,none⟩=some (.slice A0_6 l0_6.length c0_6)∧w'.cell? ⟨gb225,7,none⟩=some (.string a0_7)∧w'.cell? ⟨gb225,8,none⟩=some (.string a0_8)∧w'.cell? ⟨gb225,9,none⟩=some (.string a0_9)∧w'.cell? ⟨gb225,10,none⟩=some (.string a0_10)∧w'.cell? ⟨gb225,11,none⟩=some (.string a0_11)∧w'.cell? ⟨gb225,12,none⟩=some (.string a0_12)∧w'.cell? ⟨gb225,13,none⟩=some (.bool a0_13)∧w'.cell? ⟨gb225,14,none⟩=some (.int .i64 a0_14)) (ds:=[]) _ bB rfl rfl ⟨(eB BK225.out 0).trans rfl,(eB BK225.out 1).trans rfl,(eB BK225.out 2).trans rfl,(eB BK225.out 3).trans rfl,(eB BK225.out 4).trans rfl,(eB BK225.out 5).trans rfl,(eB BK225.out 6).trans rfl,(eB BK225.out 7).trans rfl,(eB BK225.out 8).trans rfl,(eB BK225.out 9).trans rfl,(eB BK225.out 10).trans rfl,(eB BK225.out 11).trans rfl,(eB BK225.out 12).trans rfl,(eB BK225.out 13).trans rfl,(eB BK225.out 14).trans rfl⟩ (fun hHeld=>?_)
    generalize wc.drew=w30 at BK225 HB hHeld ⊢;refine sA1 3 (some 57) sB1 ?_
    refine sC1 0 (some 54) sM1 ?_
    refine sC1 4 (some 58) sM1 ?_
    refine sF1 1 (some 55) sG1 (fun K hK=>?_);refine lS Tryz.func127 bB rfl #[.agg #[.string a0_0,.string a0_1,.string a0_2,.int .i64 a0_3,.slice A0_4 l0_4.length c0_4,.slice A0_5 l0_5.length c0_5,.slice A0_6 l0_6.length c0_6,.string a0_7,.string a0_8,.string a0_9,.string a0_10,.string a0_11,.string a0_12,.bool a0_13,.int .i64 a0_14]] bH rfl rfl bD ?_
    with_reducible refine (gH.calls a0_0 a0_1 a0_2 a0_3 _ _ l0_4 _ _ l0_5 _ _ l0_6 a0_7 a0_8 a0_9 a0_10 a0_11 a0_12 a0_13 a0_14 t229 _ ?side1 ?side2 ?side3 ?side4 ?side5 ?side6 A26.out).mono ?_
    (case side1=>exact cW)
    (case side2=>exact HC0_4.out)
    (case side3=>exact cX)
    (case side4=>exact HC0_5.out)
    (case side5=>exact cY)
    (case side6=>exact HC0_6.out)
    rintro e w31 ⟨rfl,hb⟩;refine ⟨_,rfl,?_⟩;replace BK225:=cB (iG (g:=gb225) (o:=.cells #[.string a0_0,.string a0_1,.string a0_2,.int .i64 a0_3,.slice A0_4 l0_4.length c0_4,.slice A0_5 l0_5.length c0_5,.slice A0_6 l0_6.length c0_6,.string a0_7,.string a0_8,.string a0_9,.string a0_10,.string a0_11,.string a0_12,.bool a0_13,.int .i64 a0_14] 69 (0,0)) (by (with_reducible repeat (first | refine gD ?_ _ | refine gI ?_ | refine gC ?_ _));exact BK225.out) hb);replace HB:=cB (eD (by repeat (first | (with_reducible first | exact HB.out | apply fH | apply eY | apply fK | refine fX ?_ GE225.out) | exact HB.out)) hb)
    (try clear hb)
    (try clear hb2)
    (try clear hk)
    (try clear hi)
    refine hK.out _ _ ⟨(eB BK225.out 0).trans rfl,(eB BK225.out 1).trans rfl,(eB BK225.out 2).trans rfl,(eB BK225.out 3).trans rfl,(eB BK225.out 4).trans rfl,(eB BK225.out 5).trans rfl,(eB BK225.out 6).trans rfl,(eB BK225.out 7).trans rfl,(eB BK225.out 8).trans rfl,(eB BK225.out 9).trans rfl,(eB BK225.out 10).trans rfl,(eB BK225.out 11).trans rfl,(eB BK225.out 12).trans rfl,(eB BK225.out 13).trans rfl,(eB BK225.out 14).trans rfl⟩ (fun hHeld=>?_);clear hK K;refine gM sJ1 ?_
    refine sA1 2 (some 56) sB1 ?_
    refine sA1 5 (some 59) sB1 ?_
    refine sA1 6 (some 2) sB1 ?_
    refine iV bB ?_
    try go_wp2
    go_ret;exact ⟨aC,aE⟩
   rw[if_neg c28] at H;exact absurd H bI
  rw[if_neg c27] at H;exact absurd H bI
end Go.Proofs.YtcdgldnphhidlaaGreatDoor.PCore
