/- Texts that the law leans on: PCorex10, PCorex, Find, Count, Do3, New. Condition: as told at each. -/
import Derived.Deep.LoopGhost
import Derived.Test.YtmgdbpjidkdegaaGreatDoorQa
import Derived.Test.YtmgdbpjidkdegaaGreatDoorQ16
set_option linter.unusedVariables false
set_option linter.unusedSimpArgs false
namespace Go.Proofs.YtmgdbpjidkdegaaGreatDoor.PCore
open Go.RowKit Go.Proofs.YtmgdbpjidkdegaaGreatDoorW.PrintWords Go.Proofs.YtmgdbpjidkdegaaGreatDoorW.PrintLast Go.Proofs.YtmgdbpjidkdegaaGreatDoorW.PrintMore
attribute [local go_sem] max2_int min2_int max_two min_two max_three min_three max_four min_four   -- for this text's walks alone
set_option linter.unusedVariables false
set_option linter.unusedSimpArgs false
def spec_containerOf.f (k:Nat) (a0:ByteArray):Option (ByteArray):=(spec_slashBefore.f k a0 (a0.size:Int)).bind fun t209=>(if t209≤0 then (some (⟨#[]⟩:ByteArray)) else (if 0≤t209 then (if t209≤(a0.size:Int) then ((spec_lastPart.f k (a0.extract 0 (t209:Int).toNat)).bind fun t210=>(some t210)) else (none)) else (none)))
theorem spec_containerOf.mono:∀ a0 k,LeO (spec_containerOf.f k a0) (spec_containerOf.f (k+1) a0):=by
 intro a0 k;unfold spec_containerOf.f
 repeat' first
  | (with_reducible exact spec_lastPart.mono _ _)
  | (with_reducible exact spec_slashBefore.mono _ _ _)
  | (with_reducible exact LeO.refl _)
  | (with_reducible exact LeO.none _)
  | (with_reducible refine LeO.ite ?_ ?_)
  | (with_reducible refine LeO.bind ?_ (fun _=>?_))
  | exact spec_lastPart.mono _ _
  | exact spec_slashBefore.mono _ _ _
  | exact LeO.none _
  | refine LeO.ite ?_ ?_
  | refine LeO.bind ?_ (fun _=>?_)
set_option maxHeartbeats 8000000 in
set_option maxRecDepth 100000 in
theorem spec_containerOf.calls (k:Nat) (a0:ByteArray) (r:ByteArray) (w:World) (h:spec_containerOf.f k a0=some r) :
 Calls Tryz.prog 126 #[.string a0] w fun e w'=>e = .returned (.string r)∧Drawn0 w w':=by
 have H:((spec_slashBefore.f k a0 (a0.size:Int)).bind fun t209=>(if t209≤0 then (some (⟨#[]⟩:ByteArray)) else (if 0≤t209 then (if t209≤(a0.size:Int) then ((spec_lastPart.f k (a0.extract 0 (t209:Int).toNat)).bind fun t210=>(some t210)) else (none)) else (none))))=some r:=h;clear h;replace H:=Option.bind_eq_some_iff.mp H;obtain ⟨t209,A20,H⟩:=H;replace H:(if t209≤0 then (some (⟨#[]⟩:ByteArray)) else (if 0≤t209 then (if t209≤(a0.size:Int) then ((spec_lastPart.f k (a0.extract 0 (t209:Int).toNat)).bind fun t210=>(some t210)) else (none)) else (none)))=some r:=H;have A2:=bR A20;clear A20
 by_cases c3:t209≤0
 ·rw[if_pos c3] at H;have c3b0:decide (t209≤0)=true:=decide_eq_true c3;clear c3;obtain rfl:=Option.some.inj H;go_enter Tryz.func126,Tryz.ntmps126
  go_wp2_with (first | ((with_reducible refine gate_callee (f:=73) rfl ?_);refine goesL_ (some 7) rfl rfl Tryz.func73 bB rfl #[.string a0,.int .i64 (a0.size:Int)] rfl bD ?_;(with_reducible refine (spec_slashBefore.calls k a0 (a0.size:Int) t209 _ A2.out).mono ?_);rintro e w' ⟨rfl,⟨nd,rfl⟩⟩;refine ⟨_,rfl,?_⟩))
  go_ret;exact ⟨cZ,dA⟩
 ·rw[if_neg c3] at H;have c3b0:decide (t209≤0)=false:=decide_eq_false c3;clear c3
  by_cases c4:0≤t209
  ·rw[if_pos c4] at H;have c4b0:=eq_true c4;have c4b1:decide (0≤t209)=true:=decide_eq_true c4;clear c4
   by_cases c5:t209≤(a0.size:Int)
   ·rw[if_pos c5] at H;have c5b0:=eq_true c5;have c5b1:decide (t209≤(a0.size:Int))=true:=decide_eq_true c5;clear c5;replace H:=Option.bind_eq_some_iff.mp H;obtain ⟨t210,A60,H⟩:=H;replace H:(some t210)=some r:=H;have A6:=bR A60;clear A60;obtain rfl:=Option.some.inj H;go_enter Tryz.func126,Tryz.ntmps126
    go_wp2_with (first | ((with_reducible refine gate_callee (f:=73) rfl ?_);refine goesL_ (some 7) rfl rfl Tryz.func73 bB rfl #[.string a0,.int .i64 (a0.size:Int)] rfl bD ?_;(with_reducible refine (spec_slashBefore.calls k a0 (a0.size:Int) t209 _ A2.out).mono ?_);rintro e w' ⟨rfl,⟨nd,rfl⟩⟩;refine ⟨_,rfl,?_⟩) | ((with_reducible refine gate_callee (f:=52) rfl ?_);refine goesL_ (some 13) rfl rfl Tryz.func52 bB rfl #[.string (a0.extract 0 (t209:Int).toNat)] rfl bD ?_;(with_reducible refine (spec_lastPart.calls k (a0.extract 0 (t209:Int).toNat) t210 _ A6.out).mono ?_);rintro e w' ⟨rfl,⟨nd,rfl⟩⟩;refine ⟨_,rfl,?_⟩))
    go_ret;exact ⟨cZ,dA⟩
   ·rw[if_neg c5] at H;exact absurd H bI
  ·rw[if_neg c4] at H;exact absurd H bI
def spec_partsOf.l0:Nat→ByteArray→List ByteArray→Int→Int→Option (List ByteArray)
 | 0,_,_,_,_=>none
 | k+1,x0,x3,x4,x5=>if x5≤(x0.size:Int) then (if x5=(x0.size:Int) then (if 0≤x4 then (if x4≤x5 then (if x3.length < 8796093022208 then (spec_partsOf.l0 k x0 (x3++[x0.extract (x4:Int).toNat (x5:Int).toNat]) (wrap64 (x5+1)) (wrap64 (x5+1))) else (none)) else (none)) else (none)) else (if 0≤x5 then (if x5 < (x0.size:Int) then (if (bt x0 x5)=47 then (if 0≤x4 then (if x4≤x5 then (if x3.length < 8796093022208 then (spec_partsOf.l0 k x0 (x3++[x0.extract (x4:Int).toNat (x5:Int).toNat]) (wrap64 (x5+1)) (wrap64 (x5+1))) else (none)) else (none)) else (none)) else (spec_partsOf.l0 k x0 x3 x4 (wrap64 (x5+1)))) else (none)) else (none))) else (some x3)
def spec_partsOf.f (k:Nat) (a0:ByteArray):Option (List ByteArray):=spec_partsOf.l0 k a0 ([]:List ByteArray) 1 1
theorem spec_partsOf.mono_l:∀ k,(∀ y0 y1 y2 y3,LeO (spec_partsOf.l0 k y0 y1 y2 y3) (spec_partsOf.l0 (k+1) y0 y1 y2 y3))
 | 0=>fun _ _ _ _ r h=>by simp[spec_partsOf.l0] at h
 | k+1=>by
  have ih0:=spec_partsOf.mono_l k
  ·intro y0 y1 y2 y3;unfold spec_partsOf.l0
   exact cL
theorem spec_partsOf.mono:∀ a0 k,LeO (spec_partsOf.f k a0) (spec_partsOf.f (k+1) a0):=by
 intro a0 k;have ih0:=spec_partsOf.mono_l k;unfold spec_partsOf.f
 exact cL
set_option maxHeartbeats 8000000 in
set_option maxRecDepth 100000 in
theorem spec_partsOf.calls (k:Nat) (a0:ByteArray) (r:List ByteArray) (w:World) (h:spec_partsOf.f k a0=some r) :
 Calls Tryz.prog 157 #[.string a0] w fun e w'=>∃ v0_:Value,e = .returned (v0_)∧Kd.R Kd.string 9 w' w.heap.size (fun _=>True) v0_ r∧Below w.heap.size w w':=by
 have HB:=bR (Below.refl w.heap.size w);have H:(spec_partsOf.l0 k a0 ([]:List ByteArray) 1 1)=some r:=h;clear h;have H':=bR H;clear H;go_enter Tryz.func157,Tryz.ntmps157;go_wp2
 go_loopg [3,4,5] k (fun kq v3 v4 v5 w'=>∃ (x3_1:List ByteArray) (x4_1:Int) (x5_1:Int),v4 = .int .i64 x4_1∧v5 = .int .i64 x5_1∧Aside0 (spec_partsOf.l0 kq a0 x3_1 x4_1 x5_1=some r)∧Aside0 (kq≤k)∧Aside0 (Kd.R Kd.string 9 w' w.heap.size (fun _=>True) v3 x3_1)∧Aside0 (Below w.heap.size w w'))
 case atStart=>exact ⟨(([]:List ByteArray)),(1),(1),bE,bE,H',⟨Nat.le_refl _⟩,⟨by first | exact Kd.R_nil _ _ _ _ _ | exact Kd.N_nil _ _ _ _ _ | exact Kd.V_nil _ _ _ _ _ | exact Kd.Q_nil _ _ _ _ _ | exact Kd.S_nil _ _ _ _ _⟩,⟨by repeat (first | (with_reducible first | exact HB.out | apply below_alloc | apply pw_below_drewN | apply below_drew1) | exact HB.out)⟩⟩
 case round =>
  clear H'
  try clear c1
  obtain ⟨x3_1,x4_1,x5_1,rfl,rfl,HA,HK1,HO_3,HB⟩:=hrel
  cases gk with
  | zero=>exact absurd HA.out (by simp[spec_partsOf.l0])
  | succ k1 =>
   have H:=HA.out;clear HA;simp only[spec_partsOf.l0] at H
   by_cases c2:x5_1≤(a0.size:Int)
   ·rw[if_pos c2] at H;have c2b0:decide (x5_1≤(a0.size:Int))=true:=decide_eq_true c2;clear c2
    by_cases c3:x5_1=(a0.size:Int)
    ·rw[if_pos c3] at H;have c3b0:(x5_1==(a0.size:Int))=true:=beq_iff_eq.mpr c3;have c3b1:(x5_1 != (a0.size:Int))=false:=bne_eq_false_iff_eq.mpr c3;clear c3
     by_cases c4:0≤x4_1
     ·rw[if_pos c4] at H;have c4b0:=eq_true c4;have c4b1:decide (0≤x4_1)=true:=decide_eq_true c4;clear c4
      by_cases c5:x4_1≤x5_1
      ·rw[if_pos c5] at H;have c5b0:=eq_true c5;have c5b1:decide (x4_1≤x5_1)=true:=decide_eq_true c5;clear c5;have c6b0:=eq_true (bQ:x5_1≤(a0.size:Int))
       by_cases c7:x3_1.length < 8796093022208
       ·rw[if_pos c7] at H;have LMc7:=bR c7;clear c7
        obtain ⟨y211,hy211⟩:∃ y_:List ByteArray,y_=(x3_1++[a0.extract (x4_1:Int).toNat (x5_1:Int).toNat]):=⟨_,rfl⟩
        replace H:(spec_partsOf.l0 k1 a0 y211 (wrap64 (x5_1+1)) (wrap64 (x5_1+1)))=some r:=by first | (rw[hy211];with_reducible exact H) | (have H2_:=(Option.bind_some _ _).symm.trans H;rw[hy211];with_reducible exact H2_) | (have H2_:=(Option.bind_some _ _).symm.trans H;with_reducible exact H2_) | with_reducible exact H | (rw[hy211];exact H) | exact H
        have Ny211:=bR hy211;clear hy211;have H':=bR H;clear H
        go_wp2_with (first | ((with_reducible refine gate_builtin (b:=.append) (xs:=#[.tmp 22,.tmp 27]) rfl ?_);at_builtin;refine Kd.R_append Kd.string (w0:=w) w.heap.size rfl (.tmp 22) (.tmp 27) 22 9 (.string ⟨#[]⟩) 16 rfl Tryz.underlying22 info9 rfl bG bA u3 x3_1 (a0.extract (x4_1:Int).toNat (x5_1:Int).toNat) [.string (a0.extract (x4_1:Int).toNat (x5_1:Int).toNat)] (fun _=>True) (fun _=>False) rfl rfl ?aP (fun _ hk=>hk.elim) ?aF ?aO ?aB ?aS ?aL ?_;(case aP=>exact rfl);(case aB=>exact bC);(case aF=>exact (fun _ _=>trivial));(case aO=>exact bL);(case aS=>exact (below_size bC));(case aL=>have:=LMc7.out;omega);intro v212 w8 ho hb hg hat;rw[← Ny211.out] at ho;have n0_:=bR (hb);have n1_:=bR (ho);clear HB;clear HO_3;have HB:=n0_;have HO213:=n1_;clear n0_ n1_;clear ho hb hg hat))
        go_roundg k1
        case measure=>have:=HK1.out;omega
        case rel=>exact ⟨(y211),(wrap64 (x5_1+1)),(wrap64 (x5_1+1)),bE,bE,H',⟨by have:=HK1.out;omega⟩,⟨by (with_reducible repeat (first | apply Kd.R_alloc | apply Kd.R_drewN | apply Kd.R_drew));exact HO213.out⟩,⟨by repeat (first | (with_reducible first | exact HB.out | apply below_alloc | apply pw_below_drewN | apply below_drew1) | exact HB.out)⟩⟩
       ·rw[if_neg c7] at H;exact absurd H bI
      ·rw[if_neg c5] at H;exact absurd H bI
     ·rw[if_neg c4] at H;exact absurd H bI
    ·rw[if_neg c3] at H;have c3b0:(x5_1==(a0.size:Int))=false:=beq_eq_false_iff_ne.mpr c3;have c3b1:(x5_1 != (a0.size:Int))=true:=bne_iff_ne.mpr c3
     by_cases c9:0≤x5_1
     ·rw[if_pos c9] at H;have c9b0:decide (0≤x5_1)=true:=decide_eq_true c9;clear c9
      by_cases c10:x5_1 < (a0.size:Int)
      ·rw[if_pos c10] at H;have c10b0:decide (x5_1 < (a0.size:Int))=true:=decide_eq_true c10;clear c10
       by_cases c12:(bt a0 x5_1)=47
       ·rw[if_pos c12] at H;have c12b0:((bt a0 x5_1)==47)=true:=beq_iff_eq.mpr c12;have c12b1:((bt a0 x5_1) != 47)=false:=bne_eq_false_iff_eq.mpr c12;clear c12
        by_cases c13:0≤x4_1
        ·rw[if_pos c13] at H;have c13b0:=eq_true c13;have c13b1:decide (0≤x4_1)=true:=decide_eq_true c13;clear c13
         by_cases c14:x4_1≤x5_1
         ·rw[if_pos c14] at H;have c14b0:=eq_true c14;have c14b1:decide (x4_1≤x5_1)=true:=decide_eq_true c14;clear c14;have c15b0:=eq_true (bQ:x5_1≤(a0.size:Int))
          by_cases c16:x3_1.length < 8796093022208
          ·rw[if_pos c16] at H;have LMc16:=bR c16;clear c16
           obtain ⟨y214,hy214⟩:∃ y_:List ByteArray,y_=(x3_1++[a0.extract (x4_1:Int).toNat (x5_1:Int).toNat]):=⟨_,rfl⟩
           replace H:(spec_partsOf.l0 k1 a0 y214 (wrap64 (x5_1+1)) (wrap64 (x5_1+1)))=some r:=by first | (rw[hy214];with_reducible exact H) | (have H2_:=(Option.bind_some _ _).symm.trans H;rw[hy214];with_reducible exact H2_) | (have H2_:=(Option.bind_some _ _).symm.trans H;with_reducible exact H2_) | with_reducible exact H | (rw[hy214];exact H) | exact H
           have Ny214:=bR hy214;clear hy214;have H':=bR H;clear H;have p11:0≤(x5_1:Int):=bQ;have q11:x5_1 < (a0.size:Int):=bQ;have hx11:=bt_at a0 x5_1;replace p11:=eq_true p11;replace q11:=eq_true q11
           go_wp2_with (first | ((with_reducible refine gate_builtin (b:=.append) (xs:=#[.tmp 22,.tmp 27]) rfl ?_);at_builtin;refine Kd.R_append Kd.string (w0:=w) w.heap.size rfl (.tmp 22) (.tmp 27) 22 9 (.string ⟨#[]⟩) 16 rfl Tryz.underlying22 info9 rfl bG bA u3 x3_1 (a0.extract (x4_1:Int).toNat (x5_1:Int).toNat) [.string (a0.extract (x4_1:Int).toNat (x5_1:Int).toNat)] (fun _=>True) (fun _=>False) rfl rfl ?aP (fun _ hk=>hk.elim) ?aF ?aO ?aB ?aS ?aL ?_;(case aP=>exact rfl);(case aB=>exact bC);(case aF=>exact (fun _ _=>trivial));(case aO=>exact bL);(case aS=>exact (below_size bC));(case aL=>have:=LMc16.out;omega);intro v215 w17 ho hb hg hat;rw[← Ny214.out] at ho;have n0_:=bR (hb);have n1_:=bR (ho);clear HB;clear HO_3;have HB:=n0_;have HO216:=n1_;clear n0_ n1_;clear ho hb hg hat))
           go_roundg k1
           case measure=>have:=HK1.out;omega
           case rel=>exact ⟨(y214),(wrap64 (x5_1+1)),(wrap64 (x5_1+1)),bE,bE,H',⟨by have:=HK1.out;omega⟩,⟨by (with_reducible repeat (first | apply Kd.R_alloc | apply Kd.R_drewN | apply Kd.R_drew));exact HO216.out⟩,⟨by repeat (first | (with_reducible first | exact HB.out | apply below_alloc | apply pw_below_drewN | apply below_drew1) | exact HB.out)⟩⟩
          ·rw[if_neg c16] at H;exact absurd H bI
         ·rw[if_neg c14] at H;exact absurd H bI
        ·rw[if_neg c13] at H;exact absurd H bI
       ·rw[if_neg c12] at H;have c12b0:((bt a0 x5_1)==47)=false:=beq_eq_false_iff_ne.mpr c12;have c12b1:((bt a0 x5_1) != 47)=true:=bne_iff_ne.mpr c12;have H':=bR H;clear H;have p11:0≤(x5_1:Int):=bQ;have q11:x5_1 < (a0.size:Int):=bQ;have hx11:=bt_at a0 x5_1;replace p11:=eq_true p11;replace q11:=eq_true q11;go_wp2
        go_roundg k1
        case measure=>have:=HK1.out;omega
        case rel=>exact ⟨(x3_1),(x4_1),(wrap64 (x5_1+1)),bE,bE,H',⟨by have:=HK1.out;omega⟩,⟨by (with_reducible repeat (first | apply Kd.R_alloc | apply Kd.R_drewN | apply Kd.R_drew));exact HO_3.out⟩,⟨by repeat (first | (with_reducible first | exact HB.out | apply below_alloc | apply pw_below_drewN | apply below_drew1) | exact HB.out)⟩⟩
      ·rw[if_neg c10] at H;exact absurd H bI
     ·rw[if_neg c9] at H;exact absurd H bI
   ·rw[if_neg c2] at H;have c2b0:decide (x5_1≤(a0.size:Int))=false:=decide_eq_false c2;clear c2;obtain rfl:=Option.some.inj H;go_wp2;go_ret;exact ⟨_,by first | rfl | (simp[errW_none,errW_some] <;> rfl) | (simp[*,errW_none,errW_some] <;> rfl),by (with_reducible repeat (first | apply Kd.R_alloc | apply Kd.R_drewN | apply Kd.R_drew));exact HO_3.out,by repeat (first | (with_reducible first | exact HB.out | apply below_alloc | apply pw_below_drewN | apply below_drew1) | exact HB.out)⟩
def spec_isBundle.f (a0:Int):Option (Bool):=if a0≥3 then (some (decide (a0≤5))) else (some false)
set_option maxHeartbeats 8000000 in
set_option maxRecDepth 100000 in
theorem spec_isBundle.calls (a0:Int) (r:Bool) (w:World) (h:spec_isBundle.f a0=some r) :
 Calls Tryz.prog 129 #[.int .i64 a0] w fun e w'=>e = .returned (.bool r)∧Drawn0 w w':=by
 have H:(if a0≥3 then (some (decide (a0≤5))) else (some false))=some r:=h;clear h
 by_cases c2:a0≥3
 ·rw[if_pos c2] at H;have c2b0:decide (3≤a0)=true:=decide_eq_true c2;clear c2;obtain rfl:=Option.some.inj H;go_enter Tryz.func129,Tryz.ntmps129;go_wp2;go_ret;exact ⟨cZ,dA⟩
 ·rw[if_neg c2] at H;have c2b0:decide (3≤a0)=false:=decide_eq_false c2;clear c2;obtain rfl:=Option.some.inj H;go_enter Tryz.func129,Tryz.ntmps129;go_wp2;go_ret;exact ⟨cZ,dA⟩
def spec_isBundle.Pure:Prop:=∀ (a0:Int),(Lit.int .i64 a0).wf=true→spec_isBundle.f a0=some true
theorem spec_isBundle.walk (P:spec_isBundle.Pure) (a0:Int) (w:World) (w0:(Lit.int .i64 a0).wf=true) :
 Calls Tryz.prog 129 #[.int .i64 a0] w fun e w'=>e = .returned (.bool true)∧Below w.heap.size w w':=by
 have h:=P a0 w0;refine (spec_isBundle.calls a0 true w h).mono ?_;rintro e w' ⟨rfl,hd⟩;exact ⟨rfl,hd.below⟩
end Go.Proofs.YtmgdbpjidkdegaaGreatDoor.PCore
namespace Go.Proofs.YtmgdbpjidkdegaaGreatDoor.PCore
open Go.RowKit Go.Proofs.YtmgdbpjidkdegaaGreatDoorW.PrintWords Go.Proofs.YtmgdbpjidkdegaaGreatDoorW.PrintLast Go.Proofs.YtmgdbpjidkdegaaGreatDoorW.PrintMore
attribute [local go_sem] max2_int min2_int max_two min_two max_three min_three max_four min_four   -- for this text's walks alone
set_option linter.unusedVariables false
set_option linter.unusedSimpArgs false
end Go.Proofs.YtmgdbpjidkdegaaGreatDoor.PCore
namespace Go.Proofs.YtmgdbpjidkdegaaGreatDoor.Path
open Go.RowKit Go.Proofs.YtmgdbpjidkdegaaGreatDoorW.PrintWords Go.Proofs.YtmgdbpjidkdegaaGreatDoor.Base Go.Proofs.YtmgdbpjidkdegaaGreatDoor.PCore
theorem bt_is (s:ByteArray) (i:Nat) (hi:i < s.size) (n:Int) (c:UInt8) (hn:(c.toNat:Int)=n):(bt s (i:Int)=n)↔(L s)[i]? = some c:=by
 have h:i < (L s).length:=by rw[L_length];exact hi
 rw[bt_nat s i h,List.getElem?_eq_getElem h,← hn];constructor
 ·intro e;have e' : ((L s)[i]'h).toNat=c.toNat:=by omega
  rw[UInt8.toNat_inj.1 e']
 ·intro e;injection e with e
  rw[e]
def ints (l:List Nat):List Int:=l.map fun (n:Nat)=>(n:Int)
section
variable (s:ByteArray) (hs:s.size≤1000000)
include hs
theorem ev_l2 (R:List Int) (e:Nat) (he:e < s.size):∀ (n a:Nat) (acc:List Int),e - a=n→a≤e→acc.length≤a→Ev (fun k=>paths_findWrapperDotPositions.l0 k s (acc++ints (dotsF (L s) a (e - a))) ((e+1:Nat):Int)) R→Ev (fun k=>paths_findWrapperDotPositions.l2 k s acc (e:Int) (a:Int)) R:=by
 intro n
 induction n with
 | zero =>
  intro a acc h1 h2 h3 h;have e1:e=a:=by omega
  subst e1;have e2:acc++ints (dotsF (L s) e (e - e))=acc:=by simp[dotsF,ints]
  rw[e2] at h;refine Ev.step (fun k=>?_) h;simp only[paths_findWrapperDotPositions.l2];rw[if_neg bA,w64 bA bA];rfl
 | succ n ih =>
  intro a acc h1 h2 h3 h;have hb:=bt_is s a bA 46 46 bG
  have hd:dotsF (L s) a (e - a)=(if (L s)[a]? = some 46 then [a] else [])++dotsF (L s) (a+1) (e - (a+1)):=by
   have e3:e - a=(e - (a+1))+1:=by omega
   unfold dotsF;rw[e3,List.range'_succ,List.filter_cons]
   by_cases c:(L s)[a]? = some 46
   ·simp[c]
   ·simp[c]
  by_cases c:(L s)[a]? = some 46
  ·have c':=hb.2 c
   have hh:=ih (a+1) (acc++[(a:Int)]) bA bA (by simp;omega) (by
    rw[hd,if_pos c] at h
    simpa [ints] using h)
   refine Ev.step (fun k=>?_) hh;simp only[paths_findWrapperDotPositions.l2];rw[if_pos bA,if_pos bA,if_pos bA,if_pos c',if_pos bA,w64 bA bA];rfl
  ·have c' : ¬ (bt s (a:Int)=46):=fun x=>c (hb.1 x)
   have hh:=ih (a+1) acc bA bA bA (by
    rw[hd,if_neg c] at h
    simpa [ints] using h)
   refine Ev.step (fun k=>?_) hh;simp only[paths_findWrapperDotPositions.l2];rw[if_pos bA,if_pos bA,if_pos bA,if_neg c',w64 bA bA];rfl
def wInt:Option Nat→Int
 | none=>-1
 | some e=>e
omit hs in
theorem wEndF_lt (l:List UInt8):∀ (g k e:Nat),wEndF l g k=some e→k≤e∧e < l.length
 | 0,_,_,h=>by cases h
 | g+1,k,e,h=>by
  unfold wEndF at h;split at h
  ·cases h
  ·split at h
   ·rename_i h1 h2
    cases h;exact ⟨Nat.le_refl _,(List.getElem?_eq_some_iff.1 h2.1).1⟩
   ·have:=wEndF_lt l g (k+1) e h;omega
theorem ev_l1 (R:List Int) (i:Nat) (acc:List Int):∀ (n p:Nat),s.size - p=n→p≤s.size→Ev (fun k=>paths_findWrapperDotPositions.j3 k s acc (i:Int) (wInt (wEndF (L s) n p))) R→Ev (fun k=>paths_findWrapperDotPositions.l1 k s acc (i:Int) (-1) (p:Int)) R:=by
 have hl:=L_length s;intro n
 induction n with
 | zero =>
  intro p h1 h2 h;refine Ev.step (fun k=>?_) h;simp only[paths_findWrapperDotPositions.l1];rw[if_neg bA];rfl
 | succ n ih =>
  intro p h1 h2 h;have hb1:=bt_is s p bA 47 47 bG;have hb2:=bt_is s p bA 95 95 bG;unfold wEndF at h
  by_cases c1:(L s)[p]? = some 47
  ·rw[if_pos c1] at h;refine Ev.step (fun k=>?_) h;simp only[paths_findWrapperDotPositions.l1];rw[if_pos bA,if_pos bA,if_pos (hb1.2 c1)];rfl
  ·rw[if_neg c1] at h;have c1' : ¬ (bt s (p:Int)=47):=fun x=>c1 (hb1.1 x)
   by_cases c2:(L s)[p]? = some 95
   ·have c2':=hb2.2 c2
    by_cases c3:s.size≤p+1
    ·rw[if_pos ⟨c2,.inl bA⟩] at h;refine Ev.step (fun k=>?_) h;simp only[paths_findWrapperDotPositions.l1];rw[if_pos bA,if_pos bA,if_neg c1',if_pos c2',w64 bA bA,if_pos bA];rfl
    ·have hb3:=bt_is s (p+1) bA 46 46 bG;have ep:((p+1:Nat):Int)=(p:Int)+1:=by omega
     by_cases c4:(L s)[p+1]? = some 46
     ·rw[if_pos ⟨c2,.inr c4⟩] at h;refine Ev.step (fun k=>?_) h;simp only[paths_findWrapperDotPositions.l1];rw[if_pos bA,if_pos bA,if_neg c1',if_pos c2',w64 bA bA,if_neg bA,if_pos bA,if_pos bA,if_pos (by rw[← ep];exact hb3.2 c4)];rfl
     ·rw[if_neg (by rintro ⟨_,x | x⟩ <;> first | omega | exact c4 x)] at h;refine Ev.step (fun k=>?_) (ih (p+1) bA bA h);simp only[paths_findWrapperDotPositions.l1];rw[if_pos bA,if_pos bA,if_neg c1',if_pos c2',w64 bA bA,if_neg bA,if_pos bA,if_pos bA,if_neg (by rw[← ep];exact fun x=>c4 (hb3.1 x))];rfl
   ·rw[if_neg (fun x=>c2 x.1)] at h;refine Ev.step (fun k=>?_) (ih (p+1) bA bA h);simp only[paths_findWrapperDotPositions.l1];rw[if_pos bA,if_pos bA,if_neg c1',if_neg (fun x=>c2 (hb2.1 x)),w64 bA bA];rfl
theorem ev_l0:∀ (g i:Nat) (acc:List Int),s.size - i≤g→acc.length≤i→i≤1000001→Ev (fun k=>paths_findWrapperDotPositions.l0 k s acc (i:Int)) (acc++ints (skF (L s) g i)):=by
 have hl:=L_length s;intro g
 induction g with
 | zero =>
  intro i acc h1 h2 h3;have e:acc++ints (skF (L s) 0 i)=acc:=by simp[skF,ints]
  rw[e];refine Ev.step (f:=fun _=>some acc) (fun k=>?_) (Ev.now _);simp only[paths_findWrapperDotPositions.l0];rw[if_neg bA]
 | succ g ih =>
  intro i acc h1 h2 h3;unfold skF
  by_cases c0:s.size≤i
  ·rw[if_pos bA];have e:acc++ints []=acc:=by simp[ints]
   rw[e];refine Ev.step (f:=fun _=>some acc) (fun k=>?_) (Ev.now _);simp only[paths_findWrapperDotPositions.l0];rw[if_neg bA]
  ·rw[if_neg bA]
   -- to j1
   have hj:Ev (fun k=>paths_findWrapperDotPositions.j1 k s acc (i:Int) (opens (L s) i)) (acc++ints (if opens (L s) i=true then (match wEnd (L s) (i+2) with | some e=>dotsF (L s) (i+2) (e - (i+2))++skF (L s) g (e+1) | none=>skF (L s) g (i+1)) else skF (L s) g (i+1))):=by
    have next:Ev (fun k=>paths_findWrapperDotPositions.l0 k s acc ((i+1:Nat):Int)) (acc++ints (skF (L s) g (i+1))):=ih (i+1) acc bA bA bA
    cases ho:opens (L s) i with
    | false =>
     simp only[Bool.false_eq_true,if_false];refine Ev.step (fun k=>?_) next;simp only[paths_findWrapperDotPositions.j1,Bool.false_eq_true,if_false];rw[w64 bA bA];rfl
    | true =>
     have ho2:i+2 < s.size:=by
      unfold opens at ho;simp only[Bool.and_eq_true,decide_eq_true_eq] at ho;omega
     simp only[if_true];refine Ev.step (f:=fun k=>paths_findWrapperDotPositions.l1 k s acc (i:Int) (-1) ((i+2:Nat):Int)) (fun k=>?_) (ev_l1 s hs _ i acc (s.size - (i+2)) (i+2) rfl bA ?_)
     ·simp only[paths_findWrapperDotPositions.j1,if_true];rw[w64 bA bA];rfl
     ·have hw:wEnd (L s) (i+2)=wEndF (L s) (s.size - (i+2)) (i+2):=by unfold wEnd;rw[hl]
      rw[hw]
      cases he:wEndF (L s) (s.size - (i+2)) (i+2) with
      | none =>
       refine Ev.step (fun k=>?_) next;simp only[paths_findWrapperDotPositions.j3,wInt,if_true];rw[w64 bA bA];rfl
      | some e =>
       obtain ⟨q1,q2⟩:=wEndF_lt _ _ _ _ he
       have hh:=ih (e+1) (acc++ints (dotsF (L s) (i+2) (e - (i+2)))) bA (by
        have:(dotsF (L s) (i+2) (e - (i+2))).length≤e - (i+2):=by unfold dotsF;refine Nat.le_trans (List.length_filter_le _ _) ?_;simp
        simp[ints];omega) bA
       have e5:acc++ints (dotsF (L s) (i+2) (e - (i+2))++skF (L s) g (e+1))=(acc++ints (dotsF (L s) (i+2) (e - (i+2))))++ints (skF (L s) g (e+1)):=by simp[ints]
       rw[e5];refine Ev.step (f:=fun k=>paths_findWrapperDotPositions.l2 k s acc (e:Int) ((i+2:Nat):Int)) (fun k=>?_) (ev_l2 s hs _ e bA (e - (i+2)) (i+2) acc rfl bA bA hh);simp only[paths_findWrapperDotPositions.j3];rw[if_neg (show ¬ wInt (some e) = -1 by show ¬ (e:Int) = -1;omega),w64 bA bA];rfl
   have hb1:=bt_is s i bA 46 46 bG;refine Ev.step (fun k=>?_) hj;simp only[paths_findWrapperDotPositions.l0];rw[if_pos bA,w64 (n:=(i:Int)+2) bA bA];unfold opens
   by_cases c1:i+2 < s.size
   ·have hb2:=bt_is s (i+1) bA 95 95 bG;have ep:((i+1:Nat):Int)=(i:Int)+1:=by omega
    rw[if_pos bA,if_pos bA]
    by_cases c2:(L s)[i]? = some 46
    ·rw[if_pos (hb1.2 c2),w64 (n:=(i:Int)+1) bA bA,if_pos bA,if_pos bA]
     have e6:(bt s ((i:Int)+1)==95)=((L s)[i+1]? == some 95):=by
      rw[← ep,Bool.eq_iff_iff,beq_iff_eq,beq_iff_eq];exact hb2
     rw[e6,c2,decide_eq_true bA]
     simp
    ·rw[if_neg (fun x=>c2 (hb1.1 x))];have:((L s)[i]? == some 46)=false:=by simpa using c2
     rw[this]
     simp
   ·rw[if_neg bA,decide_eq_false bA]
    simp
omit hs in
theorem last_slash (h:∃ j:Nat,(L s)[j]? = some 47):∃ j:Nat,Go.Lib.lastIndexByte s 47=(j:Int)∧behind (L s)=j+1∧(L s)[j]? = some 47∧∀ k,j < k→(L s)[k]?≠some 47:=by
 have hl:=L_length s;have hd:s.data.size=s.size:=rfl;have es:(⟨(L s).toArray⟩:ByteArray)=s:=L_inj (L_mk _)
 have at_:∀ k,k < s.size→(((s.data[k]!).toNat:Int)=47↔(L s)[k]? = some 47):=by
  intro k hk;have h1:k < s.data.size:=hk;rw[getElem!_pos s.data k h1];have e:(L s)[k]? = some s.data[k]:=by unfold L;simp
  rw[e];constructor
  ·intro e2;have:(s.data[k]).toNat=(47:UInt8).toNat:=by have:(47:UInt8).toNat=47:=rfl;omega
   rw[UInt8.toNat_inj.1 this]
  ·intro e2;injection e2 with e2
   rw[e2];rfl
 rcases Go.Lib.lastIdx_spec s 47 s.size with ⟨_,h2⟩ | ⟨i,h1,h2,h3,h4⟩
 ·obtain ⟨j,hj⟩:=h;have:j < s.size:=by rw[← hl];exact (List.getElem?_eq_some_iff.1 hj).1
  exact absurd ((at_ j this).2 hj) (h2 j this)
 ·refine ⟨i,h2,?_,(at_ i h1).1 h3,fun k hk e=>?_⟩
  ·unfold behind;rw[es];show (Go.Lib.lastIdx s 47 s.size+1).toNat=i+1;rw[h2];omega
  ·have:k < s.size:=by rw[← hl];exact (List.getElem?_eq_some_iff.1 e).1
   exact h4 k hk this ((at_ k this).2 e)
theorem ev_find (h:∃ j:Nat,(L s)[j]? = some 47):Ev (fun k=>paths_findWrapperDotPositions.f k s) (ints (mSkip (L s))):=by
 have hl:=L_length s;obtain ⟨j,h1,h2,h3,_⟩:=last_slash s h;have hj:j < s.size:=by rw[← hl];exact (List.getElem?_eq_some_iff.1 h3).1
 have e:=ev_l0 s hs (L s).length j [] bA bI bA;have e9:[]++ints (skF (L s) (L s).length j)=ints (mSkip (L s)):=by unfold mSkip;rw[h2];rfl
 rw[e9] at e;refine Ev.congr (fun k=>?_) e;show ((strings_LastIndex.f s ⟨#[47]⟩).bind fun t=>if t = -1 then some ([]:List Int) else paths_findWrapperDotPositions.l0 k s [] t)=_;unfold strings_LastIndex.f;rw[if_pos ⟨by rw[L_toList];rfl,by omega⟩,h1];have hne:¬ ((j:Int) = -1):=by omega
 show (if (j:Int) = -1 then some ([]:List Int) else paths_findWrapperDotPositions.l0 k s [] (j:Int))=paths_findWrapperDotPositions.l0 k s [] (j:Int);rw[if_neg hne]
end
theorem ev_isSk (i:Nat):∀ (n j:Nat) (l:List Nat),l.length - j=n→j≤l.length→l.length≤1000000→Ev (fun k=>paths_isSkippedDot.l0 k (i:Int) (ints l) (l.length:Int) (j:Int)) (isSk (l.drop j) i):=by
 intro n
 induction n with
 | zero =>
  intro j l h1 h2 h3;have e:l.drop j=[]:=List.drop_of_length_le bA;rw[e];refine Ev.step (f:=fun _=>some false) (fun k=>?_) (Ev.now _);simp only[paths_isSkippedDot.l0];rw[if_neg bA]
 | succ n ih =>
  intro j l h1 h2 h3;have hj:j < l.length:=by omega
  have e:l.drop j=l[j]::l.drop (j+1):=List.drop_eq_getElem_cons hj
  have hr:rd (ints l) (j:Int)=(l[j]:Int):=by
   unfold rd
   simp[ints,hj]
  rw[e];have hz:(ints l).length=l.length:=by simp[ints]
  by_cases c1:l[j]=i
  ·have e2:isSk (l[j]::l.drop (j+1)) i=true:=by unfold isSk;rw[if_pos c1]
   rw[e2];refine Ev.step (f:=fun _=>some true) (fun k=>?_) (Ev.now _);simp only[paths_isSkippedDot.l0];rw[if_pos bA,if_pos bA,if_pos bA,hr,if_pos bA]
  ·by_cases c2:i < l[j]
   ·have e2:isSk (l[j]::l.drop (j+1)) i=false:=by unfold isSk;rw[if_neg c1,if_pos c2]
    rw[e2];refine Ev.step (f:=fun _=>some false) (fun k=>?_) (Ev.now _);simp only[paths_isSkippedDot.l0];rw[if_pos bA,if_pos bA,if_pos bA,hr,if_neg bA,if_pos bA]
   ·have e2:isSk (l[j]::l.drop (j+1)) i=isSk (l.drop (j+1)) i:=by rw[isSk,if_neg c1,if_neg c2]
    rw[e2];refine Ev.step (fun k=>?_) (ih (j+1) l bA bA h3);simp only[paths_isSkippedDot.l0];rw[if_pos bA,if_pos bA,if_pos bA,hr,if_neg bA,if_neg bA,w64 bA bA];rfl
theorem ev_skipped (i:Nat) (l:List Nat) (h:l.length≤1000000):Ev (fun k=>paths_isSkippedDot.f k (ints l) (i:Int)) (isSk l i):=by
 have e:=ev_isSk i l.length 0 l bA bA h;refine Ev.congr (fun k=>?_) e;show paths_isSkippedDot.l0 k (i:Int) (ints l) ((ints l).length:Int) 0=_;rw[show (ints l).length=l.length by simp[ints]];rfl
theorem ev_index (s t:ByteArray) (hs:s.size≤1000000) (ht:t.size≤1000000):∀ (g i:Nat),s.size+1 - i≤g→i≤s.size+1→∃ r:Int,Ev (fun k=>paths_zzIndex.l0 k s t (i:Int)) r∧decide (r≥0)=hasF (L s) (L t) g i:=by
 have hl:=L_length s;have hlt:=L_length t;intro g
 induction g with
 | zero =>
  intro i h1 h2;refine ⟨-1,Ev.step (f:=fun _=>some (-1)) (fun k=>?_) (Ev.now _),by simp[hasF]⟩;simp only[paths_zzIndex.l0];rw[if_neg (by rw[w64 bA bA];omega)]
 | succ g ih =>
  intro i h1 h2;unfold hasF
  by_cases c:s.size < i+t.size
  ·rw[if_pos bA];refine ⟨-1,Ev.step (f:=fun _=>some (-1)) (fun k=>?_) (Ev.now _),by simp⟩;simp only[paths_zzIndex.l0];rw[if_neg (by rw[w64 bA bA];omega)]
  ·rw[if_neg bA];have hx:(s.extract i (i+t.size)).toList=((L s).drop i).take (L t).length:=by rw[L_toList,L_extract,hlt];congr 1;omega
   by_cases h:((L s).drop i).take (L t).length=L t
   ·refine ⟨i,Ev.step (f:=fun _=>some (i:Int)) (fun k=>?_) (Ev.now _),by rw[h];simp⟩;simp only[paths_zzIndex.l0];rw[w64 (n:=(i:Int)+t.size) bA bA,if_pos bA,if_pos bA,if_pos bA,if_pos ?_];rw[Int.toNat_natCast,show ((i:Int)+(t.size:Int)).toNat=i+t.size by omega,hx,h,L_toList]
   ·obtain ⟨r,h3,h4⟩:=ih (i+1) bA bA;refine ⟨r,Ev.step (fun k=>?_) h3,?_⟩
    ·simp only[paths_zzIndex.l0];rw[w64 (n:=(i:Int)+t.size) bA bA,if_pos bA,if_pos bA,if_pos bA,if_neg ?_,w64 bA bA]
     ·rfl
     ·rw[Int.toNat_natCast,show ((i:Int)+(t.size:Int)).toNat=i+t.size by omega,hx,L_toList];exact h
    ·rw[h4];have:(((L s).drop i).take (L t).length==L t)=false:=by simpa using h
     rw[this,Bool.false_or]
theorem ev_contains (s t:ByteArray) (hs:s.size≤1000000) (ht:t.size≤1000000):Ev (fun k=>paths_zzContains.f k s t) (hasSub (L s) (L t)):=by
 obtain ⟨r,h1,h2⟩:=ev_index s t hs ht (s.size+1) 0 bA bA;have e:hasSub (L s) (L t)=decide (r≥0):=by unfold hasSub;rw[L_length,h2]
 rw[e];refine Ev.bind (g:=fun k=>paths_zzIndex.f k s t) (f:=fun _ r=>some (decide (r≥0))) h1 (Ev.now _)
end Go.Proofs.YtmgdbpjidkdegaaGreatDoor.Path
namespace Go.Proofs.YtmgdbpjidkdegaaGreatDoor.Path
open Go.RowKit Go.Proofs.YtmgdbpjidkdegaaGreatDoorW.PrintWords Go.Proofs.YtmgdbpjidkdegaaGreatDoor.Base
theorem countDots_le (l:List UInt8):countDots l≤l.length:=by unfold countDots;exact List.length_filter_le _ _
theorem countDots_step (l:List UInt8) (k:Nat) (h:k < l.length):countDots (l.take (k+1))=countDots (l.take k)+if l[k]=46 then 1 else 0:=by
 unfold countDots;rw[List.take_succ_eq_append_getElem h,List.filter_append,List.length_append]
 by_cases c:l[k]=46
 ·simp[c]
 ·simp[c]
set_option maxRecDepth 100000 in
set_option maxHeartbeats 1600000 in
theorem count_calls (s:ByteArray) (hs:s.size≤1000000) (w:World) :
 Calls Tryz.prog 151 #[.string s,.string ⟨#[46]⟩] w fun e w'=>e = .returned (.int .i64 (countDots (L s)))∧w'=w:=by
 have hl:=L_length s
 obtain ⟨n,hn⟩:∃ n,s.size=n:=⟨_,rfl⟩
 have HN:=bR hn;rw[hn] at hs;go_enter Tryz.func151,Tryz.ntmps151;go_wp2_with fail
 go_loopg [5,6] n (fun g c i wr=>∃ k:Nat,k≤n∧g=n - k∧i = .int .i64 k∧c = .int .i64 (countDots ((L s).take k))∧wr=w)
 case atStart=>exact ⟨0,Nat.zero_le _,rfl,rfl,rfl,rfl⟩
 case round =>
  obtain ⟨k,hk,hg,rfl,rfl,rfl⟩:=hrel;have hsz:ByteArray.size ⟨#[46]⟩=1:=rfl;have hc0:=countDots_le ((L s).take k);have hc1:((L s).take k).length≤n:=by simp;omega
  have d0:IntKind.i64.wrap ((k:Int)+1)=((k+1:Nat):Int):=by rw[IntWalk.i64_in _ bA];omega
  by_cases hlt:k < n
  ·have hkl:k < (L s).length:=by omega
   have hst:=countDots_step (L s) k hkl;have d1:decide (((k+1:Nat):Int)≤(n:Int))=true:=decide_eq_true bA;have d2:((k+1:Nat):Int)≤(n:Int):=by omega
   have d3:(k:Int)≤((k+1:Nat):Int):=by omega
   have d4:(0:Int)≤(k:Int):=by omega
   have e1:(k:Int)+1≤(n:Int):=by omega
   have e2:(k:Int)≤(k:Int)+1:=by omega
   have e3:((k:Int)+1).toNat=k+1:=by omega
   have e4:decide ((k:Int)+1≤(n:Int))=true:=decide_eq_true e1
   obtain ⟨m,hm⟩:∃ m,countDots ((L s).take k)=m:=⟨_,rfl⟩
   rw[hm] at hst hc0 ⊢;have d5:IntKind.i64.wrap ((m:Int)+1)=((m+1:Nat):Int):=by rw[IntWalk.i64_in _ bA];omega
   have hx:((s.extract k (k+1)).toList==(⟨#[46]⟩:ByteArray).toList)=decide ((L s)[k]=46):=by
    rw[L_toList,L_extract,L_toList,List.drop_eq_getElem_cons hkl];have:k+1 - k=1:=by omega
    rw[this,Bool.eq_iff_iff,beq_iff_eq,decide_eq_true_iff]
    simp[L]
   obtain ⟨b,hb⟩:∃ b,decide ((L s)[k]=46)=b:=⟨_,rfl⟩
   rw[hb] at hx;have HB:=bR hb;have HST:=bR hst;clear hst hb;rw[show (⟨#[46]⟩:ByteArray).toList=[46] by rw[L_toList];rfl] at hx;cases b
   ·have hc:¬ (L s)[k]=46:=of_decide_eq_false HB.out;have hst2:=HST.out;rw[if_neg hc] at hst2;clear hc;go_wp2_with fail
    go_roundg (n - (k+1))
    case rel=>exact ⟨k+1,by omega,rfl,by go_num,by rw[hst2];rfl,rfl⟩
    case measure=>omega
   ·have hc:(L s)[k]=46:=of_decide_eq_true HB.out;have hst2:=HST.out;rw[if_pos hc] at hst2;clear hc;go_wp2_with fail
    go_roundg (n - (k+1))
    case rel=>exact ⟨k+1,by omega,rfl,by go_num,by rw[hst2];go_num,rfl⟩
    case measure=>omega
  ·have:k=n:=by omega
   subst this;have d1:decide (((k+1:Nat):Int)≤(k:Int))=false:=decide_eq_false bA;have d2:¬ (((k+1:Nat):Int)≤(k:Int)):=by omega
   have e4:decide ((k:Int)+1≤(k:Int))=false:=decide_eq_false bA;have e:(L s).take k=L s:=List.take_of_length_le bA;rw[e];go_wp2_with fail
   go_ret;exact ⟨rfl,rfl⟩
end Go.Proofs.YtmgdbpjidkdegaaGreatDoor.Path
namespace Go.Proofs.YtmgdbpjidkdegaaGreatDoor.Path
open Go.RowKit Go.Proofs.YtmgdbpjidkdegaaGreatDoorW.PrintWords Go.Proofs.YtmgdbpjidkdegaaGreatDoor.Base Go.Proofs.YtmgdbpjidkdegaaGreatDoor.PCore
section
variable {E:Env} {comp:ByteArray} {sk:List Nat} {nd:Int} {i:Nat} {d:DoV}
theorem doStep_other (h1:d.p.s.data.toList[i]?≠some 46) (h2:d.p.s.data.toList[i]?≠some 47):doStep E comp sk nd i d=d:=by
 unfold doStep;rw[if_neg h1,if_neg h2]
theorem doStep_skip (h1:d.p.s.data.toList[i]? = some 46) (h2:isSk sk i=true):doStep E comp sk nd i d=d:=by
 unfold doStep;rw[if_pos h1,if_pos h2]
theorem doStep_dot (h1:d.p.s.data.toList[i]? = some 46) (h2:isSk sk i=false):doStep E comp sk nd i d = { d with p:=mId E d.p comp i d.ld nd false,ld:=i }:=by
 unfold doStep;rw[if_pos h1,if_neg (by rw[h2];simp)]
theorem doStep_first {q:PathV} (h1:d.p.s.data.toList[i]? = some 47) (hc:d.p.cHigh = -1) (hq:q=if 0 < d.ld then mId E d.p comp i d.ld nd true else d.p) :
 doStep E comp sk nd i d = { d with p:=if 0 < i then { q with cHigh:=((i:Int)+1),sec:=i } else { q with cHigh:=((i:Int)+1) },sc:=d.sc+1 }:=by
 unfold doStep;rw[if_neg (by rw[h1];intro h;cases h),if_pos h1];simp only[hc,if_true,← hq]
theorem doStep_again (h1:d.p.s.data.toList[i]? = some 47) (hc:d.p.cHigh≠-1) :
 doStep E comp sk nd i d = { d with p:=if 0 < i then { (if d.p.cLow = -1 then { d.p with cLow:=((i:Int)+1) } else d.p) with sec:=i } else (if d.p.cLow = -1 then { d.p with cLow:=((i:Int)+1) } else d.p),sc:=d.sc+1 }:=by
 unfold doStep;rw[if_neg (by rw[h1];intro h;cases h),if_pos h1];simp only[hc,if_false]
end
theorem mNamed_short {p:PathV} {a n:Int} (h:¬ p.cHigh≤p.nEnd) (ha:p.cHigh=a) (hn:(p.s.size:Int)=n):{ p with nLow:=a,nHigh:=n }=mNamed p:=by
 subst ha hn;unfold mNamed;rw[if_neg h]
theorem mNamed_long {p:PathV} {a:Int} (h:p.cHigh≤p.nEnd) (ha:p.cHigh=a):{ p with nLow:=a,nHigh:=p.nEnd }=mNamed p:=by
 subst ha;unfold mNamed;rw[if_pos h]
section
variable {E:Env} {p:PathV} {sc:Nat} {comp:ByteArray}
theorem mSort1_index (hk:p.known≠[]) (h:p.nLow < p.nHigh) (hi:((isCon p.comp || isArch p.comp) && E.cont (mIdStr p 0))=true) (hb:(sub p.s p.nLow p.nHigh).toList=tIndex):{ p with typ:=3,sec:=if sc=2 then 0 else p.sec }=mSort1 E sc p:=by
 unfold mSort1;rw[if_neg hk];simp only;rw[if_pos h,if_pos hi,if_pos hb]
theorem mSort1_uindex (hk:p.known≠[]) (h:p.nLow < p.nHigh) (hi:((isCon p.comp || isArch p.comp) && E.cont (mIdStr p 0))=true) (hb:(sub p.s p.nLow p.nHigh).toList=tUIndex):{ p with typ:=4 }=mSort1 E sc p:=by
 unfold mSort1;rw[if_neg hk];simp only;rw[if_pos h,if_pos hi,if_neg (by rw[hb];decide),if_pos hb]
theorem mSort1_single (hk:p.known≠[]) (h:p.nLow < p.nHigh) (hi:((isCon p.comp || isArch p.comp) && E.cont (mIdStr p 0))=true) (hb:(sub p.s p.nLow p.nHigh).toList≠tIndex) (hb2:(sub p.s p.nLow p.nHigh).toList≠tUIndex):{ p with typ:=2 }=mSort1 E sc p:=by
 unfold mSort1;rw[if_neg hk];simp only;rw[if_pos h,if_pos hi,if_neg hb,if_neg hb2]
theorem mSort1_data (hk:p.known≠[]) (h:p.nLow < p.nHigh) (hi:((isCon p.comp || isArch p.comp) && E.cont (mIdStr p 0))=false) (hb:(sub p.s p.nLow p.nHigh).toList=tContent) (he:(mIdStr p 0).toList=tGotmpl):{ p with typ:=5 }=mSort1 E sc p:=by
 unfold mSort1;rw[if_neg hk];simp only;rw[if_pos h,if_neg (by rw[hi];simp),if_pos ⟨hb,he⟩]
theorem mSort1_none (hk:p.known≠[]) (h:p.nLow < p.nHigh) (hi:((isCon p.comp || isArch p.comp) && E.cont (mIdStr p 0))=false) (hb:¬ ((sub p.s p.nLow p.nHigh).toList=tContent∧(mIdStr p 0).toList=tGotmpl)):p=mSort1 E sc p:=by
 unfold mSort1;rw[if_neg hk];simp only;rw[if_pos h,if_neg (by rw[hi];simp),if_neg hb]
theorem mSort1_same (E:Env) (sc:Nat) (p:PathV):∃ t c,mSort1 E sc p = { p with typ:=t,sec:=c }:=by
 unfold mSort1;simp only
 repeat' split
 all_goals exact ⟨_,_,rfl⟩
theorem mSort2_same (comp:ByteArray) (p:PathV):∃ t,mSort2 comp p = { p with typ:=t }:=by
 unfold mSort2
 repeat' split
 all_goals exact ⟨_,rfl⟩
theorem mSort2_no (h:(decide (p.typ < 6) && isLay comp)=false):p=mSort2 comp p:=by
 unfold mSort2;rw[if_neg];rintro ⟨h1,h2⟩;rw[h2,decide_eq_true h1] at h;cases h
theorem mSort2_base (h:(decide (p.typ < 6) && isLay comp)=true) (hb:(p.base != -1)=true):{ p with typ:=9 }=mSort2 comp p:=by
 unfold mSort2;simp only[Bool.and_eq_true,decide_eq_true_eq] at h;rw[if_pos h,if_pos (by simpa using hb)]
theorem mSort2_else (h:(decide (p.typ < 6) && isLay comp)=true) (hb:(p.base != -1)=false) {T:ByteArray} (ht:nrm p.trim p.s=T) :
 mSort2 comp p=if hasSub (L T) tShort then { p with typ:=7 } else if hasSub (L T) tMarkup then { p with typ:=6 } else if tPartials.isPrefixOf (L T) then { p with typ:=8 } else p:=by
 unfold mSort2;simp only[Bool.and_eq_true,decide_eq_true_eq] at h;rw[if_pos h,if_neg (by simpa using hb),ht];rfl
theorem mSort3_no (h:((p.typ==7) && (p.lay != -1))=false):p=mSort3 p:=by
 unfold mSort3;rw[if_neg];rintro ⟨h1,h2,_⟩;rw[h1] at h
 simp at h
 exact h2 h
theorem mSort3_if (h:((p.typ==7) && (p.lay != -1))=true) {j:Nat} {x:Int×Int} (hj:p.lay=(j:Int)) (hx:p.known[j]? = some x):mSort3 p=if x.1=p.cHigh then { p with lay:=-1 } else p:=by
 unfold mSort3;simp only[Bool.and_eq_true,beq_iff_eq,bne_iff_ne] at h;have e:p.known.getD p.lay.toNat (0,0)=x:=by rw[hj,Int.toNat_natCast,List.getD_eq_getElem?_getD,hx];rfl
 rw[e]
 by_cases c:x.1=p.cHigh
 ·rw[if_pos c,if_pos ⟨h.1,h.2,c⟩]
 ·rw[if_neg c,if_neg (fun g=>c g.2.2)]
end
def Apart (b:Nat) (vk vu vl:Value) (k:Nat):Prop:=k≠b∧some k≠vk.ownBlock∧some k≠vu.ownBlock∧some k≠vl.ownBlock
section
variable {w w' : World} {base b:Nat} {vk vu vl vk' vu' vl' v u:Value} {xs:List Int} {p:PathV} {B:Nat}
theorem skip_moved (h:(Kd.int .i64).R 3 w base (Apart b vk vu vl) v xs) (m:Moved w w' b vk vu vl vk' vu' vl'):(Kd.int .i64).R 3 w' base (Apart b vk' vu' vl') v xs:=by
 have h1:=Kd.R_bound h;refine Kd.R_mono (Kd.R_move h1 (fun k hk=>m.block k hk.2.2.1 hk.1.1 hk.1.2.1 hk.1.2.2.1 hk.1.2.2.2)) (fun k hk=>?_);obtain ⟨_,_,f1,f2,f3⟩:=m.far hk.2.2.1 hk.1.1 hk.1.2.1 hk.1.2.2.1 hk.1.2.2.2;exact ⟨hk.1.1,f1,f2,f3⟩
theorem skip_new (H:PathAt w B b p vk vu vl u) (h:(Kd.int .i64).R 3 w' w.heap.size (fun _=>True) v xs):(Kd.int .i64).R 3 w' w.heap.size (Apart b vk vu vl) v xs :=
 Kd.R_mono (Kd.R_bound h) (fun _ hk=>H.new_ne hk.2.1)
theorem skip_below (h:(Kd.int .i64).R 3 w base (Apart b vk vu vl) v xs) (hb:Below w.heap.size w w'):(Kd.int .i64).R 3 w' base (Apart b vk vu vl) v xs:=Kd.R_below h hb
end
theorem dotsF_length (l:List UInt8) (a n:Nat):(dotsF l a n).length≤n:=by unfold dotsF;refine Nat.le_trans (List.length_filter_le _ _) ?_;simp
theorem skF_length (l:List UInt8):∀ (g i:Nat),(skF l g i).length≤l.length - i
 | 0,i=>by simp[skF]
 | g+1,i=>by
  have h1:=skF_length l g (i+1);unfold skF;split
  ·simp
  ·split
   ·split
    ·rename_i e he
     obtain ⟨q1,q2⟩:=wEndF_lt _ _ _ _ he;have h2:=skF_length l g (e+1);have h3:=dotsF_length l (i+2) (e - (i+2));rw[List.length_append];omega
    ·omega
   ·omega
theorem mem_mText (l:List UInt8) (c:UInt8) (h:c∈mText l):c=47∨c∈l:=by
 have h1:∀ c,c∈mLead l→c=47∨c∈l:=by
  intro c h;unfold mLead at h;split at h
  ·exact .inl (by simpa using h)
  ·split at h
   ·exact .inr h
   ·rcases List.mem_cons.1 h with h | h
    ·exact .inl h
    ·exact .inr h
 unfold mText at h;simp only at h;split at h
 ·exact h1 c (List.dropLast_subset _ h)
 ·exact h1 c h
theorem asc_mText (s:ByteArray) (h:asc s):asc ⟨(mText (L s)).toArray⟩:=by
 intro j c hc
 have hm:c∈mText (L s):=by
  have:(⟨(mText (L s)).toArray⟩:ByteArray).data.toList=mText (L s):=by simp
  rw[this] at hc;exact List.mem_of_getElem? hc
 rcases mem_mText _ _ hm with h1 | h1
 ·rw[h1];decide
 ·obtain ⟨k,hk⟩:=List.mem_iff_getElem?.1 h1;exact h k c hk
end Go.Proofs.YtmgdbpjidkdegaaGreatDoor.Path
namespace Go.Proofs.YtmgdbpjidkdegaaGreatDoor.Path
open Go.RowKit Go.Proofs.YtmgdbpjidkdegaaGreatDoorW.PrintWords Go.Proofs.YtmgdbpjidkdegaaGreatDoor.Base
def pathZero:PathV where
 s:=⟨#[]⟩
 cLow:=-1
 cHigh:=-1
 sec:=-1
 comp:=⟨#[]⟩
 typ:=0
 known:=[]
 unknown:=[]
 lang:=-1
 fmt:=-1
 kind:=-1
 lay:=-1
 base:=-1
 cust:=-1
 plangs:=[]
 pfmt:=-1
 pkind:=-1
 play:=-1
 nLow:=0
 nHigh:=0
 nEnd:=-1
 dis:=false
 trim:=false
theorem Row.eq {w:World} {b:Nat} {cs cs' : List Value} (R:Row w b cs) (h:cs=cs'):Row w b cs':=h▸R
section
variable {w:World} {b:Nat} {p:PathV} {vu u:Value}
set_option maxRecDepth 100000 in
set_option maxHeartbeats 1600000 in
theorem reset_calls {A A2:Option Addr} {n c n2 c2:Nat} (R:Row w b (cells p (.slice A n c) vu (.slice A2 n2 c2) u)) :
 Calls Tryz.prog 156 #[.pointer (some ⟨b,0,none⟩)] w fun e w'=>e = .returned (.tuple #[])∧Row w' b (cells pathZero (.slice A 0 c) vu (.slice A2 0 c2) (.pointer none))∧Below b w w':=by
 have r0:=R.at 0 _ rfl;have f0:=R.free 0 bF;have r1:=R.at 1 _ rfl;have f1:=R.free 1 bF;have r2:=R.at 2 _ rfl;have f2:=R.free 2 bF;have r3:=R.at 3 _ rfl;have f3:=R.free 3 bF;have r4:=R.at 4 _ rfl;have f4:=R.free 4 bF;have r5:=R.at 5 _ rfl;have f5:=R.free 5 bF;have r6:=R.at 6 _ rfl;have f6:=R.free 6 bF;have r8:=R.at 8 _ rfl;have f8:=R.free 8 bF;have r9:=R.at 9 _ rfl;have f9:=R.free 9 bF;have r10:=R.at 10 _ rfl;have f10:=R.free 10 bF;have r11:=R.at 11 _ rfl;have f11:=R.free 11 bF;have r12:=R.at 12 _ rfl;have f12:=R.free 12 bF;have r13:=R.at 13 _ rfl;have f13:=R.free 13 bF;have r14:=R.at 14 _ rfl;have f14:=R.free 14 bF
 have r15:=R.at 15 _ rfl;have f15:=R.free 15 bF;have r16:=R.at 16 _ rfl;have f16:=R.free 16 bF;have r17:=R.at 17 _ rfl;have f17:=R.free 17 bF;have r18:=R.at 18 _ rfl;have f18:=R.free 18 bF;have r19:=R.at 19 _ rfl;have f19:=R.free 19 bF;have r20:=R.at 20 _ rfl;have f20:=R.free 20 bF;have r21:=R.at 21 _ rfl;have f21:=R.free 21 bF;have r22:=R.at 22 _ rfl;have f22:=R.free 22 bF;have r23:=R.at 23 _ rfl;have f23:=R.free 23 bF;have r24:=R.at 24 _ rfl;have f24:=R.free 24 bF;have r25:=R.at 25 _ rfl;have f25:=R.free 25 bF;have HR:=bR R;clear R;go_enter Tryz.func156,Tryz.ntmps156;go_wp2_with fail
 refine ⟨rfl,.tuple #[],by simp[results,Tryz.results156],rfl,Row.eq (((((((((((((((((((((((((HR.out.set 0 (.string ⟨#[]⟩) bF).set 1 (.int .i64 (-1)) bF).set 2 (.int .i64 (-1)) bF).set 3 (.int .i64 (-1)) bF).set 4 (.string ⟨#[]⟩) bF).set 5 (.int .i64 0) bF).set 6 (.slice A 0 c) bF).set 8 (.int .i64 (-1)) bF).set 9 (.int .i64 (-1)) bF).set 10 (.int .i64 (-1)) bF).set 11 (.int .i64 (-1)) bF).set 12 (.int .i64 (-1)) bF).set 13 (.int .i64 (-1)) bF).set 14 (.slice A2 0 c2) bF).set 15 (.slice none 0 0) bF).set 16 (.slice none 0 0) bF).set 17 (.int .i64 (-1)) bF).set 18 (.int .i64 (-1)) bF).set 19 (.int .i64 (-1)) bF).set 20 (.int .i64 0) bF).set 21 (.int .i64 0) bF).set 22 (.int .i64 (-1)) bF).set 23 (.bool false) bF).set 24 (.bool false) bF).set 25 (.pointer none) bF) bB,?_⟩
 exact ((((((((((((((((((((((((((Below.refl b w).setCell (p:=⟨b,0,none⟩) (Nat.le_refl _) _).setCell (p:=⟨b,1,none⟩) (Nat.le_refl _) _).setCell (p:=⟨b,2,none⟩) (Nat.le_refl _) _).setCell (p:=⟨b,3,none⟩) (Nat.le_refl _) _).setCell (p:=⟨b,4,none⟩) (Nat.le_refl _) _).setCell (p:=⟨b,5,none⟩) (Nat.le_refl _) _).setCell (p:=⟨b,6,none⟩) (Nat.le_refl _) _).setCell (p:=⟨b,8,none⟩) (Nat.le_refl _) _).setCell (p:=⟨b,9,none⟩) (Nat.le_refl _) _).setCell (p:=⟨b,10,none⟩) (Nat.le_refl _) _).setCell (p:=⟨b,11,none⟩) (Nat.le_refl _) _).setCell (p:=⟨b,12,none⟩) (Nat.le_refl _) _).setCell (p:=⟨b,13,none⟩) (Nat.le_refl _) _).setCell (p:=⟨b,14,none⟩) (Nat.le_refl _) _).setCell (p:=⟨b,15,none⟩) (Nat.le_refl _) _).setCell (p:=⟨b,16,none⟩) (Nat.le_refl _) _).setCell (p:=⟨b,17,none⟩) (Nat.le_refl _) _).setCell (p:=⟨b,18,none⟩) (Nat.le_refl _) _).setCell (p:=⟨b,19,none⟩) (Nat.le_refl _) _).setCell (p:=⟨b,20,none⟩) (Nat.le_refl _) _).setCell (p:=⟨b,21,none⟩) (Nat.le_refl _) _).setCell (p:=⟨b,22,none⟩) (Nat.le_refl _) _).setCell (p:=⟨b,23,none⟩) (Nat.le_refl _) _).setCell (p:=⟨b,24,none⟩) (Nat.le_refl _) _).setCell (p:=⟨b,25,none⟩) (Nat.le_refl _) _)
theorem PathAt.fresh {w:World} {b:Nat} {p:PathV} (R:Row w b (cells p (.slice none 0 0) (.slice none 0 0) (.slice none 0 0) u)) (h1:p.known=[]) (h2:p.unknown=[]) (h3:p.plangs=[]):PathAt w b b p (.slice none 0 0) (.slice none 0 0) (.slice none 0 0) u:=by
 refine ⟨Nat.le_refl _,R,?_,?_,?_,(fun h=>by cases h),(fun h=>by cases h),(fun h=>by cases h),.inl rfl⟩
 ·rw[h1];exact ⟨rfl,.inl ⟨rfl,rfl⟩⟩
 ·rw[h2];exact ⟨rfl,.inl ⟨rfl,rfl⟩⟩
 ·rw[h3];exact ⟨rfl,.inl ⟨rfl,rfl⟩⟩
def zeroCells:List Value:=cells { pathZero with cLow:=0,cHigh:=0,sec:=0,lang:=0,fmt:=0,kind:=0,lay:=0,base:=0,cust:=0,pfmt:=0,pkind:=0,play:=0,nEnd:=0 } (.slice none 0 0) (.slice none 0 0) (.slice none 0 0) (.pointer none)
set_option maxRecDepth 100000 in
set_option maxHeartbeats 1600000 in
theorem newPath_calls (w:World) (v:Value) (comp:ByteArray):Calls Tryz.prog 124 #[v,.string comp] w fun e w'=>e = .returned (.pointer (some ⟨w.heap.size,0,none⟩))∧PathAt w' w.heap.size w.heap.size { pathZero with comp:=comp } (.slice none 0 0) (.slice none 0 0) (.slice none 0 0) (.pointer none)∧Below w.heap.size w w':=by
 have hR:=Row.new w zeroCells 92;have hB:Below w.heap.size w (w.alloc (.cells zeroCells.toArray 92)):=(Below.refl _ _).alloc (Nat.le_refl _) _;have hs:w.heap.size < (w.alloc (.cells zeroCells.toArray 92)).heap.size:=by simp
 simp only[zeroCells,cells,pathZero] at hR hB hs;go_enter Tryz.func124,Tryz.ntmps124;go_wp2_with fail
 refine (reset_calls (p:={ pathZero with cLow:=0,cHigh:=0,sec:=0,lang:=0,fmt:=0,kind:=0,lay:=0,base:=0,cust:=0,pfmt:=0,pkind:=0,play:=0,nEnd:=0 }) (A:=none) (A2:=none) (n:=0) (c:=0) (n2:=0) (c2:=0) hR).mono ?_;rintro e w' ⟨rfl,hr,hb⟩;have HB:=bR (hB.trans hb);have h4:=hr.at 4 _ rfl;have f4:=hr.free 4 bF;have HR:=bR hr;clear hR hB hs hr hb;go_wp2_with fail
 go_ret;refine ⟨rfl,PathAt.fresh (Row.eq (HR.out.set 4 (.string comp) bF) bB) rfl rfl rfl,HB.out.setCell (Nat.le_refl _) _⟩
end
end Go.Proofs.YtmgdbpjidkdegaaGreatDoor.Path
