/- Texts that the law leans on: PCorex6, PCorex7, PCorex8. Condition: as told at each. -/
import Derived.Test.YtcdgldnphhidlaaGreatDoorVa
import Derived.Test.YtcdgldnphhidlaaGreatDoorV11
set_option linter.unusedVariables false
set_option linter.unusedSimpArgs false
set_option maxRecDepth 100000
set_option maxHeartbeats 16000000
namespace Go.Proofs.YtcdgldnphhidlaaGreatDoor.PCore
open Go.RowKit Go.ZW.PrintWords Go.ZW.PrintLast Go.ZW.PrintMore
attribute [local go_sem] kF kH lE lF jR jS kG kI   -- for this text's walks alone
mutual
def eC.l0:Nat→ByteArray→List Int→Int→Option (List Int)
 | 0,_,_,_=>none
 | k+1,x0,x4,x5=>if x5 < (x0.size:Int) then (if (wrap64 (x5+2)) < (x0.size:Int) then (if 0≤x5 then (if (bt x0 x5)=46 then (if 0≤(wrap64 (x5+1)) then (if (wrap64 (x5+1)) < (x0.size:Int) then (eC.j1 k x0 x4 x5 ((bt x0 (wrap64 (x5+1)))==95)) else (none)) else (none)) else (eC.j1 k x0 x4 x5 false)) else (none)) else (eC.j1 k x0 x4 x5 false)) else (some x4)
def eC.j1:Nat→ByteArray→List Int→Int→Bool→Option (List Int)
 | 0,_,_,_,_=>none
 | k+1,x0,x4,x5,x35=>if x35=true then (eC.l1 k x0 x4 x5 (-1) (wrap64 (x5+2))) else (eC.l0 k x0 x4 (wrap64 (x5+1)))
def eC.j3:Nat→ByteArray→List Int→Int→Int→Option (List Int)
 | 0,_,_,_,_=>none
 | k+1,x0,x4,x5,x6=>if x6=(-1) then (eC.l0 k x0 x4 (wrap64 (x5+1))) else (eC.l2 k x0 x4 x6 (wrap64 (x5+2)))
def eC.l2:Nat→ByteArray→List Int→Int→Int→Option (List Int)
 | 0,_,_,_,_=>none
 | k+1,x0,x4,x6,x8=>if x8 < x6 then (if 0≤x8 then (if x8 < (x0.size:Int) then (if (bt x0 x8)=46 then (if x4.length < 17592186044416 then (eC.l2 k x0 (x4++[x8]) x6 (wrap64 (x8+1))) else (none)) else (eC.l2 k x0 x4 x6 (wrap64 (x8+1)))) else (none)) else (none)) else (eC.l0 k x0 x4 (wrap64 (x6+1)))
def eC.l1:Nat→ByteArray→List Int→Int→Int→Int→Option (List Int)
 | 0,_,_,_,_,_=>none
 | k+1,x0,x4,x5,x6,x7=>if x7 < (x0.size:Int) then (if 0≤x7 then (if (bt x0 x7)=47 then (eC.j3 k x0 x4 x5 x6) else (if (bt x0 x7)=95 then (if (wrap64 (x7+1))≥(x0.size:Int) then (eC.j3 k x0 x4 x5 x7) else (if 0≤(wrap64 (x7+1)) then (if (wrap64 (x7+1)) < (x0.size:Int) then (if (bt x0 (wrap64 (x7+1)))=46 then (eC.j3 k x0 x4 x5 x7) else (eC.l1 k x0 x4 x5 x6 (wrap64 (x7+1)))) else (none)) else (none))) else (eC.l1 k x0 x4 x5 x6 (wrap64 (x7+1))))) else (none)) else (eC.j3 k x0 x4 x5 x6)
end
def eC.f (k:Nat) (a0:ByteArray):Option (List Int):=(strings_LastIndex.f a0 (⟨#[47]⟩:ByteArray)).bind fun t170=>(if t170=(-1) then (some ([]:List Int)) else (eC.l0 k a0 ([]:List Int) t170))
theorem eC.mono_l:∀ k,(∀ y0 y1 y2,LeO (eC.l0 k y0 y1 y2) (eC.l0 (k+1) y0 y1 y2))∧(∀ y0 y1 y2 y3,LeO (eC.j1 k y0 y1 y2 y3) (eC.j1 (k+1) y0 y1 y2 y3))∧(∀ y0 y1 y2 y3,LeO (eC.j3 k y0 y1 y2 y3) (eC.j3 (k+1) y0 y1 y2 y3))∧(∀ y0 y1 y2 y3,LeO (eC.l2 k y0 y1 y2 y3) (eC.l2 (k+1) y0 y1 y2 y3))∧(∀ y0 y1 y2 y3 y4,LeO (eC.l1 k y0 y1 y2 y3 y4) (eC.l1 (k+1) y0 y1 y2 y3 y4))
 | 0=>⟨fun _ _ _ r h=>by simp[eC.l0] at h,fun _ _ _ _ r h=>by simp[eC.j1] at h,fun _ _ _ _ r h=>by simp[eC.j3] at h,fun _ _ _ _ r h=>by simp[eC.l2] at h,fun _ _ _ _ _ r h=>by simp[eC.l1] at h⟩
 | k+1=>by
  obtain ⟨ih0,ih1,ih2,ih3,ih4⟩:=eC.mono_l k;refine ⟨?_,?_,?_,?_,?_⟩
  ·intro y0 y1 y2;unfold eC.l0
   exact dI
  ·intro y0 y1 y2 y3;unfold eC.j1
   exact dI
  ·intro y0 y1 y2 y3;unfold eC.j3
   exact dI
  ·intro y0 y1 y2 y3;unfold eC.l2
   exact dI
  intro y0 y1 y2 y3 y4;unfold eC.l1
  exact dI
theorem eC.mono:∀ a0 k,LeO (eC.f k a0) (eC.f (k+1) a0):=by
 intro a0 k;obtain ⟨ih0,ih1,ih2,ih3,ih4⟩:=eC.mono_l k;unfold eC.f
 exact dI
theorem eC.calls (k:Nat) (a0:ByteArray) (r:List Int) (w:World) (h:eC.f k a0=some r) :
 Calls Tryz.prog 159 #[.string a0] w fun e w'=>∃ v0_:Value,e = .returned (v0_)∧Kd.R (Kd.int .i64) 3 w' w.heap.size (fun _=>True) v0_ r∧Below w.heap.size w w':=by
 have HB:=cH (Below.refl w.heap.size w);unfold eC.f at h;have H:=h;clear h;replace H:=Option.bind_eq_some_iff.mp H;obtain ⟨t170,A20,H⟩:=H;have A2:=cH A20;clear A20
 by_cases c3:t170=(-1)
 ·rw[if_pos c3] at H;have c3b0:=beq_iff_eq.mpr c3;have c3b1:=bne_eq_false_iff_eq.mpr c3;clear c3;obtain rfl:=Option.some.inj H;go_enter Tryz.func159,Tryz.ntmps159
  go_wp2_with (first | ((with_reducible refine fE (f:=160) rfl ?_);refine gP (some 10) rfl rfl Tryz.func160 bB rfl #[.string a0,.string (⟨#[47]⟩:ByteArray)] rfl bD ?_;(with_reducible refine (strings_LastIndex.calls a0 (⟨#[47]⟩:ByteArray) t170 _ A2.out).mono ?_);rintro e w' ⟨rfl,⟨nd,rfl⟩⟩;refine ⟨_,rfl,?_⟩))
  go_ret;exact ⟨_,aC,by first | exact Kd.R_nil _ _ _ _ _ | exact Kd.N_nil _ _ _ _ _ | exact Kd.V_nil _ _ _ _ _ | exact Kd.Q_nil _ _ _ _ _ | exact Kd.S_nil _ _ _ _ _,aA⟩
 rw[if_neg c3] at H;have c3b0:=beq_eq_false_iff_ne.mpr c3;have c3b1:=bne_iff_ne.mpr c3;have H':=cH H;clear H;go_enter Tryz.func159,Tryz.ntmps159
 go_wp2_with (first | ((with_reducible refine fE (f:=160) rfl ?_);refine gP (some 10) rfl rfl Tryz.func160 bB rfl #[.string a0,.string (⟨#[47]⟩:ByteArray)] rfl bD ?_;(with_reducible refine (strings_LastIndex.calls a0 (⟨#[47]⟩:ByteArray) t170 _ A2.out).mono ?_);rintro e w' ⟨rfl,⟨nd,rfl⟩⟩;refine ⟨_,rfl,?_⟩))
 go_loopg [4,5] k (fun kq v4 v5 w'=>∃ (x4_1:List Int) (x5_1:Int),v5 = .int .i64 x5_1∧Aside0 (eC.l0 kq a0 x4_1 x5_1=some r)∧Aside0 (kq≤k)∧Aside0 (Kd.R (Kd.int .i64) 3 w' w.heap.size (fun _=>True) v4 x4_1)∧Aside0 (Below w.heap.size w w'))
 case atStart=>exact ⟨(([]:List Int)),(t170),bE,H',⟨Nat.le_refl _⟩,⟨by first | exact Kd.R_nil _ _ _ _ _ | exact Kd.N_nil _ _ _ _ _ | exact Kd.V_nil _ _ _ _ _ | exact Kd.Q_nil _ _ _ _ _ | exact Kd.S_nil _ _ _ _ _⟩,⟨aA⟩⟩
 case round =>
  clear H'
  (try clear c3);(try clear c3b0);(try clear c3b1)
  obtain ⟨x4_1,x5_1,rfl,HA,HK1,HO_4,HB⟩:=hrel
  cases gk with
  | zero=>exact absurd HA.out (by simp[eC.l0])
  | succ k1 =>
   have H:=HA.out;clear HA;simp only[eC.l0] at H
   by_cases c4:x5_1 < (a0.size:Int)
   ·rw[if_pos c4] at H;have c4b0:=decide_eq_true c4;clear c4;have HC5:=cH H;clear H
    go_upto_region 7 with (fail)
    go_cut [35] (fun v35 wc=>∃ (kq:Nat) (x35_4:Bool),v35 = .bool x35_4∧Aside0 (eC.j1 kq a0 x4_1 x5_1 x35_4=some r)∧Aside0 (kq≤k1)∧Aside0 (Kd.R (Kd.int .i64) 3 wc w.heap.size (fun _=>True) u4 x4_1)∧Aside0 (Below w.heap.size w wc))
    case first =>
     have H:=HC5.out;clear HC5
     by_cases c6:(wrap64 (x5_1+2)) < (a0.size:Int)
     ·rw[if_pos c6] at H;have c6b0:=decide_eq_true c6;clear c6
      (first | rw[c6b0] | (simp only[jZ,mJ];rw[c6b0]) | skip)
      by_cases c7:0≤x5_1
      ·rw[if_pos c7] at H;have c7b0:=decide_eq_true c7;clear c7
       by_cases c9:(bt a0 x5_1)=46
       ·rw[if_pos c9] at H;have c9b0:=beq_iff_eq.mpr c9;have c9b1:=bne_eq_false_iff_eq.mpr c9;clear c9
        obtain ⟨ji10,hji10⟩:∃ j_:Int,(wrap64 (x5_1+1))=j_:=⟨_,rfl⟩
        replace H:(if 0≤(ji10) then (if (ji10) < (a0.size:Int) then (eC.j1 k1 a0 x4_1 x5_1 ((bt a0 (ji10))==95)) else (none)) else (none))=some r:=by first | (rw[hji10] at H;exact H) | (simp only[hji10] at H ⊢;exact H)
        have hji10w:(IntKind.i64.wrap (x5_1+1))=ji10:=(jZ _).trans hji10
        by_cases c11:0≤(ji10)
        ·rw[if_pos c11] at H;have c11b0:=decide_eq_true c11;clear c11
         by_cases c12:(ji10) < (a0.size:Int)
         ·rw[if_pos c12] at H;have c12b0:=decide_eq_true c12;clear c12;have H':=cH H;clear H;have p8:0≤(x5_1:Int):=cG;have q8:x5_1 < (a0.size:Int):=cG;have hx8:=eX a0 x5_1;replace p8:=eq_true p8;replace q8:=eq_true q8;have p13:0≤((ji10):Int):=cG;have q13:(ji10) < (a0.size:Int):=cG;have hx13:=eX a0 (ji10);replace p13:=eq_true p13;replace q13:=eq_true q13;go_wp2
          go_meet
          case rel=>exact ⟨_,(((bt a0 (ji10))==95)),(by first | rfl | (simp;done) | (simp only[← hji10] <;> (first | rfl | simp)) | (simp[*];done)),H',⟨dW⟩,⟨aE⟩,⟨aA⟩⟩
         rw[if_neg c12] at H;exact absurd H bJ
        rw[if_neg c11] at H;exact absurd H bJ
       rw[if_neg c9] at H;have c9b0:=beq_eq_false_iff_ne.mpr c9;have c9b1:=bne_iff_ne.mpr c9;have H':=cH H;clear H;have p8:0≤(x5_1:Int):=cG;have q8:x5_1 < (a0.size:Int):=cG;have hx8:=eX a0 x5_1;replace p8:=eq_true p8;replace q8:=eq_true q8;go_wp2
       go_meet
       case rel=>exact ⟨_,(false),bE,H',⟨dW⟩,⟨aE⟩,⟨aA⟩⟩
      rw[if_neg c7] at H;exact absurd H bJ
     rw[if_neg c6] at H;have c6b0:=decide_eq_false c6;clear c6
     (first | rw[c6b0] | (simp only[jZ,mJ];rw[c6b0]) | skip)
     have H':=cH H;clear H;go_wp2
     go_meet
     case rel=>exact ⟨_,(false),bE,H',⟨dW⟩,⟨aE⟩,⟨aA⟩⟩
    clear HC5
    (try clear c3);(try clear c3b0);(try clear c3b1);(try clear c4);(try clear c4b0)
    obtain ⟨kq,x35_4,rfl,HA,HJ4,HO_4,HB⟩:=hcut
    cases kq with
    | zero=>exact absurd HA.out (by simp[eC.j1])
    | succ kj4 =>
     have H:=HA.out;clear HA;simp only[eC.j1] at H
     by_cases c14:x35_4=true
     ·subst c14;rw[if_pos rfl] at H;have HC15:=cH H;clear H
      go_upto_block 2 with (fail)
      go_cut [6] (fun v6 wc=>∃ (kq:Nat) (x6_14:Int),v6 = .int .i64 x6_14∧Aside0 (eC.j3 kq a0 x4_1 x5_1 x6_14=some r)∧Aside0 (kq≤kj4)∧Aside0 (Kd.R (Kd.int .i64) 3 wc w.heap.size (fun _=>True) u4 x4_1)∧Aside0 (Below w.heap.size w wc))
      case first =>
       have H:=HC15.out;clear HC15;have H':=cH H;clear H;go_wp2
       go_loopg [6,7] kj4 (fun kq v6 v7 w'=>∃ (x6_3:Int) (x7_3:Int),v6 = .int .i64 x6_3∧v7 = .int .i64 x7_3∧Aside0 (eC.l1 kq a0 x4_1 x5_1 x6_3 x7_3=some r)∧Aside0 (kq≤kj4)∧Aside0 (Kd.R (Kd.int .i64) 3 w' w.heap.size (fun _=>True) u4 x4_1)∧Aside0 (Below w.heap.size w w'))
       case atStart=>exact ⟨((-1)),(wrap64 (x5_1+2)),bE,bE,H',⟨Nat.le_refl _⟩,⟨aE⟩,⟨aA⟩⟩
       case round =>
        clear H'
        (try clear c3);(try clear c3b0);(try clear c3b1);(try clear c4);(try clear c4b0);(try clear c14)
        obtain ⟨x6_3,x7_3,rfl,rfl,HA,HK3,HO_4,HB⟩:=hrel
        cases gk with
        | zero=>exact absurd HA.out (by simp[eC.l1])
        | succ k3 =>
         have H:=HA.out;clear HA;simp only[eC.l1] at H
         by_cases c16:x7_3 < (a0.size:Int)
         ·rw[if_pos c16] at H;have c16b0:=decide_eq_true c16;clear c16
          (first | rw[c16b0] | (simp only[jZ,mJ];rw[c16b0]) | skip)
          by_cases c17:0≤x7_3
          ·rw[if_pos c17] at H;have c17b0:=decide_eq_true c17;clear c17
           by_cases c19:(bt a0 x7_3)=47
           ·rw[if_pos c19] at H;have c19b0:=beq_iff_eq.mpr c19;have c19b1:=bne_eq_false_iff_eq.mpr c19;clear c19;have H':=cH H;clear H;have p18:0≤(x7_3:Int):=cG;have q18:x7_3 < (a0.size:Int):=cG;have hx18:=eX a0 x7_3;replace p18:=eq_true p18;replace q18:=eq_true q18;go_wp2
            go_meet
            case rel=>exact ⟨_,(x6_3),bE,H',⟨dR⟩,⟨aE⟩,⟨aA⟩⟩
           rw[if_neg c19] at H;have c19b0:=beq_eq_false_iff_ne.mpr c19;have c19b1:=bne_iff_ne.mpr c19
           by_cases c21:(bt a0 x7_3)=95
           ·rw[if_pos c21] at H;have c21b0:=beq_iff_eq.mpr c21;have c21b1:=bne_eq_false_iff_eq.mpr c21;clear c21
            by_cases c22:(wrap64 (x7_3+1))≥(a0.size:Int)
            ·rw[if_pos c22] at H;have c22b0:=decide_eq_true c22;clear c22;have H':=cH H;clear H;have p18:0≤(x7_3:Int):=cG;have q18:x7_3 < (a0.size:Int):=cG;have hx18:=eX a0 x7_3;replace p18:=eq_true p18;replace q18:=eq_true q18;have p20:0≤(x7_3:Int):=cG;have q20:x7_3 < (a0.size:Int):=cG;have hx20:=eX a0 x7_3;replace p20:=eq_true p20;replace q20:=eq_true q20;go_wp2
             go_meet
             case rel=>exact ⟨_,(x7_3),bE,H',⟨dR⟩,⟨aE⟩,⟨aA⟩⟩
            rw[if_neg c22] at H;have c22b0:=decide_eq_false c22;clear c22
            obtain ⟨ji23,hji23⟩:∃ j_:Int,(wrap64 (x7_3+1))=j_:=⟨_,rfl⟩
            replace H:(if 0≤(ji23) then (if (ji23) < (a0.size:Int) then (if (bt a0 (ji23))=46 then (eC.j3 k3 a0 x4_1 x5_1 x7_3) else (eC.l1 k3 a0 x4_1 x5_1 x6_3 ji23)) else (none)) else (none))=some r:=by first | (rw[hji23] at H;exact H) | (simp only[hji23] at H ⊢;exact H)
            (try rw[hji23] at c22b0)
            have hji23w:(IntKind.i64.wrap (x7_3+1))=ji23:=(jZ _).trans hji23
            by_cases c24:0≤(ji23)
            ·rw[if_pos c24] at H;have c24b0:=decide_eq_true c24;clear c24
             by_cases c25:(ji23) < (a0.size:Int)
             ·rw[if_pos c25] at H;have c25b0:=decide_eq_true c25;clear c25
              by_cases c27:(bt a0 (ji23))=46
              ·rw[if_pos c27] at H;have c27b0:=beq_iff_eq.mpr c27;have c27b1:=bne_eq_false_iff_eq.mpr c27;clear c27;have H':=cH H;clear H;have p18:0≤(x7_3:Int):=cG;have q18:x7_3 < (a0.size:Int):=cG;have hx18:=eX a0 x7_3;replace p18:=eq_true p18;replace q18:=eq_true q18;have p20:0≤(x7_3:Int):=cG;have q20:x7_3 < (a0.size:Int):=cG;have hx20:=eX a0 x7_3;replace p20:=eq_true p20;replace q20:=eq_true q20;have p26:0≤((ji23):Int):=cG
               have q26:(ji23) < (a0.size:Int):=cG;have hx26:=eX a0 (ji23);replace p26:=eq_true p26;replace q26:=eq_true q26;go_wp2
               go_meet
               case rel=>exact ⟨_,(x7_3),bE,H',⟨dR⟩,⟨aE⟩,⟨aA⟩⟩
              rw[if_neg c27] at H;have c27b0:=beq_eq_false_iff_ne.mpr c27;have c27b1:=bne_iff_ne.mpr c27;have H':=cH H;clear H;have p18:0≤(x7_3:Int):=cG;have q18:x7_3 < (a0.size:Int):=cG;have hx18:=eX a0 x7_3;replace p18:=eq_true p18;replace q18:=eq_true q18;have p20:0≤(x7_3:Int):=cG;have q20:x7_3 < (a0.size:Int):=cG;have hx20:=eX a0 x7_3;replace p20:=eq_true p20;replace q20:=eq_true q20;have p26:0≤((ji23):Int):=cG
              have q26:(ji23) < (a0.size:Int):=cG;have hx26:=eX a0 (ji23);replace p26:=eq_true p26;replace q26:=eq_true q26;go_wp2
              go_roundg k3
              case measure=>have:=HK1.out;have:=HJ4.out;have:=HK3.out;omega
              case rel=>exact ⟨(x6_3),(ji23),bE,(by first | rfl | (simp;done) | (simp only[← hji23] <;> (first | rfl | simp)) | (simp[*];done)),H',⟨by have:=HK1.out;have:=HJ4.out;have:=HK3.out;omega⟩,⟨aE⟩,⟨aA⟩⟩
             rw[if_neg c25] at H;exact absurd H bJ
            rw[if_neg c24] at H;exact absurd H bJ
           rw[if_neg c21] at H;have c21b0:=beq_eq_false_iff_ne.mpr c21;have c21b1:=bne_iff_ne.mpr c21;have H':=cH H;clear H;have p18:0≤(x7_3:Int):=cG;have q18:x7_3 < (a0.size:Int):=cG;have hx18:=eX a0 x7_3;replace p18:=eq_true p18;replace q18:=eq_true q18;have p20:0≤(x7_3:Int):=cG;have q20:x7_3 < (a0.size:Int):=cG;have hx20:=eX a0 x7_3;replace p20:=eq_true p20;replace q20:=eq_true q20;go_wp2
           go_roundg k3
           case measure=>have:=HK1.out;have:=HJ4.out;have:=HK3.out;omega
           case rel=>exact ⟨(x6_3),(wrap64 (x7_3+1)),bE,bE,H',⟨by have:=HK1.out;have:=HJ4.out;have:=HK3.out;omega⟩,⟨aE⟩,⟨aA⟩⟩
          rw[if_neg c17] at H;exact absurd H bJ
         rw[if_neg c16] at H;have c16b0:=decide_eq_false c16;clear c16
         (first | rw[c16b0] | (simp only[jZ,mJ];rw[c16b0]) | skip)
         have H':=cH H;clear H;go_wp2
         go_meet
         case rel=>exact ⟨_,(x6_3),bE,H',⟨dR⟩,⟨aE⟩,⟨aA⟩⟩
      clear HC15
      (try clear c3);(try clear c3b0);(try clear c3b1);(try clear c4);(try clear c4b0);(try clear c14)
      obtain ⟨kq,x6_14,rfl,HA,HJ14,HO_4,HB⟩:=hcut
      cases kq with
      | zero=>exact absurd HA.out (by simp[eC.j3])
      | succ kj14 =>
       have H:=HA.out;clear HA;simp only[eC.j3] at H
       by_cases c28:x6_14=(-1)
       ·rw[if_pos c28] at H;have c28b0:=beq_iff_eq.mpr c28;have c28b1:=bne_eq_false_iff_eq.mpr c28;clear c28;have H':=cH H;clear H;go_wp2
        go_roundg kj14
        case measure=>have:=HK1.out;have:=HJ4.out;have:=HJ14.out;omega
        case rel=>exact ⟨(x4_1),(wrap64 (x5_1+1)),bE,H',⟨by have:=HK1.out;have:=HJ4.out;have:=HJ14.out;omega⟩,⟨aE⟩,⟨aA⟩⟩
       rw[if_neg c28] at H;have c28b0:=beq_eq_false_iff_ne.mpr c28;have c28b1:=bne_iff_ne.mpr c28;have H':=cH H;clear H;go_wp2
       go_loopg [4,8] kj14 (fun kq v4 v8 w'=>∃ (x4_4:List Int) (x8_4:Int),v8 = .int .i64 x8_4∧Aside0 (eC.l2 kq a0 x4_4 x6_14 x8_4=some r)∧Aside0 (kq≤kj14)∧Aside0 (Kd.R (Kd.int .i64) 3 w' w.heap.size (fun _=>True) v4 x4_4)∧Aside0 (Below w.heap.size w w'))
       case atStart=>exact ⟨(x4_1),(wrap64 (x5_1+2)),bE,H',⟨Nat.le_refl _⟩,⟨aE⟩,⟨aA⟩⟩
       case round =>
        clear H'
        (try clear c3);(try clear c3b0);(try clear c3b1);(try clear c4);(try clear c4b0);(try clear c14);(try clear c28);(try clear c28b0);(try clear c28b1)
        obtain ⟨x4_4,x8_4,rfl,HA,HK4,HO_4,HB⟩:=hrel
        cases gk with
        | zero=>exact absurd HA.out (by simp[eC.l2])
        | succ k4 =>
         have H:=HA.out;clear HA;simp only[eC.l2] at H
         by_cases c29:x8_4 < x6_14
         ·rw[if_pos c29] at H;have c29b0:=decide_eq_true c29;clear c29
          by_cases c30:0≤x8_4
          ·rw[if_pos c30] at H;have c30b0:=decide_eq_true c30;clear c30
           by_cases c31:x8_4 < (a0.size:Int)
           ·rw[if_pos c31] at H;have c31b0:=decide_eq_true c31;clear c31
            by_cases c33:(bt a0 x8_4)=46
            ·rw[if_pos c33] at H;have c33b0:=beq_iff_eq.mpr c33;have c33b1:=bne_eq_false_iff_eq.mpr c33;clear c33
             by_cases c34:x4_4.length < 17592186044416
             ·rw[if_pos c34] at H;have LMc34:=cH c34;clear c34
              obtain ⟨y171,hy171⟩:∃ y_:List Int,y_=(x4_4++[x8_4]):=⟨_,rfl⟩
              replace H:(eC.l2 k4 a0 y171 x6_14 (wrap64 (x8_4+1)))=some r:=by first | (rw[hy171];with_reducible exact H) | (have H2_:=(Option.bind_some _ _).symm.trans H;rw[hy171];with_reducible exact H2_) | (have H2_:=(Option.bind_some _ _).symm.trans H;with_reducible exact H2_) | with_reducible exact H | (rw[hy171];exact H) | exact H
              have Ny171:=cH hy171;clear hy171;have H':=cH H;clear H;have p32:0≤(x8_4:Int):=cG;have q32:x8_4 < (a0.size:Int):=cG;have hx32:=eX a0 x8_4;replace p32:=eq_true p32;replace q32:=eq_true q32
              go_wp2_with (first | ((with_reducible refine sB (b:=.append) (xs:=#[.tmp 80,.tmp 82]) rfl ?_);(try (refine iF bK ?_;dsimp only));at_builtin;refine Kd.R_append (Kd.int .i64) (w0:=w) w.heap.size rfl (.tmp 80) (.tmp 82) 80 3 (.int .i64 0) 8 rfl Tryz.underlying80 info3 rfl bH bA u4 x4_4 x8_4 [.int .i64 x8_4] (fun _=>True) (fun _=>False) rfl rfl ?aP (fun _ hk=>hk.elim) ?aF ?aO ?aB ?aS ?aL ?_;(case aP=>exact rfl);(case aB=>exact bC);(case aF=>exact (fun _ _=>trivial));(case aO=>exact (by (with_reducible repeat (first | apply Kd.R_alloc | apply Kd.R_drewN | apply Kd.R_drew));exact HO_4.out));(case aS=>exact (eP bC));(case aL=>have:=LMc34.out;omega);intro v172 w35 ho hb hg hat;rw[← Ny171.out] at ho;have n0_:=cH (hb);have n1_:=cH (ho);clear HB;clear HO_4;have HB:=n0_;have HO173:=n1_;clear n0_ n1_;clear ho hb hg hat))
              go_roundg k4
              case measure=>have:=HK1.out;have:=HJ4.out;have:=HJ14.out;have:=HK4.out;omega
              case rel=>exact ⟨(y171),(wrap64 (x8_4+1)),bE,H',⟨eA⟩,⟨by (with_reducible repeat (first | apply Kd.R_alloc | apply Kd.R_drewN | apply Kd.R_drew));exact HO173.out⟩,⟨aA⟩⟩
             rw[if_neg c34] at H;exact absurd H bJ
            rw[if_neg c33] at H;have c33b0:=beq_eq_false_iff_ne.mpr c33;have c33b1:=bne_iff_ne.mpr c33;have H':=cH H;clear H;have p32:0≤(x8_4:Int):=cG;have q32:x8_4 < (a0.size:Int):=cG;have hx32:=eX a0 x8_4;replace p32:=eq_true p32;replace q32:=eq_true q32;go_wp2
            go_roundg k4
            case measure=>have:=HK1.out;have:=HJ4.out;have:=HJ14.out;have:=HK4.out;omega
            case rel=>exact ⟨(x4_4),(wrap64 (x8_4+1)),bE,H',⟨eA⟩,⟨aE⟩,⟨aA⟩⟩
           rw[if_neg c31] at H;exact absurd H bJ
          rw[if_neg c30] at H;exact absurd H bJ
         rw[if_neg c29] at H;have c29b0:=decide_eq_false c29;clear c29;have H':=cH H;clear H;go_wp2
         go_roundg k4
         case measure=>have:=HK1.out;have:=HJ4.out;have:=HJ14.out;have:=HK4.out;omega
         case rel=>exact ⟨(x4_4),(wrap64 (x6_14+1)),bE,H',⟨eA⟩,⟨aE⟩,⟨aA⟩⟩
     replace c14:=Bool.eq_false_iff.mpr c14;subst c14;rw[if_neg (show ¬ (false=true) by decide)] at H;have H':=cH H;clear H;go_wp2
     go_roundg kj4
     case measure=>have:=HK1.out;have:=HJ4.out;omega
     case rel=>exact ⟨(x4_1),(wrap64 (x5_1+1)),bE,H',⟨by have:=HK1.out;have:=HJ4.out;omega⟩,⟨aE⟩,⟨aA⟩⟩
   rw[if_neg c4] at H;have c4b0:=decide_eq_false c4;clear c4;obtain rfl:=Option.some.inj H;go_wp2;go_ret;exact ⟨_,aC,aE,aA⟩
end Go.Proofs.YtcdgldnphhidlaaGreatDoor.PCore
namespace Go.Proofs.YtcdgldnphhidlaaGreatDoor.PCore
open Go.RowKit Go.ZW.PrintWords Go.ZW.PrintLast Go.ZW.PrintMore
attribute [local go_sem] kF kH lE lF jR jS kG kI   -- for this text's walks alone
def eY.l0:Nat→Int→List Int→Int→Int→Option (Bool)
 | 0,_,_,_,_=>none
 | k+1,x1,x7,x8,x9=>if x9 < x8 then (if 0≤x9 then (if x9 < (x7.length:Int) then (if (rd x7 x9)=x1 then (some true) else (if (rd x7 x9) > x1 then (some false) else (eY.l0 k x1 x7 x8 (wrap64 (x9+1))))) else (none)) else (none)) else (some false)
def eY.f (k:Nat) (l0:List Int) (a1:Int):Option (Bool):=eY.l0 k a1 l0 (l0.length:Int) 0
theorem eY.mono_l:∀ k,(∀ y0 y1 y2 y3,LeO (eY.l0 k y0 y1 y2 y3) (eY.l0 (k+1) y0 y1 y2 y3))
 | 0=>fun _ _ _ _ r h=>by simp[eY.l0] at h
 | k+1=>by
  have ih0:=eY.mono_l k
  intro y0 y1 y2 y3;unfold eY.l0
  exact dA
theorem eY.mono:∀ a0 a1 k,LeO (eY.f k a0 a1) (eY.f (k+1) a0 a1):=by
 intro a0 a1 k;have ih0:=eY.mono_l k;unfold eY.f
 exact dA
theorem eY.calls (k:Nat) (A0:Option Addr) (c0:Nat) (l0:List Int) (a1:Int) (r:Bool) (w:World) (hr0:Kd.C (Kd.int .i64) w A0 l0.length l0) (hc0:l0.length≤c0) (h:eY.f k l0 a1=some r) :
 Calls Tryz.prog 163 #[.slice A0 l0.length c0,.int .i64 a1] w fun e w'=>e = .returned (.bool r)∧eW w w':=by
 have HR0:=cH hr0;have HC0:=cH hc0;clear hr0 hc0;unfold eY.f at h;have H:=h;clear h;have H':=cH H;clear H;go_enter Tryz.func163,Tryz.ntmps163;go_wp2
 go_loopg [9] k (fun kq v9 w'=>∃ (x9_1:Int),v9 = .int .i64 x9_1∧Aside0 (eY.l0 kq a1 l0 (l0.length:Int) x9_1=some r)∧Aside0 (kq≤k)∧eW w w')
 case atStart=>exact ⟨(0),bE,H',⟨Nat.le_refl _⟩,dM⟩
 case round =>
  clear H'
  obtain ⟨x9_1,rfl,HA,HK1,⟨m1,rfl⟩⟩:=hrel
  cases gk with
  | zero=>exact absurd HA.out (by simp[eY.l0])
  | succ k1 =>
   have H:=HA.out;clear HA;simp only[eY.l0] at H
   by_cases c3:x9_1 < (l0.length:Int)
   ·rw[if_pos c3] at H;have c3b0:=decide_eq_true c3;clear c3
    by_cases c4:0≤x9_1
    ·rw[if_pos c4] at H;have c4b0:=decide_eq_true c4;clear c4
     by_cases c5:x9_1 < (l0.length:Int)
     ·rw[if_pos c5] at H;have c5b0:=decide_eq_true c5;clear c5
      by_cases c6:(rd l0 x9_1)=a1
      ·rw[if_pos c6] at H;have c6b0:=beq_iff_eq.mpr c6;have c6b1:=bne_eq_false_iff_eq.mpr c6;clear c6;obtain rfl:=Option.some.inj H;have p174:0≤(x9_1:Int):=cG;have q174:x9_1 < (l0.length:Int):=cG;obtain ⟨ad174,e174,hx174_0⟩:=Kd.at_int HR0.out x9_1 p174 q174;cases e174;replace p174:=eq_true p174;replace q174:=eq_true q174;go_wp2;go_ret;exact ⟨bE,dM⟩
      rw[if_neg c6] at H;have c6b0:=beq_eq_false_iff_ne.mpr c6;have c6b1:=bne_iff_ne.mpr c6
      by_cases c7:(rd l0 x9_1) > a1
      ·rw[if_pos c7] at H;have c7b0:=decide_eq_true c7;clear c7;obtain rfl:=Option.some.inj H;have p174:0≤(x9_1:Int):=cG;have q174:x9_1 < (l0.length:Int):=cG;obtain ⟨ad174,e174,hx174_0⟩:=Kd.at_int HR0.out x9_1 p174 q174;cases e174;replace p174:=eq_true p174;replace q174:=eq_true q174;go_wp2;go_ret;exact ⟨bE,dM⟩
      rw[if_neg c7] at H;have c7b0:=decide_eq_false c7;clear c7;have H':=cH H;clear H;have p174:0≤(x9_1:Int):=cG;have q174:x9_1 < (l0.length:Int):=cG;obtain ⟨ad174,e174,hx174_0⟩:=Kd.at_int HR0.out x9_1 p174 q174;cases e174;replace p174:=eq_true p174;replace q174:=eq_true q174;go_wp2
      go_roundg k1
      case measure=>have:=HK1.out;omega
      case rel=>exact ⟨(wrap64 (x9_1+1)),bE,H',⟨aT⟩,dM⟩
     rw[if_neg c5] at H;exact absurd H bJ
    rw[if_neg c4] at H;exact absurd H bJ
   rw[if_neg c3] at H;have c3b0:=decide_eq_false c3;clear c3;obtain rfl:=Option.some.inj H;go_wp2;go_ret;exact ⟨bE,dM⟩
def eY.Pure:Prop:=∀ (l0:List Int) (a1:Int),l0.length≤maxLen→l0.length * 8≤140737488351232→(∀ x∈l0,(Lit.int .i64 x).wf=true)→(Lit.int .i64 a1).wf=true→∃ k,eY.f k l0 a1=some true
theorem eY.walk (P:eY.Pure) (a0:Option Addr) (len0 cap0:Nat) (z0:List Int) (a1:Int) (w:World) (w0:(a0=none∧len0=0∧cap0=0∧z0=[])∨∃ x,a0=some x∧len0≤cap0∧cap0≤maxLen∧z0.length=cap0∧(∀ i,i < z0.length→w.cell? (x.add i)=some (.int .i64 (z0.getD i 0)))∧∀ n∈z0,(Lit.int .i64 n).wf=true) (y0:len0 * 8≤140737488351232) (w1:(Lit.int .i64 a1).wf=true) :
 Calls Tryz.prog 163 #[.slice a0 len0 cap0,.int .i64 a1] w fun e w'=>e = .returned (.bool true)∧Below w.heap.size w w':=by
 obtain ⟨l0,rfl,hr0,hm0,hw0,hc0⟩:=jC.ofRowC w0;obtain ⟨k,h⟩:=P l0 a1 hm0 y0 hw0 w1;refine (eY.calls k _ _ l0 a1 true w (Kd.C_of_reads (d:=(0:Int)) (h1:=fun _=>rfl) hr0) hc0 h).mono ?_;rintro e w' ⟨rfl,hd⟩;exact ⟨rfl,hd.below⟩
def fI.l0:Nat→ByteArray→ByteArray→Int→Option (Int)
 | 0,_,_,_=>none
 | k+1,x0,x1,x5=>if (wrap64 (x5+(x1.size:Int)))≤(x0.size:Int) then (if 0≤x5 then (if x5≤(wrap64 (x5+(x1.size:Int))) then (if (x0.extract (x5:Int).toNat ((wrap64 (x5+(x1.size:Int))):Int).toNat).toList=x1.toList then (some x5) else (fI.l0 k x0 x1 (wrap64 (x5+1)))) else (none)) else (none)) else (some (-1))
def fI.f (k:Nat) (a0:ByteArray) (a1:ByteArray):Option (Int):=fI.l0 k a0 a1 0
theorem fI.mono_l:∀ k,(∀ y0 y1 y2,LeO (fI.l0 k y0 y1 y2) (fI.l0 (k+1) y0 y1 y2))
 | 0=>fun _ _ _ r h=>by simp[fI.l0] at h
 | k+1=>by
  have ih0:=fI.mono_l k
  intro y0 y1 y2;unfold fI.l0
  exact dC
theorem fI.mono:∀ a0 a1 k,LeO (fI.f k a0 a1) (fI.f (k+1) a0 a1):=by
 intro a0 a1 k;have ih0:=fI.mono_l k;unfold fI.f
 exact dC
theorem fI.calls (k:Nat) (a0:ByteArray) (a1:ByteArray) (r:Int) (w:World) (h:fI.f k a0 a1=some r) :
 Calls Tryz.prog 153 #[.string a0,.string a1] w fun e w'=>e = .returned (.int .i64 r)∧eW w w':=by
 unfold fI.f at h;have H:=h;clear h;have H':=cH H;clear H;go_enter Tryz.func153,Tryz.ntmps153;go_wp2
 go_loopg [5] k (fun kq v5 w'=>∃ (x5_1:Int),v5 = .int .i64 x5_1∧Aside0 (fI.l0 kq a0 a1 x5_1=some r)∧Aside0 (kq≤k)∧eW w w')
 case atStart=>exact ⟨(0),bE,H',⟨Nat.le_refl _⟩,dM⟩
 case round =>
  clear H'
  obtain ⟨x5_1,rfl,HA,HK1,⟨m1,rfl⟩⟩:=hrel
  cases gk with
  | zero=>exact absurd HA.out (by simp[fI.l0])
  | succ k1 =>
   have H:=HA.out;clear HA;simp only[fI.l0] at H
   by_cases c3:(wrap64 (x5_1+(a1.size:Int)))≤(a0.size:Int)
   ·rw[if_pos c3] at H;have c3b0:=decide_eq_true c3;clear c3
    by_cases c4:0≤x5_1
    ·rw[if_pos c4] at H;have c4b0:=eq_true c4;have c4b1:=decide_eq_true c4;clear c4
     by_cases c5:x5_1≤(wrap64 (x5_1+(a1.size:Int)))
     ·rw[if_pos c5] at H;have c5b0:=eq_true c5;have c5b1:=decide_eq_true c5;have c6b0:=eq_true (cG:(wrap64 (x5_1+(a1.size:Int)))≤(a0.size:Int))
      by_cases c7:(a0.extract (x5_1:Int).toNat ((wrap64 (x5_1+(a1.size:Int))):Int).toNat).toList=a1.toList
      ·rw[if_pos c7] at H;have c7b0:=beq_iff_eq.mpr c7;have c7b1:=bne_eq_false_iff_eq.mpr c7;clear c7;obtain rfl:=Option.some.inj H;go_wp2;go_ret;exact ⟨bE,dM⟩
      rw[if_neg c7] at H;have c7b0:=beq_eq_false_iff_ne.mpr c7;have c7b1:=bne_iff_ne.mpr c7;have H':=cH H;clear H;go_wp2
      go_roundg k1
      case measure=>have:=HK1.out;omega
      case rel=>exact ⟨(wrap64 (x5_1+1)),bE,H',⟨aT⟩,dM⟩
     rw[if_neg c5] at H;exact absurd H bJ
    rw[if_neg c4] at H;exact absurd H bJ
   rw[if_neg c3] at H;have c3b0:=decide_eq_false c3;clear c3;obtain rfl:=Option.some.inj H;go_wp2;go_ret;exact ⟨bE,dM⟩
def gW.f (k:Nat) (a0:ByteArray) (a1:ByteArray):Option (Bool):=(fI.f k a0 a1).bind fun t175=>(some (decide (t175≥0)))
theorem gW.mono:∀ a0 a1 k,LeO (gW.f k a0 a1) (gW.f (k+1) a0 a1):=by
 intro a0 a1 k;unfold gW.f
 repeat' first
  | (with_reducible exact fI.mono _ _ _)
  | (with_reducible exact LeO.refl _)
  | (with_reducible exact LeO.none _)
  | (with_reducible refine LeO.ite ?_ ?_)
  | (with_reducible refine LeO.bind ?_ (fun _=>?_))
  | exact fI.mono _ _ _
  | exact LeO.none _
  | refine LeO.ite ?_ ?_
  | refine LeO.bind ?_ (fun _=>?_)
theorem gW.calls (k:Nat) (a0:ByteArray) (a1:ByteArray) (r:Bool) (w:World) (h:gW.f k a0 a1=some r) :
 Calls Tryz.prog 162 #[.string a0,.string a1] w fun e w'=>e = .returned (.bool r)∧eW w w':=by
 unfold gW.f at h;have H:=h;clear h;replace H:=Option.bind_eq_some_iff.mp H;obtain ⟨t175,A30,H⟩:=H;have A3:=cH A30;clear A30;obtain rfl:=Option.some.inj H;go_enter Tryz.func162,Tryz.ntmps162
 go_wp2_with (first | ((with_reducible refine fE (f:=153) rfl ?_);refine gP (some 7) rfl rfl Tryz.func153 bB rfl #[.string a0,.string a1] rfl bD ?_;(with_reducible refine (fI.calls k a0 a1 t175 _ A3.out).mono ?_);rintro e w' ⟨rfl,⟨nd,rfl⟩⟩;refine ⟨_,rfl,?_⟩))
 go_ret;exact ⟨bE,dM⟩
def gW.Pure:Prop:=∀ (a0:ByteArray) (a1:ByteArray),a0.size≤140737488351232→a1.size≤140737488351232→∃ k,gW.f k a0 a1=some true
theorem gW.walk (P:gW.Pure) (a0:ByteArray) (a1:ByteArray) (w:World) (w0:a0.size≤140737488351232) (w1:a1.size≤140737488351232) :
 Calls Tryz.prog 162 #[.string a0,.string a1] w fun e w'=>e = .returned (.bool true)∧Below w.heap.size w w':=by
 obtain ⟨k,h⟩:=P a0 a1 w0 w1;refine (gW.calls k a0 a1 true w h).mono ?_;rintro e w' ⟨rfl,hd⟩;exact ⟨rfl,hd.below⟩
def lN.f (a0:ByteArray):Option (Bool):=some (a0.toList==([103,111,116,109,112,108]:List UInt8))
theorem lN.calls (a0:ByteArray) (r:Bool) (w:World) (h:lN.f a0=some r) :
 Calls Tryz.prog 182 #[.string a0] w fun e w'=>e = .returned (.bool r)∧eW w w':=by
 unfold lN.f at h;have H:=h;clear h;obtain rfl:=Option.some.inj H;go_enter Tryz.func182,Tryz.ntmps182;go_wp2;go_ret;exact ⟨bE,dM⟩
def hX.f (a0:ByteArray):Option (Bool):=(lN.f a0).bind fun t176=>(some t176)
theorem hX.calls (a0:ByteArray) (r:Bool) (w:World) (h:hX.f a0=some r) :
 Calls Tryz.prog 165 #[.string a0] w fun e w'=>e = .returned (.bool r)∧eW w w':=by
 unfold hX.f at h;have H:=h;clear h;replace H:=Option.bind_eq_some_iff.mp H;obtain ⟨t176,A20,H⟩:=H;have A2:=cH A20;clear A20;obtain rfl:=Option.some.inj H;go_enter Tryz.func165,Tryz.ntmps165
 go_wp2_with (first | ((with_reducible refine fE (f:=182) rfl ?_);refine gP (some 4) rfl rfl Tryz.func182 bB rfl #[.string a0] rfl bD ?_;(with_reducible refine (lN.calls a0 t176 _ A2.out).mono ?_);rintro e w' ⟨rfl,⟨nd,rfl⟩⟩;refine ⟨_,rfl,?_⟩))
 go_ret;exact ⟨bE,dM⟩
def hX.Pure:Prop:=∀ (a0:ByteArray),a0.size≤140737488351232→hX.f a0=some true
theorem hX.walk (P:hX.Pure) (a0:ByteArray) (w:World) (w0:a0.size≤140737488351232) :
 Calls Tryz.prog 165 #[.string a0] w fun e w'=>e = .returned (.bool true)∧Below w.heap.size w w':=by
 have h:=P a0 w0;refine (hX.calls a0 true w h).mono ?_;rintro e w' ⟨rfl,hd⟩;exact ⟨rfl,hd.below⟩
def fU.l0:Nat→ByteArray→List ByteArray→Int→Int→Option (Bool)
 | 0,_,_,_,_=>none
 | k+1,x1,x7,x8,x9=>if x9 < x8 then (if 0≤x9 then (if x9 < (x7.length:Int) then (if (gE ByteArray.empty x7 x9).toList=x1.toList then (some true) else (fU.l0 k x1 x7 x8 (wrap64 (x9+1)))) else (none)) else (none)) else (some false)
def fU.f (k:Nat) (l0:List ByteArray) (a1:ByteArray):Option (Bool):=fU.l0 k a1 l0 (l0.length:Int) 0
theorem fU.mono_l:∀ k,(∀ y0 y1 y2 y3,LeO (fU.l0 k y0 y1 y2 y3) (fU.l0 (k+1) y0 y1 y2 y3))
 | 0=>fun _ _ _ _ r h=>by simp[fU.l0] at h
 | k+1=>by
  have ih0:=fU.mono_l k
  intro y0 y1 y2 y3;unfold fU.l0
  exact dA
theorem fU.mono:∀ a0 a1 k,LeO (fU.f k a0 a1) (fU.f (k+1) a0 a1):=by
 intro a0 a1 k;have ih0:=fU.mono_l k;unfold fU.f
 exact dA
theorem fU.calls (k:Nat) (A0:Option Addr) (c0:Nat) (l0:List ByteArray) (a1:ByteArray) (r:Bool) (w:World) (hr0:Kd.C Kd.string w A0 l0.length l0) (hc0:l0.length≤c0) (h:fU.f k l0 a1=some r) :
 Calls Tryz.prog 34 #[.slice A0 l0.length c0,.string a1] w fun e w'=>e = .returned (.bool r)∧eW w w':=by
 have HR0:=cH hr0;have HC0:=cH hc0;clear hr0 hc0;unfold fU.f at h;have H:=h;clear h;have H':=cH H;clear H;go_enter Tryz.func34,Tryz.ntmps34;go_wp2
 go_loopg [9] k (fun kq v9 w'=>∃ (x9_1:Int),v9 = .int .i64 x9_1∧Aside0 (fU.l0 kq a1 l0 (l0.length:Int) x9_1=some r)∧Aside0 (kq≤k)∧eW w w')
 case atStart=>exact ⟨(0),bE,H',⟨Nat.le_refl _⟩,dM⟩
 case round =>
  clear H'
  obtain ⟨x9_1,rfl,HA,HK1,⟨m1,rfl⟩⟩:=hrel
  cases gk with
  | zero=>exact absurd HA.out (by simp[fU.l0])
  | succ k1 =>
   have H:=HA.out;clear HA;simp only[fU.l0] at H
   by_cases c3:x9_1 < (l0.length:Int)
   ·rw[if_pos c3] at H;have c3b0:=decide_eq_true c3;clear c3
    by_cases c4:0≤x9_1
    ·rw[if_pos c4] at H;have c4b0:=decide_eq_true c4;clear c4
     by_cases c5:x9_1 < (l0.length:Int)
     ·rw[if_pos c5] at H;have c5b0:=decide_eq_true c5;clear c5
      by_cases c6:(gE ByteArray.empty l0 x9_1).toList=a1.toList
      ·rw[if_pos c6] at H;have c6b0:=beq_iff_eq.mpr c6;have c6b1:=bne_eq_false_iff_eq.mpr c6;clear c6;obtain rfl:=Option.some.inj H;have p177:0≤(x9_1:Int):=cG;have q177:x9_1 < (l0.length:Int):=cG;obtain ⟨ad177,e177,hx177_0⟩:=Kd.at_string HR0.out x9_1 p177 q177;cases e177;replace p177:=eq_true p177;replace q177:=eq_true q177;go_wp2;go_ret;exact ⟨bE,dM⟩
      rw[if_neg c6] at H;have c6b0:=beq_eq_false_iff_ne.mpr c6;have c6b1:=bne_iff_ne.mpr c6;have H':=cH H;clear H;have p177:0≤(x9_1:Int):=cG;have q177:x9_1 < (l0.length:Int):=cG;obtain ⟨ad177,e177,hx177_0⟩:=Kd.at_string HR0.out x9_1 p177 q177;cases e177;replace p177:=eq_true p177;replace q177:=eq_true q177;go_wp2
      go_roundg k1
      case measure=>have:=HK1.out;omega
      case rel=>exact ⟨(wrap64 (x9_1+1)),bE,H',⟨aT⟩,dM⟩
     rw[if_neg c5] at H;exact absurd H bJ
    rw[if_neg c4] at H;exact absurd H bJ
   rw[if_neg c3] at H;have c3b0:=decide_eq_false c3;clear c3;obtain rfl:=Option.some.inj H;go_wp2;go_ret;exact ⟨bE,dM⟩
def kM.f (a0:ByteArray):Option (Bool):=(jO.f a0).bind fun t178=>(if t178.toList=([104,111,109,101]:List UInt8) then (some true) else (if t178.toList=([112,97,103,101]:List UInt8) then (some true) else (if t178.toList=([115,101,99,116,105,111,110]:List UInt8) then (some true) else (if t178.toList=([116,97,120,111,110,111,109,121]:List UInt8) then (some true) else (if t178.toList=([116,101,114,109]:List UInt8) then (some true) else (some (t178.toList==([116,97,120,111,110,111,109,121,116,101,114,109]:List UInt8))))))))
theorem kM.calls (a0:ByteArray) (r:Bool) (w:World) (h:kM.f a0=some r) :
 Calls Tryz.prog 55 #[.string a0] w fun e w'=>e = .returned (.bool r)∧Below w.heap.size w w':=by
 have HB:=cH (Below.refl w.heap.size w);unfold kM.f at h;have H:=h;clear h;replace H:=Option.bind_eq_some_iff.mp H;obtain ⟨t178,A20,H⟩:=H;have A2:=cH A20;clear A20
 by_cases c3:t178.toList=([104,111,109,101]:List UInt8)
 ·rw[if_pos c3] at H;have c3b0:=beq_iff_eq.mpr c3;have c3b1:=bne_eq_false_iff_eq.mpr c3;clear c3;obtain rfl:=Option.some.inj H;go_enter Tryz.func55,Tryz.ntmps55
  go_wp2_with (first | ((with_reducible refine fE (f:=69) rfl ?_);refine gP (some 4) rfl rfl Tryz.func69 bB rfl #[.string a0] rfl bD ?_;(with_reducible refine (jO.calls a0 t178 _ A2.out).mono ?_);rintro e w4 ⟨rfl,hb⟩;refine ⟨_,rfl,?_⟩;replace HB:=cH (eB bC hb);(try clear hb);(try clear hb2);(try clear hk);(try clear hi)))
  go_ret;exact ⟨aC,aA⟩
 rw[if_neg c3] at H;have c3b0:=beq_eq_false_iff_ne.mpr c3;have c3b1:=bne_iff_ne.mpr c3
 by_cases c5:t178.toList=([112,97,103,101]:List UInt8)
 ·rw[if_pos c5] at H;have c5b0:=beq_iff_eq.mpr c5;have c5b1:=bne_eq_false_iff_eq.mpr c5;clear c5;obtain rfl:=Option.some.inj H;go_enter Tryz.func55,Tryz.ntmps55
  go_wp2_with (first | ((with_reducible refine fE (f:=69) rfl ?_);refine gP (some 4) rfl rfl Tryz.func69 bB rfl #[.string a0] rfl bD ?_;(with_reducible refine (jO.calls a0 t178 _ A2.out).mono ?_);rintro e w6 ⟨rfl,hb⟩;refine ⟨_,rfl,?_⟩;replace HB:=cH (eB bC hb);(try clear hb);(try clear hb2);(try clear hk);(try clear hi)))
  go_ret;exact ⟨aC,aA⟩
 rw[if_neg c5] at H;have c5b0:=beq_eq_false_iff_ne.mpr c5;have c5b1:=bne_iff_ne.mpr c5
 by_cases c7:t178.toList=([115,101,99,116,105,111,110]:List UInt8)
 ·rw[if_pos c7] at H;have c7b0:=beq_iff_eq.mpr c7;have c7b1:=bne_eq_false_iff_eq.mpr c7;clear c7;obtain rfl:=Option.some.inj H;go_enter Tryz.func55,Tryz.ntmps55
  go_wp2_with (first | ((with_reducible refine fE (f:=69) rfl ?_);refine gP (some 4) rfl rfl Tryz.func69 bB rfl #[.string a0] rfl bD ?_;(with_reducible refine (jO.calls a0 t178 _ A2.out).mono ?_);rintro e w8 ⟨rfl,hb⟩;refine ⟨_,rfl,?_⟩;replace HB:=cH (eB bC hb);(try clear hb);(try clear hb2);(try clear hk);(try clear hi)))
  go_ret;exact ⟨aC,aA⟩
 rw[if_neg c7] at H;have c7b0:=beq_eq_false_iff_ne.mpr c7;have c7b1:=bne_iff_ne.mpr c7
 by_cases c9:t178.toList=([116,97,120,111,110,111,109,121]:List UInt8)
 ·rw[if_pos c9] at H;have c9b0:=beq_iff_eq.mpr c9;have c9b1:=bne_eq_false_iff_eq.mpr c9;clear c9;obtain rfl:=Option.some.inj H;go_enter Tryz.func55,Tryz.ntmps55
  go_wp2_with (first | ((with_reducible refine fE (f:=69) rfl ?_);refine gP (some 4) rfl rfl Tryz.func69 bB rfl #[.string a0] rfl bD ?_;(with_reducible refine (jO.calls a0 t178 _ A2.out).mono ?_);rintro e w10 ⟨rfl,hb⟩;refine ⟨_,rfl,?_⟩;replace HB:=cH (eB bC hb);(try clear hb);(try clear hb2);(try clear hk);(try clear hi)))
  go_ret;exact ⟨aC,aA⟩
 rw[if_neg c9] at H;have c9b0:=beq_eq_false_iff_ne.mpr c9;have c9b1:=bne_iff_ne.mpr c9
 by_cases c11:t178.toList=([116,101,114,109]:List UInt8)
 ·rw[if_pos c11] at H;have c11b0:=beq_iff_eq.mpr c11;have c11b1:=bne_eq_false_iff_eq.mpr c11;clear c11;obtain rfl:=Option.some.inj H;go_enter Tryz.func55,Tryz.ntmps55
  go_wp2_with (first | ((with_reducible refine fE (f:=69) rfl ?_);refine gP (some 4) rfl rfl Tryz.func69 bB rfl #[.string a0] rfl bD ?_;(with_reducible refine (jO.calls a0 t178 _ A2.out).mono ?_);rintro e w12 ⟨rfl,hb⟩;refine ⟨_,rfl,?_⟩;replace HB:=cH (eB bC hb);(try clear hb);(try clear hb2);(try clear hk);(try clear hi)))
  go_ret;exact ⟨aC,aA⟩
 rw[if_neg c11] at H;have c11b0:=beq_eq_false_iff_ne.mpr c11;have c11b1:=bne_iff_ne.mpr c11;obtain rfl:=Option.some.inj H;go_enter Tryz.func55,Tryz.ntmps55
 go_wp2_with (first | ((with_reducible refine fE (f:=69) rfl ?_);refine gP (some 4) rfl rfl Tryz.func69 bB rfl #[.string a0] rfl bD ?_;(with_reducible refine (jO.calls a0 t178 _ A2.out).mono ?_);rintro e w13 ⟨rfl,hb⟩;refine ⟨_,rfl,?_⟩;replace HB:=cH (eB bC hb);(try clear hb);(try clear hb2);(try clear hk);(try clear hi)))
 go_ret;exact ⟨aC,aA⟩
def kM.Pure:Prop:=∀ (a0:ByteArray),a0.size≤140737488351232→kM.f a0=some true
theorem kM.walk (P:kM.Pure) (a0:ByteArray) (w:World) (w0:a0.size≤140737488351232) :
 Calls Tryz.prog 55 #[.string a0] w fun e w'=>e = .returned (.bool true)∧Below w.heap.size w w':=by
 have h:=P a0 w0;refine (kM.calls a0 true w h).mono ?_;rintro e w' ⟨rfl,hd⟩;exact ⟨rfl,hd⟩
end Go.Proofs.YtcdgldnphhidlaaGreatDoor.PCore
namespace Go.Proofs.YtcdgldnphhidlaaGreatDoor.PCore
open Go.RowKit Go.ZW.PrintWords Go.ZW.PrintLast Go.ZW.PrintMore
attribute [local go_sem] kF kH lE lF jR jS kG kI   -- for this text's walks alone
def fF.l0:Nat→ByteArray→Int→Option (Bool)
 | 0,_,_=>none
 | k+1,x0,x3=>if x3 < (x0.size:Int) then (if 0≤x3 then (if (bt x0 x3)≥97 then (if ((bt x0 x3)≤122) then (fF.l0 k x0 (wrap64 (x3+1))) else (if x3=0 then (some false) else (if (bt x0 x3) < 48 then (if (bt x0 x3)=45 then (fF.l0 k x0 (wrap64 (x3+1))) else (some false)) else (if (bt x0 x3) > 57 then (if (bt x0 x3)=45 then (fF.l0 k x0 (wrap64 (x3+1))) else (some false)) else (fF.l0 k x0 (wrap64 (x3+1))))))) else (if x3=0 then (some false) else (if (bt x0 x3) < 48 then (if (bt x0 x3)=45 then (fF.l0 k x0 (wrap64 (x3+1))) else (some false)) else (if (bt x0 x3) > 57 then (if (bt x0 x3)=45 then (fF.l0 k x0 (wrap64 (x3+1))) else (some false)) else (fF.l0 k x0 (wrap64 (x3+1))))))) else (none)) else (if x0.toList=([]:List UInt8) then (some false) else (if x0.toList=([105,110,100,101,120]:List UInt8) then (some false) else (if x0.toList=([98,97,115,101,111,102]:List UInt8) then (some false) else ((kM.f x0).bind fun t179=>(some (!t179))))))
def fF.f (k:Nat) (a0:ByteArray):Option (Bool):=fF.l0 k a0 0
theorem fF.mono_l:∀ k,(∀ y0 y1,LeO (fF.l0 k y0 y1) (fF.l0 (k+1) y0 y1))
 | 0=>fun _ _ r h=>by simp[fF.l0] at h
 | k+1=>by
  have ih0:=fF.mono_l k
  intro y0 y1;unfold fF.l0
  exact dD
theorem fF.mono:∀ a0 k,LeO (fF.f k a0) (fF.f (k+1) a0):=by
 intro a0 k;have ih0:=fF.mono_l k;unfold fF.f
 exact dD
theorem fF.calls (k:Nat) (a0:ByteArray) (r:Bool) (w:World) (h:fF.f k a0=some r) :
 Calls Tryz.prog 33 #[.string a0] w fun e w'=>e = .returned (.bool r)∧Below w.heap.size w w':=by
 have HB:=cH (Below.refl w.heap.size w);unfold fF.f at h;have H:=h;clear h;have H':=cH H;clear H;go_enter Tryz.func33,Tryz.ntmps33;go_wp2
 go_loopg [3] k (fun kq v3 w'=>∃ (x3_1:Int),v3 = .int .i64 x3_1∧Aside0 (fF.l0 kq a0 x3_1=some r)∧Aside0 (kq≤k)∧Aside0 (Below w.heap.size w w'))
 case atStart=>exact ⟨(0),bE,H',⟨Nat.le_refl _⟩,⟨aA⟩⟩
 case round =>
  clear H';obtain ⟨x3_1,rfl,HA,HK1,HB⟩:=hrel
  cases gk with
  | zero=>exact absurd HA.out (by simp[fF.l0])
  | succ k1 =>
   have H:=HA.out;clear HA;simp only[fF.l0] at H
   by_cases c2:x3_1 < (a0.size:Int)
   ·rw[if_pos c2] at H;have c2b0:=decide_eq_true c2;clear c2
    by_cases c3:0≤x3_1
    ·rw[if_pos c3] at H;have c3b0:=decide_eq_true c3;clear c3
     by_cases c5:(bt a0 x3_1)≥97
     ·rw[if_pos c5] at H;have c5b0:=decide_eq_true c5;clear c5
      by_cases c7:((bt a0 x3_1)≤122)
      ·rw[if_pos c7] at H;have c7b0:=decide_eq_true c7;clear c7;have H':=cH H;clear H;have p4:0≤(x3_1:Int):=cG;have q4:x3_1 < (a0.size:Int):=cG;have hx4:=eX a0 x3_1;replace p4:=eq_true p4;replace q4:=eq_true q4;have p6:0≤(x3_1:Int):=cG;have q6:x3_1 < (a0.size:Int):=cG;have hx6:=eX a0 x3_1;replace p6:=eq_true p6;replace q6:=eq_true q6;go_wp2
       go_roundg k1
       case measure=>have:=HK1.out;omega
       case rel=>exact ⟨(wrap64 (x3_1+1)),bE,H',⟨aT⟩,⟨aA⟩⟩
      rw[if_neg c7] at H;have c7b0:=decide_eq_false c7;clear c7
      by_cases c8:x3_1=0
      ·rw[if_pos c8] at H;have c8b0:=beq_iff_eq.mpr c8;have c8b1:=bne_eq_false_iff_eq.mpr c8;clear c8;obtain rfl:=Option.some.inj H;have p4:0≤(x3_1:Int):=cG;have q4:x3_1 < (a0.size:Int):=cG;have hx4:=eX a0 x3_1;replace p4:=eq_true p4;replace q4:=eq_true q4;have p6:0≤(x3_1:Int):=cG;have q6:x3_1 < (a0.size:Int):=cG;have hx6:=eX a0 x3_1;replace p6:=eq_true p6;replace q6:=eq_true q6;go_wp2;go_ret
       exact ⟨aC,aA⟩
      rw[if_neg c8] at H;have c8b0:=beq_eq_false_iff_ne.mpr c8;have c8b1:=bne_iff_ne.mpr c8
      by_cases c10:(bt a0 x3_1) < 48
      ·rw[if_pos c10] at H;have c10b0:=decide_eq_true c10;clear c10
       by_cases c12:(bt a0 x3_1)=45
       ·rw[if_pos c12] at H;have c12b0:=beq_iff_eq.mpr c12;have c12b1:=bne_eq_false_iff_eq.mpr c12;clear c12;have H':=cH H;clear H;have p4:0≤(x3_1:Int):=cG;have q4:x3_1 < (a0.size:Int):=cG;have hx4:=eX a0 x3_1;replace p4:=eq_true p4;replace q4:=eq_true q4;have p6:0≤(x3_1:Int):=cG;have q6:x3_1 < (a0.size:Int):=cG;have hx6:=eX a0 x3_1;replace p6:=eq_true p6;replace q6:=eq_true q6;have p9:0≤(x3_1:Int):=cG
        have q9:x3_1 < (a0.size:Int):=cG;have hx9:=eX a0 x3_1;replace p9:=eq_true p9;replace q9:=eq_true q9;have p11:0≤(x3_1:Int):=cG;have q11:x3_1 < (a0.size:Int):=cG;have hx11:=eX a0 x3_1;replace p11:=eq_true p11;replace q11:=eq_true q11;go_wp2
        go_roundg k1
        case measure=>have:=HK1.out;omega
        case rel=>exact ⟨(wrap64 (x3_1+1)),bE,H',⟨aT⟩,⟨aA⟩⟩
       rw[if_neg c12] at H;have c12b0:=beq_eq_false_iff_ne.mpr c12;have c12b1:=bne_iff_ne.mpr c12;obtain rfl:=Option.some.inj H;have p4:0≤(x3_1:Int):=cG;have q4:x3_1 < (a0.size:Int):=cG;have hx4:=eX a0 x3_1;replace p4:=eq_true p4;replace q4:=eq_true q4;have p6:0≤(x3_1:Int):=cG;have q6:x3_1 < (a0.size:Int):=cG;have hx6:=eX a0 x3_1;replace p6:=eq_true p6;replace q6:=eq_true q6;have p9:0≤(x3_1:Int):=cG
       have q9:x3_1 < (a0.size:Int):=cG;have hx9:=eX a0 x3_1;replace p9:=eq_true p9;replace q9:=eq_true q9;have p11:0≤(x3_1:Int):=cG;have q11:x3_1 < (a0.size:Int):=cG;have hx11:=eX a0 x3_1;replace p11:=eq_true p11;replace q11:=eq_true q11;go_wp2;go_ret;exact ⟨aC,aA⟩
      rw[if_neg c10] at H;have c10b0:=decide_eq_false c10;clear c10
      by_cases c14:(bt a0 x3_1) > 57
      ·rw[if_pos c14] at H;have c14b0:=decide_eq_true c14;clear c14
       by_cases c16:(bt a0 x3_1)=45
       ·rw[if_pos c16] at H;have c16b0:=beq_iff_eq.mpr c16;have c16b1:=bne_eq_false_iff_eq.mpr c16;clear c16;have H':=cH H;clear H;have p4:0≤(x3_1:Int):=cG;have q4:x3_1 < (a0.size:Int):=cG;have hx4:=eX a0 x3_1;replace p4:=eq_true p4;replace q4:=eq_true q4;have p6:0≤(x3_1:Int):=cG;have q6:x3_1 < (a0.size:Int):=cG;have hx6:=eX a0 x3_1;replace p6:=eq_true p6;replace q6:=eq_true q6;have p9:0≤(x3_1:Int):=cG
        have q9:x3_1 < (a0.size:Int):=cG;have hx9:=eX a0 x3_1;replace p9:=eq_true p9;replace q9:=eq_true q9;have p13:0≤(x3_1:Int):=cG;have q13:x3_1 < (a0.size:Int):=cG;have hx13:=eX a0 x3_1;replace p13:=eq_true p13;replace q13:=eq_true q13;have p15:0≤(x3_1:Int):=cG;have q15:x3_1 < (a0.size:Int):=cG;have hx15:=eX a0 x3_1;replace p15:=eq_true p15;replace q15:=eq_true q15;go_wp2
        go_roundg k1
        case measure=>have:=HK1.out;omega
        case rel=>exact ⟨(wrap64 (x3_1+1)),bE,H',⟨aT⟩,⟨aA⟩⟩
       rw[if_neg c16] at H;have c16b0:=beq_eq_false_iff_ne.mpr c16;have c16b1:=bne_iff_ne.mpr c16;obtain rfl:=Option.some.inj H;have p4:0≤(x3_1:Int):=cG;have q4:x3_1 < (a0.size:Int):=cG;have hx4:=eX a0 x3_1;replace p4:=eq_true p4;replace q4:=eq_true q4;have p6:0≤(x3_1:Int):=cG;have q6:x3_1 < (a0.size:Int):=cG;have hx6:=eX a0 x3_1;replace p6:=eq_true p6;replace q6:=eq_true q6;have p9:0≤(x3_1:Int):=cG
       have q9:x3_1 < (a0.size:Int):=cG;have hx9:=eX a0 x3_1;replace p9:=eq_true p9;replace q9:=eq_true q9;have p13:0≤(x3_1:Int):=cG;have q13:x3_1 < (a0.size:Int):=cG;have hx13:=eX a0 x3_1;replace p13:=eq_true p13;replace q13:=eq_true q13;have p15:0≤(x3_1:Int):=cG;have q15:x3_1 < (a0.size:Int):=cG;have hx15:=eX a0 x3_1;replace p15:=eq_true p15;replace q15:=eq_true q15;go_wp2;go_ret
       exact ⟨aC,aA⟩
      rw[if_neg c14] at H;have c14b0:=decide_eq_false c14;clear c14;have H':=cH H;clear H;have p4:0≤(x3_1:Int):=cG;have q4:x3_1 < (a0.size:Int):=cG;have hx4:=eX a0 x3_1;replace p4:=eq_true p4;replace q4:=eq_true q4;have p6:0≤(x3_1:Int):=cG;have q6:x3_1 < (a0.size:Int):=cG;have hx6:=eX a0 x3_1;replace p6:=eq_true p6;replace q6:=eq_true q6;have p9:0≤(x3_1:Int):=cG
      have q9:x3_1 < (a0.size:Int):=cG;have hx9:=eX a0 x3_1;replace p9:=eq_true p9;replace q9:=eq_true q9;have p13:0≤(x3_1:Int):=cG;have q13:x3_1 < (a0.size:Int):=cG;have hx13:=eX a0 x3_1;replace p13:=eq_true p13;replace q13:=eq_true q13;go_wp2
      go_roundg k1
      case measure=>have:=HK1.out;omega
      case rel=>exact ⟨(wrap64 (x3_1+1)),bE,H',⟨aT⟩,⟨aA⟩⟩
     rw[if_neg c5] at H;have c5b0:=decide_eq_false c5;clear c5
     by_cases c17:x3_1=0
     ·rw[if_pos c17] at H;have c17b0:=beq_iff_eq.mpr c17;have c17b1:=bne_eq_false_iff_eq.mpr c17;clear c17;obtain rfl:=Option.some.inj H;have p4:0≤(x3_1:Int):=cG;have q4:x3_1 < (a0.size:Int):=cG;have hx4:=eX a0 x3_1;replace p4:=eq_true p4;replace q4:=eq_true q4;go_wp2;go_ret;exact ⟨aC,aA⟩
     rw[if_neg c17] at H;have c17b0:=beq_eq_false_iff_ne.mpr c17;have c17b1:=bne_iff_ne.mpr c17
     by_cases c19:(bt a0 x3_1) < 48
     ·rw[if_pos c19] at H;have c19b0:=decide_eq_true c19;clear c19
      by_cases c21:(bt a0 x3_1)=45
      ·rw[if_pos c21] at H;have c21b0:=beq_iff_eq.mpr c21;have c21b1:=bne_eq_false_iff_eq.mpr c21;clear c21;have H':=cH H;clear H;have p4:0≤(x3_1:Int):=cG;have q4:x3_1 < (a0.size:Int):=cG;have hx4:=eX a0 x3_1;replace p4:=eq_true p4;replace q4:=eq_true q4;have p18:0≤(x3_1:Int):=cG;have q18:x3_1 < (a0.size:Int):=cG;have hx18:=eX a0 x3_1;replace p18:=eq_true p18;replace q18:=eq_true q18;have p20:0≤(x3_1:Int):=cG
       have q20:x3_1 < (a0.size:Int):=cG;have hx20:=eX a0 x3_1;replace p20:=eq_true p20;replace q20:=eq_true q20;go_wp2
       go_roundg k1
       case measure=>have:=HK1.out;omega
       case rel=>exact ⟨(wrap64 (x3_1+1)),bE,H',⟨aT⟩,⟨aA⟩⟩
      rw[if_neg c21] at H;have c21b0:=beq_eq_false_iff_ne.mpr c21;have c21b1:=bne_iff_ne.mpr c21;obtain rfl:=Option.some.inj H;have p4:0≤(x3_1:Int):=cG;have q4:x3_1 < (a0.size:Int):=cG;have hx4:=eX a0 x3_1;replace p4:=eq_true p4;replace q4:=eq_true q4;have p18:0≤(x3_1:Int):=cG;have q18:x3_1 < (a0.size:Int):=cG;have hx18:=eX a0 x3_1;replace p18:=eq_true p18;replace q18:=eq_true q18;have p20:0≤(x3_1:Int):=cG
      have q20:x3_1 < (a0.size:Int):=cG;have hx20:=eX a0 x3_1;replace p20:=eq_true p20;replace q20:=eq_true q20;go_wp2;go_ret;exact ⟨aC,aA⟩
     rw[if_neg c19] at H;have c19b0:=decide_eq_false c19;clear c19
     by_cases c23:(bt a0 x3_1) > 57
     ·rw[if_pos c23] at H;have c23b0:=decide_eq_true c23;clear c23
      by_cases c25:(bt a0 x3_1)=45
      ·rw[if_pos c25] at H;have c25b0:=beq_iff_eq.mpr c25;have c25b1:=bne_eq_false_iff_eq.mpr c25;clear c25;have H':=cH H;clear H;have p4:0≤(x3_1:Int):=cG;have q4:x3_1 < (a0.size:Int):=cG;have hx4:=eX a0 x3_1;replace p4:=eq_true p4;replace q4:=eq_true q4;have p18:0≤(x3_1:Int):=cG;have q18:x3_1 < (a0.size:Int):=cG;have hx18:=eX a0 x3_1;replace p18:=eq_true p18;replace q18:=eq_true q18;have p22:0≤(x3_1:Int):=cG
       have q22:x3_1 < (a0.size:Int):=cG;have hx22:=eX a0 x3_1;replace p22:=eq_true p22;replace q22:=eq_true q22;have p24:0≤(x3_1:Int):=cG;have q24:x3_1 < (a0.size:Int):=cG;have hx24:=eX a0 x3_1;replace p24:=eq_true p24;replace q24:=eq_true q24;go_wp2
       go_roundg k1
       case measure=>have:=HK1.out;omega
       case rel=>exact ⟨(wrap64 (x3_1+1)),bE,H',⟨aT⟩,⟨aA⟩⟩
      rw[if_neg c25] at H;have c25b0:=beq_eq_false_iff_ne.mpr c25;have c25b1:=bne_iff_ne.mpr c25;obtain rfl:=Option.some.inj H;have p4:0≤(x3_1:Int):=cG;have q4:x3_1 < (a0.size:Int):=cG;have hx4:=eX a0 x3_1;replace p4:=eq_true p4;replace q4:=eq_true q4;have p18:0≤(x3_1:Int):=cG;have q18:x3_1 < (a0.size:Int):=cG;have hx18:=eX a0 x3_1;replace p18:=eq_true p18;replace q18:=eq_true q18;have p22:0≤(x3_1:Int):=cG
      have q22:x3_1 < (a0.size:Int):=cG;have hx22:=eX a0 x3_1;replace p22:=eq_true p22;replace q22:=eq_true q22;have p24:0≤(x3_1:Int):=cG;have q24:x3_1 < (a0.size:Int):=cG;have hx24:=eX a0 x3_1;replace p24:=eq_true p24;replace q24:=eq_true q24;go_wp2;go_ret;exact ⟨aC,aA⟩
     rw[if_neg c23] at H;have c23b0:=decide_eq_false c23;clear c23;have H':=cH H;clear H;have p4:0≤(x3_1:Int):=cG;have q4:x3_1 < (a0.size:Int):=cG;have hx4:=eX a0 x3_1;replace p4:=eq_true p4;replace q4:=eq_true q4;have p18:0≤(x3_1:Int):=cG;have q18:x3_1 < (a0.size:Int):=cG;have hx18:=eX a0 x3_1;replace p18:=eq_true p18;replace q18:=eq_true q18;have p22:0≤(x3_1:Int):=cG
     have q22:x3_1 < (a0.size:Int):=cG;have hx22:=eX a0 x3_1;replace p22:=eq_true p22;replace q22:=eq_true q22;go_wp2
     go_roundg k1
     case measure=>have:=HK1.out;omega
     case rel=>exact ⟨(wrap64 (x3_1+1)),bE,H',⟨aT⟩,⟨aA⟩⟩
    rw[if_neg c3] at H;exact absurd H bJ
   rw[if_neg c2] at H;have c2b0:=decide_eq_false c2;clear c2
   by_cases c26:a0.toList=([]:List UInt8)
   ·rw[if_pos c26] at H;have c26b0:=beq_iff_eq.mpr c26;have c26b1:=bne_eq_false_iff_eq.mpr c26;clear c26;obtain rfl:=Option.some.inj H;go_wp2;go_ret;exact ⟨aC,aA⟩
   rw[if_neg c26] at H;have c26b0:=beq_eq_false_iff_ne.mpr c26;have c26b1:=bne_iff_ne.mpr c26
   by_cases c27:a0.toList=([105,110,100,101,120]:List UInt8)
   ·rw[if_pos c27] at H;have c27b0:=beq_iff_eq.mpr c27;have c27b1:=bne_eq_false_iff_eq.mpr c27;clear c27;obtain rfl:=Option.some.inj H;go_wp2;go_ret;exact ⟨aC,aA⟩
   rw[if_neg c27] at H;have c27b0:=beq_eq_false_iff_ne.mpr c27;have c27b1:=bne_iff_ne.mpr c27
   by_cases c28:a0.toList=([98,97,115,101,111,102]:List UInt8)
   ·rw[if_pos c28] at H;have c28b0:=beq_iff_eq.mpr c28;have c28b1:=bne_eq_false_iff_eq.mpr c28;clear c28;obtain rfl:=Option.some.inj H;go_wp2;go_ret;exact ⟨aC,aA⟩
   rw[if_neg c28] at H;have c28b0:=beq_eq_false_iff_ne.mpr c28;have c28b1:=bne_iff_ne.mpr c28;replace H:=Option.bind_eq_some_iff.mp H;obtain ⟨t179,A290,H⟩:=H;have A29:=cH A290;clear A290;obtain rfl:=Option.some.inj H
   go_wp2_with (first | (go_at_call 55;(with_reducible refine (kM.calls a0 t179 _ A29.out).mono ?_);rintro e w30 ⟨rfl,hb⟩;replace HB:=cH (eB bC hb);(try clear hb);(try clear hb2);(try clear hk);(try clear hi)))
   go_ret;exact ⟨aC,aA⟩
def fF.Pure:Prop:=∀ (a0:ByteArray),a0.size≤140737488351232→∃ k,fF.f k a0=some true
theorem fF.walk (P:fF.Pure) (a0:ByteArray) (w:World) (w0:a0.size≤140737488351232) :
 Calls Tryz.prog 33 #[.string a0] w fun e w'=>e = .returned (.bool true)∧Below w.heap.size w w':=by
 obtain ⟨k,h⟩:=P a0 w0;refine (fF.calls k a0 true w h).mono ?_;rintro e w' ⟨rfl,hd⟩;exact ⟨rfl,hd⟩
def gT.l0:Nat→List ByteArray→List ByteArray→Int→Int→Option (Bool)
 | 0,_,_,_,_=>none
 | k+1,x0,x5,x6,x7=>if x7 < x6 then (if 0≤x7 then (if x7 < (x5.length:Int) then ((fF.f k (gE ByteArray.empty x5 x7)).bind fun t181=>(if t181=true then (gT.l0 k x0 x5 x6 (wrap64 (x7+1))) else (some false))) else (none)) else (none)) else ((gF.f k x0).bind fun t182=>(some t182))
def gT.f (k:Nat) (l0:List ByteArray):Option (Bool):=gT.l0 k l0 l0 (l0.length:Int) 0
theorem gT.mono_l:∀ k,(∀ y0 y1 y2 y3,LeO (gT.l0 k y0 y1 y2 y3) (gT.l0 (k+1) y0 y1 y2 y3))
 | 0=>fun _ _ _ _ r h=>by simp[gT.l0] at h
 | k+1=>by
  have ih0:=gT.mono_l k
  intro y0 y1 y2 y3;unfold gT.l0
  exact dJ
theorem gT.mono:∀ a0 k,LeO (gT.f k a0) (gT.f (k+1) a0):=by
 intro a0 k;have ih0:=gT.mono_l k;unfold gT.f
 exact dJ
theorem gT.calls (k:Nat) (A0:Option Addr) (c0:Nat) (l0:List ByteArray) (r:Bool) (w:World) (hr0:Kd.C Kd.string w A0 l0.length l0) (hc0:l0.length≤c0) (h:gT.f k l0=some r) :
 Calls Tryz.prog 26 #[.slice A0 l0.length c0] w fun e w'=>e = .returned (.bool r)∧Below w.heap.size w w':=by
 have HR0:=cH hr0;have HC0:=cH hc0;clear hr0 hc0;have HB:=cH (Below.refl w.heap.size w);unfold gT.f at h;have H:=h;clear h;have H':=cH H;clear H;go_enter Tryz.func26,Tryz.ntmps26;go_wp2
 go_loopg [7] k (fun kq v7 w'=>∃ (x7_1:Int),v7 = .int .i64 x7_1∧Aside0 (gT.l0 kq l0 l0 (l0.length:Int) x7_1=some r)∧Aside0 (kq≤k)∧Aside0 (Below w.heap.size w w'))
 case atStart=>exact ⟨(0),bE,H',⟨Nat.le_refl _⟩,⟨aA⟩⟩
 case round =>
  clear H';obtain ⟨x7_1,rfl,HA,HK1,HB⟩:=hrel
  cases gk with
  | zero=>exact absurd HA.out (by simp[gT.l0])
  | succ k1 =>
   have H:=HA.out;clear HA;simp only[gT.l0] at H
   by_cases c2:x7_1 < (l0.length:Int)
   ·rw[if_pos c2] at H;have c2b0:=decide_eq_true c2;clear c2
    by_cases c3:0≤x7_1
    ·rw[if_pos c3] at H;have c3b0:=decide_eq_true c3;clear c3
     by_cases c4:x7_1 < (l0.length:Int)
     ·rw[if_pos c4] at H;have c4b0:=decide_eq_true c4;clear c4;replace H:=Option.bind_eq_some_iff.mp H;obtain ⟨t181,A50,H⟩:=H;have A5:=cH A50;clear A50
      by_cases c6:t181=true
      ·subst c6;rw[if_pos rfl] at H;have H':=cH H;clear H;have p180:0≤(x7_1:Int):=cG;have q180:x7_1 < (l0.length:Int):=cG;obtain ⟨ad180,e180,hx180_0⟩:=Kd.at_string HR0.out x7_1 p180 q180;cases e180;replace hx180_0:=(HB.out.cell (World.block_lt_of_cell? w _ hx180_0)).trans hx180_0;replace p180:=eq_true p180;replace q180:=eq_true q180
       go_wp2_with (first | ((with_reducible refine fE (f:=33) rfl ?_);refine gP (some 12) rfl rfl Tryz.func33 bB rfl #[.string (gE ByteArray.empty l0 x7_1)] rfl bD ?_;(with_reducible refine (fF.calls k1 (gE ByteArray.empty l0 x7_1) true _ A5.out).mono ?_);rintro e w7 ⟨rfl,hb⟩;refine ⟨_,rfl,?_⟩;replace HB:=cH (eB bC hb);(try clear hb);(try clear hb2);(try clear hk);(try clear hi)))
       go_roundg k1
       case measure=>have:=HK1.out;omega
       case rel=>exact ⟨(wrap64 (x7_1+1)),bE,H',⟨aT⟩,⟨aA⟩⟩
      replace c6:=Bool.eq_false_iff.mpr c6;subst c6;rw[if_neg (show ¬ (false=true) by decide)] at H;obtain rfl:=Option.some.inj H;have p180:0≤(x7_1:Int):=cG;have q180:x7_1 < (l0.length:Int):=cG;obtain ⟨ad180,e180,hx180_0⟩:=Kd.at_string HR0.out x7_1 p180 q180;cases e180;replace hx180_0:=(HB.out.cell (World.block_lt_of_cell? w _ hx180_0)).trans hx180_0;replace p180:=eq_true p180;replace q180:=eq_true q180
      go_wp2_with (first | ((with_reducible refine fE (f:=33) rfl ?_);refine gP (some 12) rfl rfl Tryz.func33 bB rfl #[.string (gE ByteArray.empty l0 x7_1)] rfl bD ?_;(with_reducible refine (fF.calls k1 (gE ByteArray.empty l0 x7_1) false _ A5.out).mono ?_);rintro e w8 ⟨rfl,hb⟩;refine ⟨_,rfl,?_⟩;replace HB:=cH (eB bC hb);(try clear hb);(try clear hb2);(try clear hk);(try clear hi)))
      go_ret;exact ⟨aC,aA⟩
     rw[if_neg c4] at H;exact absurd H bJ
    rw[if_neg c3] at H;exact absurd H bJ
   rw[if_neg c2] at H;have c2b0:=decide_eq_false c2;clear c2;replace H:=Option.bind_eq_some_iff.mp H;obtain ⟨t182,A90,H⟩:=H;have A9:=cH A90;clear A90;obtain rfl:=Option.some.inj H
   go_wp2_with (first | ((with_reducible refine fE (f:=48) rfl ?_);refine gP (some 16) rfl rfl Tryz.func48 bB rfl #[.slice A0 l0.length c0] rfl bD ?_;(with_reducible refine (gF.calls k1 _ _ l0 t182 _ ?side1 ?side2 A9.out).mono ?_);(case side1=>repeat (first | exact (Kd.C_below HR0.out HB.out) | (with_reducible refine Kd.C_alloc ?_ _) | (with_reducible refine Kd.C_drewN ?_ _) | (with_reducible refine Kd.C_drew ?_)));(case side2=>exact HC0.out);rintro e w' ⟨rfl,⟨nd,rfl⟩⟩;refine ⟨_,rfl,?_⟩))
   go_ret;exact ⟨aC,aA⟩
def gR.l0:Nat→ByteArray→List ByteArray→Int→Int→Option (ByteArray)
 | 0,_,_,_,_=>none
 | k+1,x3,x6,x7,x8=>if x8 < x7 then (if 0≤x8 then (if x8 < (x6.length:Int) then (if 1+(gE ByteArray.empty x6 x8).size≤9223372036854775807 then (if x3.size+((⟨#[47]⟩:ByteArray)++(gE ByteArray.empty x6 x8)).size≤9223372036854775807 then (gR.l0 k (x3++((⟨#[47]⟩:ByteArray)++(gE ByteArray.empty x6 x8))) x6 x7 (wrap64 (x8+1))) else (none)) else (none)) else (none)) else (none)) else (some x3)
def gR.f (k:Nat) (l0:List ByteArray):Option (ByteArray):=gR.l0 k (⟨#[]⟩:ByteArray) l0 (l0.length:Int) 0
theorem gR.mono_l:∀ k,(∀ y0 y1 y2 y3,LeO (gR.l0 k y0 y1 y2 y3) (gR.l0 (k+1) y0 y1 y2 y3))
 | 0=>fun _ _ _ _ r h=>by simp[gR.l0] at h
 | k+1=>by
  have ih0:=gR.mono_l k
  intro y0 y1 y2 y3;unfold gR.l0
  exact dA
theorem gR.mono:∀ a0 k,LeO (gR.f k a0) (gR.f (k+1) a0):=by
 intro a0 k;have ih0:=gR.mono_l k;unfold gR.f
 exact dA
theorem gR.calls (k:Nat) (A0:Option Addr) (c0:Nat) (l0:List ByteArray) (r:ByteArray) (w:World) (hr0:Kd.C Kd.string w A0 l0.length l0) (hc0:l0.length≤c0) (h:gR.f k l0=some r) :
 Calls Tryz.prog 28 #[.slice A0 l0.length c0] w fun e w'=>e = .returned (.string r)∧eW w w':=by
 have HR0:=cH hr0;have HC0:=cH hc0;clear hr0 hc0;unfold gR.f at h;have H:=h;clear h;have H':=cH H;clear H;go_enter Tryz.func28,Tryz.ntmps28;go_wp2
 go_loopg [3,8] k (fun kq v3 v8 w'=>∃ (x3_1:ByteArray) (x8_1:Int),v3 = .string x3_1∧v8 = .int .i64 x8_1∧Aside0 (gR.l0 kq x3_1 l0 (l0.length:Int) x8_1=some r)∧Aside0 (kq≤k)∧eW w w')
 case atStart=>exact ⟨((⟨#[]⟩:ByteArray)),(0),bE,bE,H',⟨Nat.le_refl _⟩,dM⟩
 case round =>
  clear H';obtain ⟨x3_1,x8_1,rfl,rfl,HA,HK1,⟨m1,rfl⟩⟩:=hrel
  cases gk with
  | zero=>exact absurd HA.out (by simp[gR.l0])
  | succ k1 =>
   have H:=HA.out;clear HA;simp only[gR.l0] at H
   by_cases c2:x8_1 < (l0.length:Int)
   ·rw[if_pos c2] at H;have c2b0:=decide_eq_true c2;clear c2
    by_cases c3:0≤x8_1
    ·rw[if_pos c3] at H;have c3b0:=decide_eq_true c3;clear c3
     by_cases c4:x8_1 < (l0.length:Int)
     ·rw[if_pos c4] at H;have c4b0:=decide_eq_true c4;clear c4
      by_cases c5:1+(gE ByteArray.empty l0 x8_1).size≤9223372036854775807
      ·rw[if_pos c5] at H;have c5b0:=eq_true c5;have c5b1:=decide_eq_true c5
       try have c5b2:(9223372036854775807 < 1+(gE ByteArray.empty l0 x8_1).size)=False:=eq_false (Nat.not_lt.2 c5)
       by_cases c6:x3_1.size+((⟨#[47]⟩:ByteArray)++(gE ByteArray.empty l0 x8_1)).size≤9223372036854775807
       ·rw[if_pos c6] at H;have c6b0:=eq_true c6;have c6b1:=decide_eq_true c6
        try have c6b2:(9223372036854775807 < x3_1.size+((⟨#[47]⟩:ByteArray)++(gE ByteArray.empty l0 x8_1)).size)=False:=eq_false (Nat.not_lt.2 c6)
        have H':=cH H;clear H;have p183:0≤(x8_1:Int):=cG;have q183:x8_1 < (l0.length:Int):=cG;obtain ⟨ad183,e183,hx183_0⟩:=Kd.at_string HR0.out x8_1 p183 q183;cases e183;replace p183:=eq_true p183;replace q183:=eq_true q183;go_wp2
        go_roundg k1
        case measure=>have:=HK1.out;omega
        case rel=>exact ⟨(x3_1++((⟨#[47]⟩:ByteArray)++(gE ByteArray.empty l0 x8_1))),(wrap64 (x8_1+1)),bE,bE,H',⟨aT⟩,dM⟩
       rw[if_neg c6] at H;exact absurd H bJ
      rw[if_neg c5] at H;exact absurd H bJ
     rw[if_neg c4] at H;exact absurd H bJ
    rw[if_neg c3] at H;exact absurd H bJ
   rw[if_neg c2] at H;have c2b0:=decide_eq_false c2;clear c2;obtain rfl:=Option.some.inj H;go_wp2;go_ret;exact ⟨bE,dM⟩
def pQ.f (l0:List ByteArray):Option (ByteArray):=if (l0.length:Int)=0 then (some (⟨#[]⟩:ByteArray)) else (if 0≤(wrap64 ((l0.length:Int) - 1)) then (if (wrap64 ((l0.length:Int) - 1)) < (l0.length:Int) then (some (gE ByteArray.empty l0 (wrap64 ((l0.length:Int) - 1)))) else (none)) else (none))
theorem pQ.calls (A0:Option Addr) (c0:Nat) (l0:List ByteArray) (r:ByteArray) (w:World) (hr0:Kd.C Kd.string w A0 l0.length l0) (hc0:l0.length≤c0) (h:pQ.f l0=some r) :
 Calls Tryz.prog 31 #[.slice A0 l0.length c0] w fun e w'=>e = .returned (.string r)∧eW w w':=by
 have HR0:=cH hr0;have HC0:=cH hc0;clear hr0 hc0;unfold pQ.f at h;have H:=h;clear h
 by_cases c2:(l0.length:Int)=0
 ·rw[if_pos c2] at H;have c2b0:=beq_iff_eq.mpr c2;have c2b1:=bne_eq_false_iff_eq.mpr c2;clear c2;obtain rfl:=Option.some.inj H;go_enter Tryz.func31,Tryz.ntmps31;go_wp2;go_ret;exact ⟨bE,dM⟩
 rw[if_neg c2] at H;have c2b0:=beq_eq_false_iff_ne.mpr c2;have c2b1:=bne_iff_ne.mpr c2;have c2b2:¬ (l0=[]):=fun h_=>c2 (by rw[h_];rfl)
 obtain ⟨ji3,hji3⟩:∃ j_:Int,(wrap64 ((l0.length:Int) - 1))=j_:=⟨_,rfl⟩
 replace H:(if 0≤(ji3) then (if (ji3) < (l0.length:Int) then (some (gE ByteArray.empty l0 (ji3))) else (none)) else (none))=some r:=by first | (rw[hji3] at H;exact H) | (simp only[hji3] at H ⊢;exact H)
 have hji3w:(IntKind.i64.wrap ((l0.length:Int) - 1))=ji3:=(jZ _).trans hji3
 by_cases c4:0≤(ji3)
 ·rw[if_pos c4] at H;have c4b0:=decide_eq_true c4;clear c4
  by_cases c5:(ji3) < (l0.length:Int)
  ·rw[if_pos c5] at H;have c5b0:=decide_eq_true c5;clear c5;obtain rfl:=Option.some.inj H;have p184:0≤((ji3):Int):=cG;have q184:(ji3) < (l0.length:Int):=cG;obtain ⟨ad184,e184,hx184_0⟩:=Kd.at_string HR0.out (ji3) p184 q184;cases e184;replace p184:=eq_true p184;replace q184:=eq_true q184;go_enter Tryz.func31,Tryz.ntmps31;go_wp2;go_ret;exact ⟨by first | rfl | (simp;done) | (simp only[← hji3] <;> (first | rfl | simp)) | (simp[*];done),dM⟩
  rw[if_neg c5] at H;exact absurd H bJ
 rw[if_neg c4] at H;exact absurd H bJ
def mQ.f (l0:List ByteArray):Option (ByteArray):=if (l0.length:Int)=0 then (some (⟨#[]⟩:ByteArray)) else (if 0 < (l0.length:Int) then (some (gE ByteArray.empty l0 0)) else (none))
theorem mQ.calls (A0:Option Addr) (c0:Nat) (l0:List ByteArray) (r:ByteArray) (w:World) (hr0:Kd.C Kd.string w A0 l0.length l0) (hc0:l0.length≤c0) (h:mQ.f l0=some r) :
 Calls Tryz.prog 30 #[.slice A0 l0.length c0] w fun e w'=>e = .returned (.string r)∧eW w w':=by
 have HR0:=cH hr0;have HC0:=cH hc0;clear hr0 hc0;unfold mQ.f at h;have H:=h;clear h
 by_cases c2:(l0.length:Int)=0
 ·rw[if_pos c2] at H;have c2b0:=beq_iff_eq.mpr c2;have c2b1:=bne_eq_false_iff_eq.mpr c2;clear c2;obtain rfl:=Option.some.inj H;go_enter Tryz.func30,Tryz.ntmps30;go_wp2;go_ret;exact ⟨bE,dM⟩
 rw[if_neg c2] at H;have c2b0:=beq_eq_false_iff_ne.mpr c2;have c2b1:=bne_iff_ne.mpr c2;have c2b2:¬ (l0=[]):=fun h_=>c2 (by rw[h_];rfl)
 by_cases c3:0 < (l0.length:Int)
 ·rw[if_pos c3] at H;have c3b0:=decide_eq_true c3;have c3b1:decide (0 < l0.length)=true:=decide_eq_true bA;clear c3;obtain rfl:=Option.some.inj H
  have p185:0≤(0:Int):=bA
  have q185:0 < (l0.length:Int):=cG;obtain ⟨ad185,e185,hx185_0⟩:=Kd.at_string HR0.out 0 p185 q185;cases e185;have qi185:(0 < l0.length)=True:=eq_true bA
  (try rw[show ((0:Int)).toNat=0 from rfl] at hx185_0)
  (try rw[Addr.add_zero'] at hx185_0)
  replace p185:=eq_true p185;replace q185:=eq_true q185;go_enter Tryz.func30,Tryz.ntmps30;go_wp2;go_ret;exact ⟨bE,dM⟩
 rw[if_neg c3] at H;exact absurd H bJ
def oF.f (a0:ByteArray):Option (ByteArray):=if a0.toList=([]:List UInt8) then (some (⟨#[47]⟩:ByteArray)) else (some a0)
theorem oF.calls (a0:ByteArray) (r:ByteArray) (w:World) (h:oF.f a0=some r) :
 Calls Tryz.prog 32 #[.string a0] w fun e w'=>e = .returned (.string r)∧eW w w':=by
 unfold oF.f at h;have H:=h;clear h
 by_cases c2:a0.toList=([]:List UInt8)
 ·rw[if_pos c2] at H;have c2b0:=beq_iff_eq.mpr c2;have c2b1:=bne_eq_false_iff_eq.mpr c2;clear c2;obtain rfl:=Option.some.inj H;go_enter Tryz.func32,Tryz.ntmps32;go_wp2;go_ret;exact ⟨bE,dM⟩
 rw[if_neg c2] at H;have c2b0:=beq_eq_false_iff_ne.mpr c2;have c2b1:=bne_iff_ne.mpr c2;obtain rfl:=Option.some.inj H;go_enter Tryz.func32,Tryz.ntmps32;go_wp2;go_ret;exact ⟨bE,dM⟩
end Go.Proofs.YtcdgldnphhidlaaGreatDoor.PCore
