/- Texts that the law leans on: PCorex6, PCorex7, PCorex8, PCorex9. Condition: as told at each. -/
import Derived.Test.YtcdgldnphhidlaaGreatDoorQa
import Derived.Test.YtcdgldnphhidlaaGreatDoorQ10
set_option linter.unusedVariables false
set_option linter.unusedSimpArgs false
set_option maxRecDepth 100000
set_option maxHeartbeats 16000000
namespace Go.Proofs.YtcdgldnphhidlaaGreatDoor.PCore
open Go.RowKit Go.ZW.PrintWords Go.ZW.PrintLast Go.ZW.PrintMore
attribute [local go_sem] kO kQ lO lP jX jY kP kR   -- for this text's walks alone
mutual
def eC.l0:Nat→ByteArray→List Int→Int→Option (List Int)
 | 0,_,_,_=>none
 | k+1,x0,x4,x5=>if x5 < (x0.size:Int) then (if (wrap64 (x5+2)) < (x0.size:Int) then (if 0≤x5 then (if (bt x0 x5)=46 then (if 0≤(wrap64 (x5+1)) then (if (wrap64 (x5+1)) < (x0.size:Int) then (eC.j1 k x0 x4 x5 ((bt x0 (wrap64 (x5+1)))==95)) else (none)) else (none)) else (eC.j1 k x0 x4 x5 false)) else (none)) else (eC.j1 k x0 x4 x5 false)) else (some x4)
def eC.j1:Nat→ByteArray→List Int→Int→Bool→Option (List Int)
 | 0,_,_,_,_=>none
 | k+1,x0,x4,x5,x35=>if x35=true then (eC.l1 k x0 x4 x5 (-1) (wrap64 (x5+2))) else (eC.l0 k x0 x4 (wrap64 (x5+1)))
def eC.j3:Nat→ByteArray→List Int→Int→Int→Option (List Int)
 | 0,_,_,_,_=>none
 | k+1,x0,x4,x5,x6=>if x6=(-1) then (eC.l0 k x0 x4 (wrap64 (x5+1))) else (eC.l2 k x0 x4 x6 (wrap64 (x5+2)))
def eC.l2:Nat→ByteArray→List Int→Int→Int→Option (List Int)
 | 0,_,_,_,_=>none
 | k+1,x0,x4,x6,x8=>if x8 < x6 then (if 0≤x8 then (if x8 < (x0.size:Int) then (if (bt x0 x8)=46 then (if x4.length < 17592186044416 then (eC.l2 k x0 (x4++[x8]) x6 (wrap64 (x8+1))) else (none)) else (eC.l2 k x0 x4 x6 (wrap64 (x8+1)))) else (none)) else (none)) else (eC.l0 k x0 x4 (wrap64 (x6+1)))
def eC.l1:Nat→ByteArray→List Int→Int→Int→Int→Option (List Int)
 | 0,_,_,_,_,_=>none
 | k+1,x0,x4,x5,x6,x7=>if x7 < (x0.size:Int) then (if 0≤x7 then (if (bt x0 x7)=47 then (eC.j3 k x0 x4 x5 x6) else (if (bt x0 x7)=95 then (if (wrap64 (x7+1))≥(x0.size:Int) then (eC.j3 k x0 x4 x5 x7) else (if 0≤(wrap64 (x7+1)) then (if (wrap64 (x7+1)) < (x0.size:Int) then (if (bt x0 (wrap64 (x7+1)))=46 then (eC.j3 k x0 x4 x5 x7) else (eC.l1 k x0 x4 x5 x6 (wrap64 (x7+1)))) else (none)) else (none))) else (eC.l1 k x0 x4 x5 x6 (wrap64 (x7+1))))) else (none)) else (eC.j3 k x0 x4 x5 x6)
end
def eC.f (k:Nat) (a0:ByteArray):Option (List Int):=(strings_LastIndex.f a0 (⟨#[47]⟩:ByteArray)).bind fun t170=>(if t170=(-1) then (some ([]:List Int)) else (eC.l0 k a0 ([]:List Int) t170))
theorem eC.mono_l:∀ k,(∀ y0 y1 y2,LeO (eC.l0 k y0 y1 y2) (eC.l0 (k+1) y0 y1 y2))∧(∀ y0 y1 y2 y3,LeO (eC.j1 k y0 y1 y2 y3) (eC.j1 (k+1) y0 y1 y2 y3))∧(∀ y0 y1 y2 y3,LeO (eC.j3 k y0 y1 y2 y3) (eC.j3 (k+1) y0 y1 y2 y3))∧(∀ y0 y1 y2 y3,LeO (eC.l2 k y0 y1 y2 y3) (eC.l2 (k+1) y0 y1 y2 y3))∧(∀ y0 y1 y2 y3 y4,LeO (eC.l1 k y0 y1 y2 y3 y4) (eC.l1 (k+1) y0 y1 y2 y3 y4))
 | 0=>⟨fun _ _ _ r h=>by simp[eC.l0] at h,fun _ _ _ _ r h=>by simp[eC.j1] at h,fun _ _ _ _ r h=>by simp[eC.j3] at h,fun _ _ _ _ r h=>by simp[eC.l2] at h,fun _ _ _ _ _ r h=>by simp[eC.l1] at h⟩
 | k+1=>by
  obtain ⟨ih0,ih1,ih2,ih3,ih4⟩:=eC.mono_l k;refine ⟨?_,?_,?_,?_,?_⟩
  ·intro y0 y1 y2;unfold eC.l0
   exact dI
  ·intro y0 y1 y2 y3;unfold eC.j1
   exact dI
  ·intro y0 y1 y2 y3;unfold eC.j3
   exact dI
  ·intro y0 y1 y2 y3;unfold eC.l2
   exact dI
  intro y0 y1 y2 y3 y4;unfold eC.l1
  exact dI
theorem eC.mono:∀ a0 k,LeO (eC.f k a0) (eC.f (k+1) a0):=by
 intro a0 k;obtain ⟨ih0,ih1,ih2,ih3,ih4⟩:=eC.mono_l k;unfold eC.f
 exact dI
theorem eC.calls (k:Nat) (a0:ByteArray) (r:List Int) (w:World) (h:eC.f k a0=some r) :
 Calls Tryz.prog 159 #[.string a0] w fun e w'=>∃ v0_:Value,e = .returned (v0_)∧Kd.R (Kd.int .i64) 3 w' w.heap.size (fun _=>True) v0_ r∧Below w.heap.size w w':=by
 have HB:=cB (Below.refl w.heap.size w);unfold eC.f at h;have H:=h;clear h;replace H:=Option.bind_eq_some_iff.mp H;obtain ⟨t170,A20,H⟩:=H;have A2:=cB A20;clear A20
 by_cases c3:t170=(-1)
 ·rw[if_pos c3] at H;have c3b0:=beq_iff_eq.mpr c3;have c3b1:=bne_eq_false_iff_eq.mpr c3;clear c3;obtain rfl:=Option.some.inj H;go_enter Tryz.func159,Tryz.ntmps159
  go_wp2_with (first | ((with_reducible refine eT (f:=160) rfl ?_);refine fY (some 10) rfl rfl Tryz.func160 bB rfl #[.string a0,.string (⟨#[47]⟩:ByteArray)] rfl bD ?_;(with_reducible refine (strings_LastIndex.calls a0 (⟨#[47]⟩:ByteArray) t170 _ A2.out).mono ?_);rintro e w' ⟨rfl,⟨nd,rfl⟩⟩;refine ⟨_,rfl,?_⟩))
  go_ret;exact ⟨_,aC,by first | exact Kd.R_nil _ _ _ _ _ | exact Kd.N_nil _ _ _ _ _ | exact Kd.V_nil _ _ _ _ _ | exact Kd.Q_nil _ _ _ _ _ | exact Kd.S_nil _ _ _ _ _,aA⟩
 rw[if_neg c3] at H;have c3b0:=beq_eq_false_iff_ne.mpr c3;have c3b1:=bne_iff_ne.mpr c3;have H':=cB H;clear H;go_enter Tryz.func159,Tryz.ntmps159
 go_wp2_with (first | ((with_reducible refine eT (f:=160) rfl ?_);refine fY (some 10) rfl rfl Tryz.func160 bB rfl #[.string a0,.string (⟨#[47]⟩:ByteArray)] rfl bD ?_;(with_reducible refine (strings_LastIndex.calls a0 (⟨#[47]⟩:ByteArray) t170 _ A2.out).mono ?_);rintro e w' ⟨rfl,⟨nd,rfl⟩⟩;refine ⟨_,rfl,?_⟩))
 go_loopg [4,5] k (fun kq v4 v5 w'=>∃ (x4_1:List Int) (x5_1:Int),v5 = .int .i64 x5_1∧Aside0 (eC.l0 kq a0 x4_1 x5_1=some r)∧Aside0 (kq≤k)∧Aside0 (Kd.R (Kd.int .i64) 3 w' w.heap.size (fun _=>True) v4 x4_1)∧Aside0 (Below w.heap.size w w'))
 case atStart=>exact ⟨(([]:List Int)),(t170),bE,H',⟨Nat.le_refl _⟩,⟨by first | exact Kd.R_nil _ _ _ _ _ | exact Kd.N_nil _ _ _ _ _ | exact Kd.V_nil _ _ _ _ _ | exact Kd.Q_nil _ _ _ _ _ | exact Kd.S_nil _ _ _ _ _⟩,⟨aA⟩⟩
 case round =>
  clear H'
  (try clear c3);(try clear c3b0);(try clear c3b1)
  obtain ⟨x4_1,x5_1,rfl,HA,HK1,HO_4,HB⟩:=hrel
  cases gk with
  | zero=>exact absurd HA.out (by simp[eC.l0])
  | succ k1 =>
   have H:=HA.out;clear HA;simp only[eC.l0] at H
   by_cases c4:x5_1 < (a0.size:Int)
   ·rw[if_pos c4] at H;have c4b0:=decide_eq_true c4;clear c4;have HC5:=cB H;clear H
    go_upto_region 7 with (fail)
    go_cut [35] (fun v35 wc=>∃ (kq:Nat) (x35_4:Bool),v35 = .bool x35_4∧Aside0 (eC.j1 kq a0 x4_1 x5_1 x35_4=some r)∧Aside0 (kq≤k1)∧Aside0 (Kd.R (Kd.int .i64) 3 wc w.heap.size (fun _=>True) u4 x4_1)∧Aside0 (Below w.heap.size w wc))
    case first =>
     have H:=HC5.out;clear HC5
     by_cases c6:(wrap64 (x5_1+2)) < (a0.size:Int)
     ·rw[if_pos c6] at H;have c6b0:=decide_eq_true c6;clear c6
      (first | rw[c6b0] | (simp only[hL,iR];rw[c6b0]) | skip)
      by_cases c7:0≤x5_1
      ·rw[if_pos c7] at H;have c7b0:=decide_eq_true c7;clear c7
       by_cases c9:(bt a0 x5_1)=46
       ·rw[if_pos c9] at H;have c9b0:=beq_iff_eq.mpr c9;have c9b1:=bne_eq_false_iff_eq.mpr c9;clear c9
        obtain ⟨ji10,hji10⟩:∃ j_:Int,(wrap64 (x5_1+1))=j_:=⟨_,rfl⟩
        replace H:(if 0≤(ji10) then (if (ji10) < (a0.size:Int) then (eC.j1 k1 a0 x4_1 x5_1 ((bt a0 (ji10))==95)) else (none)) else (none))=some r:=by first | (rw[hji10] at H;exact H) | (simp only[hji10] at H ⊢;exact H)
        have hji10w:(IntKind.i64.wrap (x5_1+1))=ji10:=(hL _).trans hji10
        by_cases c11:0≤(ji10)
        ·rw[if_pos c11] at H;have c11b0:=decide_eq_true c11;clear c11
         by_cases c12:(ji10) < (a0.size:Int)
         ·rw[if_pos c12] at H;have c12b0:=decide_eq_true c12;clear c12;have H':=cB H;clear H;have p8:0≤(x5_1:Int):=cA;have q8:x5_1 < (a0.size:Int):=cA;have hx8:=fQ a0 x5_1;replace p8:=eq_true p8;replace q8:=eq_true q8;have p13:0≤((ji10):Int):=cA;have q13:(ji10) < (a0.size:Int):=cA;have hx13:=fQ a0 (ji10);replace p13:=eq_true p13;replace q13:=eq_true q13;go_wp2
          go_meet
          case rel=>exact ⟨_,(((bt a0 (ji10))==95)),(by first | rfl | (simp;done) | (simp only[← hji10] <;> (first | rfl | simp)) | (simp[*];done)),H',⟨dW⟩,⟨aG⟩,⟨aA⟩⟩
         rw[if_neg c12] at H;exact absurd H bI
        rw[if_neg c11] at H;exact absurd H bI
       rw[if_neg c9] at H;have c9b0:=beq_eq_false_iff_ne.mpr c9;have c9b1:=bne_iff_ne.mpr c9;have H':=cB H;clear H;have p8:0≤(x5_1:Int):=cA;have q8:x5_1 < (a0.size:Int):=cA;have hx8:=fQ a0 x5_1;replace p8:=eq_true p8;replace q8:=eq_true q8;go_wp2
       go_meet
       case rel=>exact ⟨_,(false),bE,H',⟨dW⟩,⟨aG⟩,⟨aA⟩⟩
      rw[if_neg c7] at H;exact absurd H bI
     rw[if_neg c6] at H;have c6b0:=decide_eq_false c6;clear c6
     (first | rw[c6b0] | (simp only[hL,iR];rw[c6b0]) | skip)
     have H':=cB H;clear H;go_wp2
     go_meet
     case rel=>exact ⟨_,(false),bE,H',⟨dW⟩,⟨aG⟩,⟨aA⟩⟩
    clear HC5
    (try clear c3);(try clear c3b0);(try clear c3b1);(try clear c4);(try clear c4b0)
    obtain ⟨kq,x35_4,rfl,HA,HJ4,HO_4,HB⟩:=hcut
    cases kq with
    | zero=>exact absurd HA.out (by simp[eC.j1])
    | succ kj4 =>
     have H:=HA.out;clear HA;simp only[eC.j1] at H
     by_cases c14:x35_4=true
     ·subst c14;rw[if_pos rfl] at H;have HC15:=cB H;clear H
      go_upto_block 2 with (fail)
      go_cut [6] (fun v6 wc=>∃ (kq:Nat) (x6_14:Int),v6 = .int .i64 x6_14∧Aside0 (eC.j3 kq a0 x4_1 x5_1 x6_14=some r)∧Aside0 (kq≤kj4)∧Aside0 (Kd.R (Kd.int .i64) 3 wc w.heap.size (fun _=>True) u4 x4_1)∧Aside0 (Below w.heap.size w wc))
      case first =>
       have H:=HC15.out;clear HC15;have H':=cB H;clear H;go_wp2
       go_loopg [6,7] kj4 (fun kq v6 v7 w'=>∃ (x6_3:Int) (x7_3:Int),v6 = .int .i64 x6_3∧v7 = .int .i64 x7_3∧Aside0 (eC.l1 kq a0 x4_1 x5_1 x6_3 x7_3=some r)∧Aside0 (kq≤kj4)∧Aside0 (Kd.R (Kd.int .i64) 3 w' w.heap.size (fun _=>True) u4 x4_1)∧Aside0 (Below w.heap.size w w'))
       case atStart=>exact ⟨((-1)),(wrap64 (x5_1+2)),bE,bE,H',⟨Nat.le_refl _⟩,⟨aG⟩,⟨aA⟩⟩
       case round =>
        clear H'
        (try clear c3);(try clear c3b0);(try clear c3b1);(try clear c4);(try clear c4b0);(try clear c14)
        obtain ⟨x6_3,x7_3,rfl,rfl,HA,HK3,HO_4,HB⟩:=hrel
        cases gk with
        | zero=>exact absurd HA.out (by simp[eC.l1])
        | succ k3 =>
         have H:=HA.out;clear HA;simp only[eC.l1] at H
         by_cases c16:x7_3 < (a0.size:Int)
         ·rw[if_pos c16] at H;have c16b0:=decide_eq_true c16;clear c16
          (first | rw[c16b0] | (simp only[hL,iR];rw[c16b0]) | skip)
          by_cases c17:0≤x7_3
          ·rw[if_pos c17] at H;have c17b0:=decide_eq_true c17;clear c17
           by_cases c19:(bt a0 x7_3)=47
           ·rw[if_pos c19] at H;have c19b0:=beq_iff_eq.mpr c19;have c19b1:=bne_eq_false_iff_eq.mpr c19;clear c19;have H':=cB H;clear H;have p18:0≤(x7_3:Int):=cA;have q18:x7_3 < (a0.size:Int):=cA;have hx18:=fQ a0 x7_3;replace p18:=eq_true p18;replace q18:=eq_true q18;go_wp2
            go_meet
            case rel=>exact ⟨_,(x6_3),bE,H',⟨dS⟩,⟨aG⟩,⟨aA⟩⟩
           rw[if_neg c19] at H;have c19b0:=beq_eq_false_iff_ne.mpr c19;have c19b1:=bne_iff_ne.mpr c19
           by_cases c21:(bt a0 x7_3)=95
           ·rw[if_pos c21] at H;have c21b0:=beq_iff_eq.mpr c21;have c21b1:=bne_eq_false_iff_eq.mpr c21;clear c21
            by_cases c22:(wrap64 (x7_3+1))≥(a0.size:Int)
            ·rw[if_pos c22] at H;have c22b0:=decide_eq_true c22;clear c22;have H':=cB H;clear H;have p18:0≤(x7_3:Int):=cA;have q18:x7_3 < (a0.size:Int):=cA;have hx18:=fQ a0 x7_3;replace p18:=eq_true p18;replace q18:=eq_true q18;have p20:0≤(x7_3:Int):=cA;have q20:x7_3 < (a0.size:Int):=cA;have hx20:=fQ a0 x7_3;replace p20:=eq_true p20;replace q20:=eq_true q20;go_wp2
             go_meet
             case rel=>exact ⟨_,(x7_3),bE,H',⟨dS⟩,⟨aG⟩,⟨aA⟩⟩
            rw[if_neg c22] at H;have c22b0:=decide_eq_false c22;clear c22
            obtain ⟨ji23,hji23⟩:∃ j_:Int,(wrap64 (x7_3+1))=j_:=⟨_,rfl⟩
            replace H:(if 0≤(ji23) then (if (ji23) < (a0.size:Int) then (if (bt a0 (ji23))=46 then (eC.j3 k3 a0 x4_1 x5_1 x7_3) else (eC.l1 k3 a0 x4_1 x5_1 x6_3 ji23)) else (none)) else (none))=some r:=by first | (rw[hji23] at H;exact H) | (simp only[hji23] at H ⊢;exact H)
            (try rw[hji23] at c22b0)
            have hji23w:(IntKind.i64.wrap (x7_3+1))=ji23:=(hL _).trans hji23
            by_cases c24:0≤(ji23)
            ·rw[if_pos c24] at H;have c24b0:=decide_eq_true c24;clear c24
             by_cases c25:(ji23) < (a0.size:Int)
             ·rw[if_pos c25] at H;have c25b0:=decide_eq_true c25;clear c25
              by_cases c27:(bt a0 (ji23))=46
              ·rw[if_pos c27] at H;have c27b0:=beq_iff_eq.mpr c27;have c27b1:=bne_eq_false_iff_eq.mpr c27;clear c27;have H':=cB H;clear H;have p18:0≤(x7_3:Int):=cA;have q18:x7_3 < (a0.size:Int):=cA;have hx18:=fQ a0 x7_3;replace p18:=eq_true p18;replace q18:=eq_true q18;have p20:0≤(x7_3:Int):=cA;have q20:x7_3 < (a0.size:Int):=cA;have hx20:=fQ a0 x7_3;replace p20:=eq_true p20;replace q20:=eq_true q20;have p26:0≤((ji23):Int):=cA
               have q26:(ji23) < (a0.size:Int):=cA;have hx26:=fQ a0 (ji23);replace p26:=eq_true p26;replace q26:=eq_true q26;go_wp2
               go_meet
               case rel=>exact ⟨_,(x7_3),bE,H',⟨dS⟩,⟨aG⟩,⟨aA⟩⟩
              rw[if_neg c27] at H;have c27b0:=beq_eq_false_iff_ne.mpr c27;have c27b1:=bne_iff_ne.mpr c27;have H':=cB H;clear H;have p18:0≤(x7_3:Int):=cA;have q18:x7_3 < (a0.size:Int):=cA;have hx18:=fQ a0 x7_3;replace p18:=eq_true p18;replace q18:=eq_true q18;have p20:0≤(x7_3:Int):=cA;have q20:x7_3 < (a0.size:Int):=cA;have hx20:=fQ a0 x7_3;replace p20:=eq_true p20;replace q20:=eq_true q20;have p26:0≤((ji23):Int):=cA
              have q26:(ji23) < (a0.size:Int):=cA;have hx26:=fQ a0 (ji23);replace p26:=eq_true p26;replace q26:=eq_true q26;go_wp2
              go_roundg k3
              case measure=>have:=HK1.out;have:=HJ4.out;have:=HK3.out;omega
              case rel=>exact ⟨(x6_3),(ji23),bE,(by first | rfl | (simp;done) | (simp only[← hji23] <;> (first | rfl | simp)) | (simp[*];done)),H',⟨by have:=HK1.out;have:=HJ4.out;have:=HK3.out;omega⟩,⟨aG⟩,⟨aA⟩⟩
             rw[if_neg c25] at H;exact absurd H bI
            rw[if_neg c24] at H;exact absurd H bI
           rw[if_neg c21] at H;have c21b0:=beq_eq_false_iff_ne.mpr c21;have c21b1:=bne_iff_ne.mpr c21;have H':=cB H;clear H;have p18:0≤(x7_3:Int):=cA;have q18:x7_3 < (a0.size:Int):=cA;have hx18:=fQ a0 x7_3;replace p18:=eq_true p18;replace q18:=eq_true q18;have p20:0≤(x7_3:Int):=cA;have q20:x7_3 < (a0.size:Int):=cA;have hx20:=fQ a0 x7_3;replace p20:=eq_true p20;replace q20:=eq_true q20;go_wp2
           go_roundg k3
           case measure=>have:=HK1.out;have:=HJ4.out;have:=HK3.out;omega
           case rel=>exact ⟨(x6_3),(wrap64 (x7_3+1)),bE,bE,H',⟨by have:=HK1.out;have:=HJ4.out;have:=HK3.out;omega⟩,⟨aG⟩,⟨aA⟩⟩
          rw[if_neg c17] at H;exact absurd H bI
         rw[if_neg c16] at H;have c16b0:=decide_eq_false c16;clear c16
         (first | rw[c16b0] | (simp only[hL,iR];rw[c16b0]) | skip)
         have H':=cB H;clear H;go_wp2
         go_meet
         case rel=>exact ⟨_,(x6_3),bE,H',⟨dS⟩,⟨aG⟩,⟨aA⟩⟩
      clear HC15
      (try clear c3);(try clear c3b0);(try clear c3b1);(try clear c4);(try clear c4b0);(try clear c14)
      obtain ⟨kq,x6_14,rfl,HA,HJ14,HO_4,HB⟩:=hcut
      cases kq with
      | zero=>exact absurd HA.out (by simp[eC.j3])
      | succ kj14 =>
       have H:=HA.out;clear HA;simp only[eC.j3] at H
       by_cases c28:x6_14=(-1)
       ·rw[if_pos c28] at H;have c28b0:=beq_iff_eq.mpr c28;have c28b1:=bne_eq_false_iff_eq.mpr c28;clear c28;have H':=cB H;clear H;go_wp2
        go_roundg kj14
        case measure=>have:=HK1.out;have:=HJ4.out;have:=HJ14.out;omega
        case rel=>exact ⟨(x4_1),(wrap64 (x5_1+1)),bE,H',⟨by have:=HK1.out;have:=HJ4.out;have:=HJ14.out;omega⟩,⟨aG⟩,⟨aA⟩⟩
       rw[if_neg c28] at H;have c28b0:=beq_eq_false_iff_ne.mpr c28;have c28b1:=bne_iff_ne.mpr c28;have H':=cB H;clear H;go_wp2
       go_loopg [4,8] kj14 (fun kq v4 v8 w'=>∃ (x4_4:List Int) (x8_4:Int),v8 = .int .i64 x8_4∧Aside0 (eC.l2 kq a0 x4_4 x6_14 x8_4=some r)∧Aside0 (kq≤kj14)∧Aside0 (Kd.R (Kd.int .i64) 3 w' w.heap.size (fun _=>True) v4 x4_4)∧Aside0 (Below w.heap.size w w'))
       case atStart=>exact ⟨(x4_1),(wrap64 (x5_1+2)),bE,H',⟨Nat.le_refl _⟩,⟨aG⟩,⟨aA⟩⟩
       case round =>
        clear H'
        (try clear c3);(try clear c3b0);(try clear c3b1);(try clear c4);(try clear c4b0);(try clear c14);(try clear c28);(try clear c28b0);(try clear c28b1)
        obtain ⟨x4_4,x8_4,rfl,HA,HK4,HO_4,HB⟩:=hrel
        cases gk with
        | zero=>exact absurd HA.out (by simp[eC.l2])
        | succ k4 =>
         have H:=HA.out;clear HA;simp only[eC.l2] at H
         by_cases c29:x8_4 < x6_14
         ·rw[if_pos c29] at H;have c29b0:=decide_eq_true c29;clear c29
          by_cases c30:0≤x8_4
          ·rw[if_pos c30] at H;have c30b0:=decide_eq_true c30;clear c30
           by_cases c31:x8_4 < (a0.size:Int)
           ·rw[if_pos c31] at H;have c31b0:=decide_eq_true c31;clear c31
            by_cases c33:(bt a0 x8_4)=46
            ·rw[if_pos c33] at H;have c33b0:=beq_iff_eq.mpr c33;have c33b1:=bne_eq_false_iff_eq.mpr c33;clear c33
             by_cases c34:x4_4.length < 17592186044416
             ·rw[if_pos c34] at H;have LMc34:=cB c34;clear c34
              obtain ⟨y171,hy171⟩:∃ y_:List Int,y_=(x4_4++[x8_4]):=⟨_,rfl⟩
              replace H:(eC.l2 k4 a0 y171 x6_14 (wrap64 (x8_4+1)))=some r:=by first | (rw[hy171];with_reducible exact H) | (have H2_:=(Option.bind_some _ _).symm.trans H;rw[hy171];with_reducible exact H2_) | (have H2_:=(Option.bind_some _ _).symm.trans H;with_reducible exact H2_) | with_reducible exact H | (rw[hy171];exact H) | exact H
              have Ny171:=cB hy171;clear hy171;have H':=cB H;clear H;have p32:0≤(x8_4:Int):=cA;have q32:x8_4 < (a0.size:Int):=cA;have hx32:=fQ a0 x8_4;replace p32:=eq_true p32;replace q32:=eq_true q32
              go_wp2_with (first | ((with_reducible refine oT (b:=.append) (xs:=#[.tmp 80,.tmp 82]) rfl ?_);(try (refine jB bH ?_;dsimp only));at_builtin;refine Kd.R_append (Kd.int .i64) (w0:=w) w.heap.size rfl (.tmp 80) (.tmp 82) 80 3 (.int .i64 0) 8 rfl Tryz.underlying80 info3 rfl bF bA u4 x4_4 x8_4 [.int .i64 x8_4] (fun _=>True) (fun _=>False) rfl rfl ?aP (fun _ hk=>hk.elim) ?aF ?aO ?aB ?aS ?aL ?_;(case aP=>exact rfl);(case aB=>exact bC);(case aF=>exact (fun _ _=>trivial));(case aO=>exact (by (with_reducible repeat (first | apply Kd.R_alloc | apply Kd.R_drewN | apply Kd.R_drew));exact HO_4.out));(case aS=>exact (eN bC));(case aL=>have:=LMc34.out;omega);intro v172 w35 ho hb hg hat;rw[← Ny171.out] at ho;have n0_:=cB (hb);have n1_:=cB (ho);clear HB;clear HO_4;have HB:=n0_;have HO173:=n1_;clear n0_ n1_;clear ho hb hg hat))
              go_roundg k4
              case measure=>have:=HK1.out;have:=HJ4.out;have:=HJ14.out;have:=HK4.out;omega
              case rel=>exact ⟨(y171),(wrap64 (x8_4+1)),bE,H',⟨eA⟩,⟨by (with_reducible repeat (first | apply Kd.R_alloc | apply Kd.R_drewN | apply Kd.R_drew));exact HO173.out⟩,⟨aA⟩⟩
             rw[if_neg c34] at H;exact absurd H bI
            rw[if_neg c33] at H;have c33b0:=beq_eq_false_iff_ne.mpr c33;have c33b1:=bne_iff_ne.mpr c33;have H':=cB H;clear H;have p32:0≤(x8_4:Int):=cA;have q32:x8_4 < (a0.size:Int):=cA;have hx32:=fQ a0 x8_4;replace p32:=eq_true p32;replace q32:=eq_true q32;go_wp2
            go_roundg k4
            case measure=>have:=HK1.out;have:=HJ4.out;have:=HJ14.out;have:=HK4.out;omega
            case rel=>exact ⟨(x4_4),(wrap64 (x8_4+1)),bE,H',⟨eA⟩,⟨aG⟩,⟨aA⟩⟩
           rw[if_neg c31] at H;exact absurd H bI
          rw[if_neg c30] at H;exact absurd H bI
         rw[if_neg c29] at H;have c29b0:=decide_eq_false c29;clear c29;have H':=cB H;clear H;go_wp2
         go_roundg k4
         case measure=>have:=HK1.out;have:=HJ4.out;have:=HJ14.out;have:=HK4.out;omega
         case rel=>exact ⟨(x4_4),(wrap64 (x6_14+1)),bE,H',⟨eA⟩,⟨aG⟩,⟨aA⟩⟩
     replace c14:=Bool.eq_false_iff.mpr c14;subst c14;rw[if_neg (show ¬ (false=true) by decide)] at H;have H':=cB H;clear H;go_wp2
     go_roundg kj4
     case measure=>have:=HK1.out;have:=HJ4.out;omega
     case rel=>exact ⟨(x4_1),(wrap64 (x5_1+1)),bE,H',⟨by have:=HK1.out;have:=HJ4.out;omega⟩,⟨aG⟩,⟨aA⟩⟩
   rw[if_neg c4] at H;have c4b0:=decide_eq_false c4;clear c4;obtain rfl:=Option.some.inj H;go_wp2;go_ret;exact ⟨_,aC,aG,aA⟩
end Go.Proofs.YtcdgldnphhidlaaGreatDoor.PCore
namespace Go.Proofs.YtcdgldnphhidlaaGreatDoor.PCore
open Go.RowKit Go.ZW.PrintWords Go.ZW.PrintLast Go.ZW.PrintMore
attribute [local go_sem] kO kQ lO lP jX jY kP kR   -- for this text's walks alone
def eX.l0:Nat→Int→List Int→Int→Int→Option (Bool)
 | 0,_,_,_,_=>none
 | k+1,x1,x7,x8,x9=>if x9 < x8 then (if 0≤x9 then (if x9 < (x7.length:Int) then (if (rd x7 x9)=x1 then (some true) else (if (rd x7 x9) > x1 then (some false) else (eX.l0 k x1 x7 x8 (wrap64 (x9+1))))) else (none)) else (none)) else (some false)
def eX.f (k:Nat) (l0:List Int) (a1:Int):Option (Bool):=eX.l0 k a1 l0 (l0.length:Int) 0
theorem eX.mono_l:∀ k,(∀ y0 y1 y2 y3,LeO (eX.l0 k y0 y1 y2 y3) (eX.l0 (k+1) y0 y1 y2 y3))
 | 0=>fun _ _ _ _ r h=>by simp[eX.l0] at h
 | k+1=>by
  have ih0:=eX.mono_l k
  intro y0 y1 y2 y3;unfold eX.l0
  exact cZ
theorem eX.mono:∀ a0 a1 k,LeO (eX.f k a0 a1) (eX.f (k+1) a0 a1):=by
 intro a0 a1 k;have ih0:=eX.mono_l k;unfold eX.f
 exact cZ
theorem eX.calls (k:Nat) (A0:Option Addr) (c0:Nat) (l0:List Int) (a1:Int) (r:Bool) (w:World) (hr0:Kd.C (Kd.int .i64) w A0 l0.length l0) (hc0:l0.length≤c0) (h:eX.f k l0 a1=some r) :
 Calls Tryz.prog 163 #[.slice A0 l0.length c0,.int .i64 a1] w fun e w'=>e = .returned (.bool r)∧fA w w':=by
 have HR0:=cB hr0;have HC0:=cB hc0;clear hr0 hc0;unfold eX.f at h;have H:=h;clear h;have H':=cB H;clear H;go_enter Tryz.func163,Tryz.ntmps163;go_wp2
 go_loopg [9] k (fun kq v9 w'=>∃ (x9_1:Int),v9 = .int .i64 x9_1∧Aside0 (eX.l0 kq a1 l0 (l0.length:Int) x9_1=some r)∧Aside0 (kq≤k)∧fA w w')
 case atStart=>exact ⟨(0),bE,H',⟨Nat.le_refl _⟩,dL⟩
 case round =>
  clear H'
  obtain ⟨x9_1,rfl,HA,HK1,⟨m1,rfl⟩⟩:=hrel
  cases gk with
  | zero=>exact absurd HA.out (by simp[eX.l0])
  | succ k1 =>
   have H:=HA.out;clear HA;simp only[eX.l0] at H
   by_cases c3:x9_1 < (l0.length:Int)
   ·rw[if_pos c3] at H;have c3b0:=decide_eq_true c3;clear c3
    by_cases c4:0≤x9_1
    ·rw[if_pos c4] at H;have c4b0:=decide_eq_true c4;clear c4
     by_cases c5:x9_1 < (l0.length:Int)
     ·rw[if_pos c5] at H;have c5b0:=decide_eq_true c5;clear c5
      by_cases c6:(rd l0 x9_1)=a1
      ·rw[if_pos c6] at H;have c6b0:=beq_iff_eq.mpr c6;have c6b1:=bne_eq_false_iff_eq.mpr c6;clear c6;obtain rfl:=Option.some.inj H;have p174:0≤(x9_1:Int):=cA;have q174:x9_1 < (l0.length:Int):=cA;obtain ⟨ad174,e174,hx174_0⟩:=Kd.at_int HR0.out x9_1 p174 q174;cases e174;replace p174:=eq_true p174;replace q174:=eq_true q174;go_wp2;go_ret;exact ⟨bE,dL⟩
      rw[if_neg c6] at H;have c6b0:=beq_eq_false_iff_ne.mpr c6;have c6b1:=bne_iff_ne.mpr c6
      by_cases c7:(rd l0 x9_1) > a1
      ·rw[if_pos c7] at H;have c7b0:=decide_eq_true c7;clear c7;obtain rfl:=Option.some.inj H;have p174:0≤(x9_1:Int):=cA;have q174:x9_1 < (l0.length:Int):=cA;obtain ⟨ad174,e174,hx174_0⟩:=Kd.at_int HR0.out x9_1 p174 q174;cases e174;replace p174:=eq_true p174;replace q174:=eq_true q174;go_wp2;go_ret;exact ⟨bE,dL⟩
      rw[if_neg c7] at H;have c7b0:=decide_eq_false c7;clear c7;have H':=cB H;clear H;have p174:0≤(x9_1:Int):=cA;have q174:x9_1 < (l0.length:Int):=cA;obtain ⟨ad174,e174,hx174_0⟩:=Kd.at_int HR0.out x9_1 p174 q174;cases e174;replace p174:=eq_true p174;replace q174:=eq_true q174;go_wp2
      go_roundg k1
      case measure=>have:=HK1.out;omega
      case rel=>exact ⟨(wrap64 (x9_1+1)),bE,H',⟨aW⟩,dL⟩
     rw[if_neg c5] at H;exact absurd H bI
    rw[if_neg c4] at H;exact absurd H bI
   rw[if_neg c3] at H;have c3b0:=decide_eq_false c3;clear c3;obtain rfl:=Option.some.inj H;go_wp2;go_ret;exact ⟨bE,dL⟩
def eX.Pure:Prop:=∀ (l0:List Int) (a1:Int),l0.length≤maxLen→l0.length * 8≤140737488351232→(∀ x∈l0,(Lit.int .i64 x).wf=true)→(Lit.int .i64 a1).wf=true→∃ k,eX.f k l0 a1=some true
theorem eX.walk (P:eX.Pure) (a0:Option Addr) (len0 cap0:Nat) (z0:List Int) (a1:Int) (w:World) (w0:(a0=none∧len0=0∧cap0=0∧z0=[])∨∃ x,a0=some x∧len0≤cap0∧cap0≤maxLen∧z0.length=cap0∧(∀ i,i < z0.length→w.cell? (x.add i)=some (.int .i64 (z0.getD i 0)))∧∀ n∈z0,(Lit.int .i64 n).wf=true) (y0:len0 * 8≤140737488351232) (w1:(Lit.int .i64 a1).wf=true) :
 Calls Tryz.prog 163 #[.slice a0 len0 cap0,.int .i64 a1] w fun e w'=>e = .returned (.bool true)∧Below w.heap.size w w':=by
 obtain ⟨l0,rfl,hr0,hm0,hw0,hc0⟩:=jD.ofRowC w0;obtain ⟨k,h⟩:=P l0 a1 hm0 y0 hw0 w1;refine (eX.calls k _ _ l0 a1 true w (Kd.C_of_reads (d:=(0:Int)) (h1:=fun _=>rfl) hr0) hc0 h).mono ?_;rintro e w' ⟨rfl,hd⟩;exact ⟨rfl,hd.below⟩
def fG.l0:Nat→ByteArray→ByteArray→Int→Option (Int)
 | 0,_,_,_=>none
 | k+1,x0,x1,x5=>if (wrap64 (x5+(x1.size:Int)))≤(x0.size:Int) then (if 0≤x5 then (if x5≤(wrap64 (x5+(x1.size:Int))) then (if (x0.extract (x5:Int).toNat ((wrap64 (x5+(x1.size:Int))):Int).toNat).toList=x1.toList then (some x5) else (fG.l0 k x0 x1 (wrap64 (x5+1)))) else (none)) else (none)) else (some (-1))
def fG.f (k:Nat) (a0:ByteArray) (a1:ByteArray):Option (Int):=fG.l0 k a0 a1 0
theorem fG.mono_l:∀ k,(∀ y0 y1 y2,LeO (fG.l0 k y0 y1 y2) (fG.l0 (k+1) y0 y1 y2))
 | 0=>fun _ _ _ r h=>by simp[fG.l0] at h
 | k+1=>by
  have ih0:=fG.mono_l k
  intro y0 y1 y2;unfold fG.l0
  exact dB
theorem fG.mono:∀ a0 a1 k,LeO (fG.f k a0 a1) (fG.f (k+1) a0 a1):=by
 intro a0 a1 k;have ih0:=fG.mono_l k;unfold fG.f
 exact dB
theorem fG.calls (k:Nat) (a0:ByteArray) (a1:ByteArray) (r:Int) (w:World) (h:fG.f k a0 a1=some r) :
 Calls Tryz.prog 153 #[.string a0,.string a1] w fun e w'=>e = .returned (.int .i64 r)∧fA w w':=by
 unfold fG.f at h;have H:=h;clear h;have H':=cB H;clear H;go_enter Tryz.func153,Tryz.ntmps153;go_wp2
 go_loopg [5] k (fun kq v5 w'=>∃ (x5_1:Int),v5 = .int .i64 x5_1∧Aside0 (fG.l0 kq a0 a1 x5_1=some r)∧Aside0 (kq≤k)∧fA w w')
 case atStart=>exact ⟨(0),bE,H',⟨Nat.le_refl _⟩,dL⟩
 case round =>
  clear H'
  obtain ⟨x5_1,rfl,HA,HK1,⟨m1,rfl⟩⟩:=hrel
  cases gk with
  | zero=>exact absurd HA.out (by simp[fG.l0])
  | succ k1 =>
   have H:=HA.out;clear HA;simp only[fG.l0] at H
   by_cases c3:(wrap64 (x5_1+(a1.size:Int)))≤(a0.size:Int)
   ·rw[if_pos c3] at H;have c3b0:=decide_eq_true c3;clear c3
    by_cases c4:0≤x5_1
    ·rw[if_pos c4] at H;have c4b0:=eq_true c4;have c4b1:=decide_eq_true c4;clear c4
     by_cases c5:x5_1≤(wrap64 (x5_1+(a1.size:Int)))
     ·rw[if_pos c5] at H;have c5b0:=eq_true c5;have c5b1:=decide_eq_true c5;have c6b0:=eq_true (cA:(wrap64 (x5_1+(a1.size:Int)))≤(a0.size:Int))
      by_cases c7:(a0.extract (x5_1:Int).toNat ((wrap64 (x5_1+(a1.size:Int))):Int).toNat).toList=a1.toList
      ·rw[if_pos c7] at H;have c7b0:=beq_iff_eq.mpr c7;have c7b1:=bne_eq_false_iff_eq.mpr c7;clear c7;obtain rfl:=Option.some.inj H;go_wp2;go_ret;exact ⟨bE,dL⟩
      rw[if_neg c7] at H;have c7b0:=beq_eq_false_iff_ne.mpr c7;have c7b1:=bne_iff_ne.mpr c7;have H':=cB H;clear H;go_wp2
      go_roundg k1
      case measure=>have:=HK1.out;omega
      case rel=>exact ⟨(wrap64 (x5_1+1)),bE,H',⟨aW⟩,dL⟩
     rw[if_neg c5] at H;exact absurd H bI
    rw[if_neg c4] at H;exact absurd H bI
   rw[if_neg c3] at H;have c3b0:=decide_eq_false c3;clear c3;obtain rfl:=Option.some.inj H;go_wp2;go_ret;exact ⟨bE,dL⟩
def hE.f (k:Nat) (a0:ByteArray) (a1:ByteArray):Option (Bool):=(fG.f k a0 a1).bind fun t175=>(some (decide (t175≥0)))
theorem hE.mono:∀ a0 a1 k,LeO (hE.f k a0 a1) (hE.f (k+1) a0 a1):=by
 intro a0 a1 k;unfold hE.f
 repeat' first
  | (with_reducible exact fG.mono _ _ _)
  | (with_reducible exact LeO.refl _)
  | (with_reducible exact LeO.none _)
  | (with_reducible refine LeO.ite ?_ ?_)
  | (with_reducible refine LeO.bind ?_ (fun _=>?_))
  | exact fG.mono _ _ _
  | exact LeO.none _
  | refine LeO.ite ?_ ?_
  | refine LeO.bind ?_ (fun _=>?_)
theorem hE.calls (k:Nat) (a0:ByteArray) (a1:ByteArray) (r:Bool) (w:World) (h:hE.f k a0 a1=some r) :
 Calls Tryz.prog 162 #[.string a0,.string a1] w fun e w'=>e = .returned (.bool r)∧fA w w':=by
 unfold hE.f at h;have H:=h;clear h;replace H:=Option.bind_eq_some_iff.mp H;obtain ⟨t175,A30,H⟩:=H;have A3:=cB A30;clear A30;obtain rfl:=Option.some.inj H;go_enter Tryz.func162,Tryz.ntmps162
 go_wp2_with (first | ((with_reducible refine eT (f:=153) rfl ?_);refine fY (some 7) rfl rfl Tryz.func153 bB rfl #[.string a0,.string a1] rfl bD ?_;(with_reducible refine (fG.calls k a0 a1 t175 _ A3.out).mono ?_);rintro e w' ⟨rfl,⟨nd,rfl⟩⟩;refine ⟨_,rfl,?_⟩))
 go_ret;exact ⟨bE,dL⟩
def hE.Pure:Prop:=∀ (a0:ByteArray) (a1:ByteArray),a0.size≤140737488351232→a1.size≤140737488351232→∃ k,hE.f k a0 a1=some true
theorem hE.walk (P:hE.Pure) (a0:ByteArray) (a1:ByteArray) (w:World) (w0:a0.size≤140737488351232) (w1:a1.size≤140737488351232) :
 Calls Tryz.prog 162 #[.string a0,.string a1] w fun e w'=>e = .returned (.bool true)∧Below w.heap.size w w':=by
 obtain ⟨k,h⟩:=P a0 a1 w0 w1;refine (hE.calls k a0 a1 true w h).mono ?_;rintro e w' ⟨rfl,hd⟩;exact ⟨rfl,hd.below⟩
def lX.f (a0:ByteArray):Option (Bool):=some (a0.toList==([103,111,116,109,112,108]:List UInt8))
theorem lX.calls (a0:ByteArray) (r:Bool) (w:World) (h:lX.f a0=some r) :
 Calls Tryz.prog 182 #[.string a0] w fun e w'=>e = .returned (.bool r)∧fA w w':=by
 unfold lX.f at h;have H:=h;clear h;obtain rfl:=Option.some.inj H;go_enter Tryz.func182,Tryz.ntmps182;go_wp2;go_ret;exact ⟨bE,dL⟩
def iK.f (a0:ByteArray):Option (Bool):=(lX.f a0).bind fun t176=>(some t176)
theorem iK.calls (a0:ByteArray) (r:Bool) (w:World) (h:iK.f a0=some r) :
 Calls Tryz.prog 165 #[.string a0] w fun e w'=>e = .returned (.bool r)∧fA w w':=by
 unfold iK.f at h;have H:=h;clear h;replace H:=Option.bind_eq_some_iff.mp H;obtain ⟨t176,A20,H⟩:=H;have A2:=cB A20;clear A20;obtain rfl:=Option.some.inj H;go_enter Tryz.func165,Tryz.ntmps165
 go_wp2_with (first | ((with_reducible refine eT (f:=182) rfl ?_);refine fY (some 4) rfl rfl Tryz.func182 bB rfl #[.string a0] rfl bD ?_;(with_reducible refine (lX.calls a0 t176 _ A2.out).mono ?_);rintro e w' ⟨rfl,⟨nd,rfl⟩⟩;refine ⟨_,rfl,?_⟩))
 go_ret;exact ⟨bE,dL⟩
def iK.Pure:Prop:=∀ (a0:ByteArray),a0.size≤140737488351232→iK.f a0=some true
theorem iK.walk (P:iK.Pure) (a0:ByteArray) (w:World) (w0:a0.size≤140737488351232) :
 Calls Tryz.prog 165 #[.string a0] w fun e w'=>e = .returned (.bool true)∧Below w.heap.size w w':=by
 have h:=P a0 w0;refine (iK.calls a0 true w h).mono ?_;rintro e w' ⟨rfl,hd⟩;exact ⟨rfl,hd.below⟩
def lI.f (a0:ByteArray):Option (Bool):=(iT.f a0).bind fun t178=>(if t178.toList=([104,111,109,101]:List UInt8) then (some true) else (if t178.toList=([112,97,103,101]:List UInt8) then (some true) else (if t178.toList=([115,101,99,116,105,111,110]:List UInt8) then (some true) else (if t178.toList=([116,97,120,111,110,111,109,121]:List UInt8) then (some true) else (if t178.toList=([116,101,114,109]:List UInt8) then (some true) else (some (t178.toList==([116,97,120,111,110,111,109,121,116,101,114,109]:List UInt8))))))))
theorem lI.calls (a0:ByteArray) (r:Bool) (w:World) (h:lI.f a0=some r) :
 Calls Tryz.prog 55 #[.string a0] w fun e w'=>e = .returned (.bool r)∧Below w.heap.size w w':=by
 have HB:=cB (Below.refl w.heap.size w);unfold lI.f at h;have H:=h;clear h;replace H:=Option.bind_eq_some_iff.mp H;obtain ⟨t178,A20,H⟩:=H;have A2:=cB A20;clear A20
 by_cases c3:t178.toList=([104,111,109,101]:List UInt8)
 ·rw[if_pos c3] at H;have c3b0:=beq_iff_eq.mpr c3;have c3b1:=bne_eq_false_iff_eq.mpr c3;clear c3;obtain rfl:=Option.some.inj H;go_enter Tryz.func55,Tryz.ntmps55
  go_wp2_with (first | ((with_reducible refine eT (f:=69) rfl ?_);refine fY (some 4) rfl rfl Tryz.func69 bB rfl #[.string a0] rfl bD ?_;(with_reducible refine (iT.calls a0 t178 _ A2.out).mono ?_);rintro e w4 ⟨rfl,hb⟩;refine ⟨_,rfl,?_⟩;replace HB:=cB (eD bC hb);(try clear hb);(try clear hb2);(try clear hk);(try clear hi)))
  go_ret;exact ⟨aC,aA⟩
 rw[if_neg c3] at H;have c3b0:=beq_eq_false_iff_ne.mpr c3;have c3b1:=bne_iff_ne.mpr c3
 by_cases c5:t178.toList=([112,97,103,101]:List UInt8)
 ·rw[if_pos c5] at H;have c5b0:=beq_iff_eq.mpr c5;have c5b1:=bne_eq_false_iff_eq.mpr c5;clear c5;obtain rfl:=Option.some.inj H;go_enter Tryz.func55,Tryz.ntmps55
  go_wp2_with (first | ((with_reducible refine eT (f:=69) rfl ?_);refine fY (some 4) rfl rfl Tryz.func69 bB rfl #[.string a0] rfl bD ?_;(with_reducible refine (iT.calls a0 t178 _ A2.out).mono ?_);rintro e w6 ⟨rfl,hb⟩;refine ⟨_,rfl,?_⟩;replace HB:=cB (eD bC hb);(try clear hb);(try clear hb2);(try clear hk);(try clear hi)))
  go_ret;exact ⟨aC,aA⟩
 rw[if_neg c5] at H;have c5b0:=beq_eq_false_iff_ne.mpr c5;have c5b1:=bne_iff_ne.mpr c5
 by_cases c7:t178.toList=([115,101,99,116,105,111,110]:List UInt8)
 ·rw[if_pos c7] at H;have c7b0:=beq_iff_eq.mpr c7;have c7b1:=bne_eq_false_iff_eq.mpr c7;clear c7;obtain rfl:=Option.some.inj H;go_enter Tryz.func55,Tryz.ntmps55
  go_wp2_with (first | ((with_reducible refine eT (f:=69) rfl ?_);refine fY (some 4) rfl rfl Tryz.func69 bB rfl #[.string a0] rfl bD ?_;(with_reducible refine (iT.calls a0 t178 _ A2.out).mono ?_);rintro e w8 ⟨rfl,hb⟩;refine ⟨_,rfl,?_⟩;replace HB:=cB (eD bC hb);(try clear hb);(try clear hb2);(try clear hk);(try clear hi)))
  go_ret;exact ⟨aC,aA⟩
 rw[if_neg c7] at H;have c7b0:=beq_eq_false_iff_ne.mpr c7;have c7b1:=bne_iff_ne.mpr c7
 by_cases c9:t178.toList=([116,97,120,111,110,111,109,121]:List UInt8)
 ·rw[if_pos c9] at H;have c9b0:=beq_iff_eq.mpr c9;have c9b1:=bne_eq_false_iff_eq.mpr c9;clear c9;obtain rfl:=Option.some.inj H;go_enter Tryz.func55,Tryz.ntmps55
  go_wp2_with (first | ((with_reducible refine eT (f:=69) rfl ?_);refine fY (some 4) rfl rfl Tryz.func69 bB rfl #[.string a0] rfl bD ?_;(with_reducible refine (iT.calls a0 t178 _ A2.out).mono ?_);rintro e w10 ⟨rfl,hb⟩;refine ⟨_,rfl,?_⟩;replace HB:=cB (eD bC hb);(try clear hb);(try clear hb2);(try clear hk);(try clear hi)))
  go_ret;exact ⟨aC,aA⟩
 rw[if_neg c9] at H;have c9b0:=beq_eq_false_iff_ne.mpr c9;have c9b1:=bne_iff_ne.mpr c9
 by_cases c11:t178.toList=([116,101,114,109]:List UInt8)
 ·rw[if_pos c11] at H;have c11b0:=beq_iff_eq.mpr c11;have c11b1:=bne_eq_false_iff_eq.mpr c11;clear c11;obtain rfl:=Option.some.inj H;go_enter Tryz.func55,Tryz.ntmps55
  go_wp2_with (first | ((with_reducible refine eT (f:=69) rfl ?_);refine fY (some 4) rfl rfl Tryz.func69 bB rfl #[.string a0] rfl bD ?_;(with_reducible refine (iT.calls a0 t178 _ A2.out).mono ?_);rintro e w12 ⟨rfl,hb⟩;refine ⟨_,rfl,?_⟩;replace HB:=cB (eD bC hb);(try clear hb);(try clear hb2);(try clear hk);(try clear hi)))
  go_ret;exact ⟨aC,aA⟩
 rw[if_neg c11] at H;have c11b0:=beq_eq_false_iff_ne.mpr c11;have c11b1:=bne_iff_ne.mpr c11;obtain rfl:=Option.some.inj H;go_enter Tryz.func55,Tryz.ntmps55
 go_wp2_with (first | ((with_reducible refine eT (f:=69) rfl ?_);refine fY (some 4) rfl rfl Tryz.func69 bB rfl #[.string a0] rfl bD ?_;(with_reducible refine (iT.calls a0 t178 _ A2.out).mono ?_);rintro e w13 ⟨rfl,hb⟩;refine ⟨_,rfl,?_⟩;replace HB:=cB (eD bC hb);(try clear hb);(try clear hb2);(try clear hk);(try clear hi)))
 go_ret;exact ⟨aC,aA⟩
def lI.Pure:Prop:=∀ (a0:ByteArray),a0.size≤140737488351232→lI.f a0=some true
theorem lI.walk (P:lI.Pure) (a0:ByteArray) (w:World) (w0:a0.size≤140737488351232) :
 Calls Tryz.prog 55 #[.string a0] w fun e w'=>e = .returned (.bool true)∧Below w.heap.size w w':=by
 have h:=P a0 w0;refine (lI.calls a0 true w h).mono ?_;rintro e w' ⟨rfl,hd⟩;exact ⟨rfl,hd⟩
end Go.Proofs.YtcdgldnphhidlaaGreatDoor.PCore
namespace Go.Proofs.YtcdgldnphhidlaaGreatDoor.PCore
open Go.RowKit Go.ZW.PrintWords Go.ZW.PrintLast Go.ZW.PrintMore
attribute [local go_sem] kO kQ lO lP jX jY kP kR   -- for this text's walks alone
end Go.Proofs.YtcdgldnphhidlaaGreatDoor.PCore
namespace Go.Proofs.YtcdgldnphhidlaaGreatDoor.PCore
open Go.RowKit Go.ZW.PrintWords Go.ZW.PrintLast Go.ZW.PrintMore
attribute [local go_sem] kO kQ lO lP jX jY kP kR   -- for this text's walks alone
def fO.l0:Nat→List (S46)→ByteArray→Int→Option (Bool)
 | 0,_,_,_=>none
 | k+1,x0,x1,x5=>if x5 < (x0.length:Int) then (if 0≤x5 then (if ((gV x0 x5).f0).toList=x1.toList then (some true) else (fO.l0 k x0 x1 (wrap64 (x5+1)))) else (none)) else (some false)
def fO.f (k:Nat) (l0:List (S46)) (a1:ByteArray):Option (Bool):=fO.l0 k l0 a1 0
theorem fO.mono_l:∀ k,(∀ y0 y1 y2,LeO (fO.l0 k y0 y1 y2) (fO.l0 (k+1) y0 y1 y2))
 | 0=>fun _ _ _ r h=>by simp[fO.l0] at h
 | k+1=>by
  have ih0:=fO.mono_l k
  intro y0 y1 y2;unfold fO.l0
  exact dB
theorem fO.mono:∀ a0 a1 k,LeO (fO.f k a0 a1) (fO.f (k+1) a0 a1):=by
 intro a0 a1 k;have ih0:=fO.mono_l k;unfold fO.f
 exact dB
theorem fO.calls (k:Nat) (A0:Option Addr) (c0:Nat) (l0:List (S46)) (a1:ByteArray) (r:Bool) (w:World) (hr0:Kd.C k46 w A0 l0.length l0) (hc0:l0.length≤c0) (h:fO.f k l0 a1=some r) :
 Calls Tryz.prog 133 #[.slice A0 l0.length c0,.string a1] w fun e w'=>e = .returned (.bool r)∧fA w w':=by
 have HR0:=cB hr0;have HC0:=cB hc0;clear hr0 hc0;unfold fO.f at h;have H:=h;clear h;have H':=cB H;clear H;go_enter Tryz.func133,Tryz.ntmps133;go_wp2
 go_loopg [5] k (fun kq v5 w'=>∃ (x5_1:Int),v5 = .int .i64 x5_1∧Aside0 (fO.l0 kq l0 a1 x5_1=some r)∧Aside0 (kq≤k)∧fA w w')
 case atStart=>exact ⟨(0),bE,H',⟨Nat.le_refl _⟩,dL⟩
 case round =>
  clear H'
  obtain ⟨x5_1,rfl,HA,HK1,⟨m1,rfl⟩⟩:=hrel
  cases gk with
  | zero=>exact absurd HA.out (by simp[fO.l0])
  | succ k1 =>
   have H:=HA.out;clear HA;simp only[fO.l0] at H
   by_cases c3:x5_1 < (l0.length:Int)
   ·rw[if_pos c3] at H;have c3b0:=decide_eq_true c3;clear c3
    by_cases c4:0≤x5_1
    ·rw[if_pos c4] at H;have c4b0:=decide_eq_true c4;clear c4
     by_cases c5:((gV l0 x5_1).f0).toList=a1.toList
     ·rw[if_pos c5] at H;have c5b0:=beq_iff_eq.mpr c5;have c5b1:=bne_eq_false_iff_eq.mpr c5;clear c5;obtain rfl:=Option.some.inj H;have p202:0≤(x5_1:Int):=cA;have q202:x5_1 < (l0.length:Int):=cA;obtain ⟨ad202,e202,hx202_0,hx202_1⟩:=lV HR0.out x5_1 p202 q202;cases e202;replace p202:=eq_true p202;replace q202:=eq_true q202;go_wp2;go_ret;exact ⟨bE,dL⟩
     rw[if_neg c5] at H;have c5b0:=beq_eq_false_iff_ne.mpr c5;have c5b1:=bne_iff_ne.mpr c5;have H':=cB H;clear H;have p202:0≤(x5_1:Int):=cA;have q202:x5_1 < (l0.length:Int):=cA;obtain ⟨ad202,e202,hx202_0,hx202_1⟩:=lV HR0.out x5_1 p202 q202;cases e202;replace p202:=eq_true p202;replace q202:=eq_true q202;go_wp2
     go_roundg k1
     case measure=>have:=HK1.out;omega
     case rel=>exact ⟨(wrap64 (x5_1+1)),bE,H',⟨aW⟩,dL⟩
    rw[if_neg c4] at H;exact absurd H bI
   rw[if_neg c3] at H;have c3b0:=decide_eq_false c3;clear c3;obtain rfl:=Option.some.inj H;go_wp2;go_ret;exact ⟨bE,dL⟩
def fM.l0:Nat→List (S46)→ByteArray→ByteArray→Int→Option (Bool)
 | 0,_,_,_,_=>none
 | k+1,x0,x1,x2,x7=>if x7 < (x0.length:Int) then (if 0≤x7 then (if ((gV x0 x7).f0).toList=x1.toList then (if ((gV x0 x7).f1).toList=x2.toList then (some true) else (fM.l0 k x0 x1 x2 (wrap64 (x7+1)))) else (fM.l0 k x0 x1 x2 (wrap64 (x7+1)))) else (none)) else (some false)
def fM.f (k:Nat) (l0:List (S46)) (a1:ByteArray) (a2:ByteArray):Option (Bool):=fM.l0 k l0 a1 a2 0
theorem fM.mono_l:∀ k,(∀ y0 y1 y2 y3,LeO (fM.l0 k y0 y1 y2 y3) (fM.l0 (k+1) y0 y1 y2 y3))
 | 0=>fun _ _ _ _ r h=>by simp[fM.l0] at h
 | k+1=>by
  have ih0:=fM.mono_l k
  intro y0 y1 y2 y3;unfold fM.l0
  exact cZ
theorem fM.mono:∀ a0 a1 a2 k,LeO (fM.f k a0 a1 a2) (fM.f (k+1) a0 a1 a2):=by
 intro a0 a1 a2 k;have ih0:=fM.mono_l k;unfold fM.f
 exact cZ
theorem fM.calls (k:Nat) (A0:Option Addr) (c0:Nat) (l0:List (S46)) (a1:ByteArray) (a2:ByteArray) (r:Bool) (w:World) (hr0:Kd.C k46 w A0 l0.length l0) (hc0:l0.length≤c0) (h:fM.f k l0 a1 a2=some r) :
 Calls Tryz.prog 157 #[.slice A0 l0.length c0,.string a1,.string a2] w fun e w'=>e = .returned (.bool r)∧fA w w':=by
 have HR0:=cB hr0;have HC0:=cB hc0;clear hr0 hc0;unfold fM.f at h;have H:=h;clear h;have H':=cB H;clear H;go_enter Tryz.func157,Tryz.ntmps157;go_wp2
 go_loopg [7] k (fun kq v7 w'=>∃ (x7_1:Int),v7 = .int .i64 x7_1∧Aside0 (fM.l0 kq l0 a1 a2 x7_1=some r)∧Aside0 (kq≤k)∧fA w w')
 case atStart=>exact ⟨(0),bE,H',⟨Nat.le_refl _⟩,dL⟩
 case round =>
  clear H'
  obtain ⟨x7_1,rfl,HA,HK1,⟨m1,rfl⟩⟩:=hrel
  cases gk with
  | zero=>exact absurd HA.out (by simp[fM.l0])
  | succ k1 =>
   have H:=HA.out;clear HA;simp only[fM.l0] at H
   by_cases c4:x7_1 < (l0.length:Int)
   ·rw[if_pos c4] at H;have c4b0:=decide_eq_true c4;clear c4
    by_cases c5:0≤x7_1
    ·rw[if_pos c5] at H;have c5b0:=decide_eq_true c5;clear c5
     by_cases c6:((gV l0 x7_1).f0).toList=a1.toList
     ·rw[if_pos c6] at H;have c6b0:=beq_iff_eq.mpr c6;have c6b1:=bne_eq_false_iff_eq.mpr c6;clear c6
      by_cases c7:((gV l0 x7_1).f1).toList=a2.toList
      ·rw[if_pos c7] at H;have c7b0:=beq_iff_eq.mpr c7;have c7b1:=bne_eq_false_iff_eq.mpr c7;clear c7;obtain rfl:=Option.some.inj H;have p203:0≤(x7_1:Int):=cA;have q203:x7_1 < (l0.length:Int):=cA;obtain ⟨ad203,e203,hx203_0,hx203_1⟩:=lV HR0.out x7_1 p203 q203;cases e203;replace p203:=eq_true p203;replace q203:=eq_true q203;have p204:0≤(x7_1:Int):=cA;have q204:x7_1 < (l0.length:Int):=cA;obtain ⟨ad204,e204,hx204_0,hx204_1⟩:=lV HR0.out x7_1 p204 q204
       obtain rfl:ad203=ad204:=(by injection e204)
       replace p204:=eq_true p204;replace q204:=eq_true q204;go_wp2;go_ret;exact ⟨bE,dL⟩
      rw[if_neg c7] at H;have c7b0:=beq_eq_false_iff_ne.mpr c7;have c7b1:=bne_iff_ne.mpr c7;have H':=cB H;clear H;have p203:0≤(x7_1:Int):=cA;have q203:x7_1 < (l0.length:Int):=cA;obtain ⟨ad203,e203,hx203_0,hx203_1⟩:=lV HR0.out x7_1 p203 q203;cases e203;replace p203:=eq_true p203;replace q203:=eq_true q203;have p204:0≤(x7_1:Int):=cA;have q204:x7_1 < (l0.length:Int):=cA;obtain ⟨ad204,e204,hx204_0,hx204_1⟩:=lV HR0.out x7_1 p204 q204
      obtain rfl:ad203=ad204:=(by injection e204)
      replace p204:=eq_true p204;replace q204:=eq_true q204;go_wp2
      go_roundg k1
      case measure=>have:=HK1.out;omega
      case rel=>exact ⟨(wrap64 (x7_1+1)),bE,H',⟨aW⟩,dL⟩
     rw[if_neg c6] at H;have c6b0:=beq_eq_false_iff_ne.mpr c6;have c6b1:=bne_iff_ne.mpr c6;have H':=cB H;clear H;have p203:0≤(x7_1:Int):=cA;have q203:x7_1 < (l0.length:Int):=cA;obtain ⟨ad203,e203,hx203_0,hx203_1⟩:=lV HR0.out x7_1 p203 q203;cases e203;replace p203:=eq_true p203;replace q203:=eq_true q203;go_wp2
     go_roundg k1
     case measure=>have:=HK1.out;omega
     case rel=>exact ⟨(wrap64 (x7_1+1)),bE,H',⟨aW⟩,dL⟩
    rw[if_neg c5] at H;exact absurd H bI
   rw[if_neg c4] at H;have c4b0:=decide_eq_false c4;clear c4;obtain rfl:=Option.some.inj H;go_wp2;go_ret;exact ⟨bE,dL⟩
def oN.f (a0:ByteArray) (a1:ByteArray):Option (ByteArray×Bool):=(iT.f a0).bind fun t205=>((iU.f t205 a1).bind fun t206=>(if t206=true then (if 0≤(a1.size:Int) then (if (a1.size:Int)≤(a0.size:Int) then (some (a0.extract ((a1.size:Int):Int).toNat a0.size,true)) else (none)) else (none)) else (some ((⟨#[]⟩:ByteArray),false))))
theorem oN.calls (a0:ByteArray) (a1:ByteArray) (r1:ByteArray) (r2:Bool) (w:World) (h:oN.f a0 a1=some (r1,r2)) :
 Calls Tryz.prog 156 #[.string a0,.string a1] w fun e w'=>e = .returned (.tuple #[.string r1,.bool r2])∧Below w.heap.size w w':=by
 have HB:=cB (Below.refl w.heap.size w);unfold oN.f at h;have H:=h;clear h;replace H:=Option.bind_eq_some_iff.mp H;obtain ⟨t205,A30,H⟩:=H;have A3:=cB A30;clear A30;replace H:=Option.bind_eq_some_iff.mp H;obtain ⟨t206,A40,H⟩:=H;have A4:=cB A40;clear A40
 by_cases c5:t206=true
 ·subst c5;have H1:(if 0≤(a1.size:Int) then (if (a1.size:Int)≤(a0.size:Int) then (some (a0.extract ((a1.size:Int):Int).toNat a0.size,true)) else (none)) else (none))=some (r1,r2):=by rw[if_pos rfl] at H;exact H
  clear H;have H:=H1;clear H1
  by_cases c6:0≤(a1.size:Int)
  ·rw[if_pos c6] at H;have c6b0:=eq_true c6;have c6b1:=decide_eq_true c6;clear c6
   by_cases c7:(a1.size:Int)≤(a0.size:Int)
   ·rw[if_pos c7] at H;have c7b0:=eq_true c7;have c7b1:=decide_eq_true c7;clear c7;simp only[Option.some.injEq,Prod.mk.injEq] at H;obtain ⟨rfl,rfl⟩:=H;go_enter Tryz.func156,Tryz.ntmps156
    go_wp2_with (first | ((with_reducible refine eT (f:=69) rfl ?_);refine fY (some 7) rfl rfl Tryz.func69 bB rfl #[.string a0] rfl bD ?_;(with_reducible refine (iT.calls a0 t205 _ A3.out).mono ?_);rintro e w8 ⟨rfl,hb⟩;refine ⟨_,rfl,?_⟩;replace HB:=cB (eD bC hb);(try clear hb);(try clear hb2);(try clear hk);(try clear hi)) | ((with_reducible refine eT (f:=88) rfl ?_);refine fY (some 9) rfl rfl Tryz.func88 bB rfl #[.string t205,.string a1] rfl bD ?_;(with_reducible refine (iU.calls t205 a1 true _ A4.out).mono ?_);rintro e w' ⟨rfl,⟨nd,rfl⟩⟩;refine ⟨_,rfl,?_⟩))
    go_ret2
    exact ⟨aC,aA⟩
   rw[if_neg c7] at H;exact absurd H bI
  rw[if_neg c6] at H;exact absurd H bI
 replace c5:=Bool.eq_false_iff.mpr c5;subst c5;have H1:(some ((⟨#[]⟩:ByteArray),false))=some (r1,r2):=by rw[if_neg (show ¬ (false=true) by decide)] at H;exact H
 clear H;have H:=H1;clear H1;simp only[Option.some.injEq,Prod.mk.injEq] at H;obtain ⟨rfl,rfl⟩:=H;go_enter Tryz.func156,Tryz.ntmps156
 go_wp2_with (first | ((with_reducible refine eT (f:=69) rfl ?_);refine fY (some 7) rfl rfl Tryz.func69 bB rfl #[.string a0] rfl bD ?_;(with_reducible refine (iT.calls a0 t205 _ A3.out).mono ?_);rintro e w9 ⟨rfl,hb⟩;refine ⟨_,rfl,?_⟩;replace HB:=cB (eD bC hb);(try clear hb);(try clear hb2);(try clear hk);(try clear hi)) | ((with_reducible refine eT (f:=88) rfl ?_);refine fY (some 9) rfl rfl Tryz.func88 bB rfl #[.string t205,.string a1] rfl bD ?_;(with_reducible refine (iU.calls t205 a1 false _ A4.out).mono ?_);rintro e w' ⟨rfl,⟨nd,rfl⟩⟩;refine ⟨_,rfl,?_⟩))
 go_ret2
 exact ⟨aC,aA⟩
def oM.f (a0:ByteArray) (a1:ByteArray):Option (ByteArray):=if a0.toList=([]:List UInt8) then (some a1) else (some a0)
theorem oM.calls (a0:ByteArray) (a1:ByteArray) (r:ByteArray) (w:World) (h:oM.f a0 a1=some r) :
 Calls Tryz.prog 132 #[.string a0,.string a1] w fun e w'=>e = .returned (.string r)∧fA w w':=by
 unfold oM.f at h;have H:=h;clear h
 by_cases c3:a0.toList=([]:List UInt8)
 ·rw[if_pos c3] at H;have c3b0:=beq_iff_eq.mpr c3;have c3b1:=bne_eq_false_iff_eq.mpr c3;clear c3;obtain rfl:=Option.some.inj H;go_enter Tryz.func132,Tryz.ntmps132;go_wp2;go_ret;exact ⟨bE,dL⟩
 rw[if_neg c3] at H;have c3b0:=beq_eq_false_iff_ne.mpr c3;have c3b1:=bne_iff_ne.mpr c3;obtain rfl:=Option.some.inj H;go_enter Tryz.func132,Tryz.ntmps132;go_wp2;go_ret;exact ⟨bE,dL⟩
def kY.f (k:Nat) (a0:ByteArray):Option (ByteArray):=(eU.f k a0 (a0.size:Int)).bind fun t207=>(if t207≤0 then (some (⟨#[47]⟩:ByteArray)) else (if 0≤t207 then (if t207≤(a0.size:Int) then (some (a0.extract 0 (t207:Int).toNat)) else (none)) else (none)))
theorem kY.mono:∀ a0 k,LeO (kY.f k a0) (kY.f (k+1) a0):=by
 intro a0 k;unfold kY.f
 exact dH
theorem kY.calls (k:Nat) (a0:ByteArray) (r:ByteArray) (w:World) (h:kY.f k a0=some r) :
 Calls Tryz.prog 121 #[.string a0] w fun e w'=>e = .returned (.string r)∧fA w w':=by
 unfold kY.f at h;have H:=h;clear h;replace H:=Option.bind_eq_some_iff.mp H;obtain ⟨t207,A20,H⟩:=H;have A2:=cB A20;clear A20
 by_cases c3:t207≤0
 ·rw[if_pos c3] at H;have c3b0:=decide_eq_true c3;clear c3;obtain rfl:=Option.some.inj H;go_enter Tryz.func121,Tryz.ntmps121
  go_wp2_with (first | ((with_reducible refine eT (f:=89) rfl ?_);refine fY (some 7) rfl rfl Tryz.func89 bB rfl #[.string a0,.int .i64 (a0.size:Int)] rfl bD ?_;(with_reducible refine (eU.calls k a0 (a0.size:Int) t207 _ A2.out).mono ?_);rintro e w' ⟨rfl,⟨nd,rfl⟩⟩;refine ⟨_,rfl,?_⟩))
  go_ret;exact ⟨bE,dL⟩
 rw[if_neg c3] at H;have c3b0:=decide_eq_false c3;clear c3
 by_cases c4:0≤t207
 ·rw[if_pos c4] at H;have c4b0:=eq_true c4;have c4b1:=decide_eq_true c4;clear c4
  by_cases c5:t207≤(a0.size:Int)
  ·rw[if_pos c5] at H;have c5b0:=eq_true c5;have c5b1:=decide_eq_true c5;clear c5;obtain rfl:=Option.some.inj H;go_enter Tryz.func121,Tryz.ntmps121
   go_wp2_with (first | ((with_reducible refine eT (f:=89) rfl ?_);refine fY (some 7) rfl rfl Tryz.func89 bB rfl #[.string a0,.int .i64 (a0.size:Int)] rfl bD ?_;(with_reducible refine (eU.calls k a0 (a0.size:Int) t207 _ A2.out).mono ?_);rintro e w' ⟨rfl,⟨nd,rfl⟩⟩;refine ⟨_,rfl,?_⟩))
   go_ret;exact ⟨bE,dL⟩
  rw[if_neg c5] at H;exact absurd H bI
 rw[if_neg c4] at H;exact absurd H bI
end Go.Proofs.YtcdgldnphhidlaaGreatDoor.PCore
