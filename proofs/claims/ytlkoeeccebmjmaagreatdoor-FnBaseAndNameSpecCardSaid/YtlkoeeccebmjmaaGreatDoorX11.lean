/- Texts that the law leans on: PCorex7, PCorex8. Condition: as told at each. -/
import Derived.Test.YtlkoeeccebmjmaaGreatDoorXa
import Derived.Test.YtlkoeeccebmjmaaGreatDoorX10
set_option linter.unusedVariables false
set_option linter.unusedSimpArgs false
set_option maxRecDepth 100000
set_option maxHeartbeats 16000000
namespace Go.Proofs.YtlkoeeccebmjmaaGreatDoor.PCore
open Go.RowKit Go.ZW.PrintWords Go.ZW.PrintLast Go.ZW.PrintMore
attribute [local go_sem] lD lF mD mE kR kS lE lG   -- for this text's walks alone
mutual
def dZ.l0:Nat→ByteArray→List Int→Int→Option (List Int)
 | 0,_,_,_=>none
 | k+1,x0,x4,x5=>if x5 < (x0.size:Int) then (if (wrap64 (x5+2)) < (x0.size:Int) then (if 0≤x5 then (if (bt x0 x5)=46 then (if 0≤(wrap64 (x5+1)) then (if (wrap64 (x5+1)) < (x0.size:Int) then (dZ.j1 k x0 x4 x5 ((bt x0 (wrap64 (x5+1)))==95)) else (none)) else (none)) else (dZ.j1 k x0 x4 x5 false)) else (none)) else (dZ.j1 k x0 x4 x5 false)) else (some x4)
def dZ.j1:Nat→ByteArray→List Int→Int→Bool→Option (List Int)
 | 0,_,_,_,_=>none
 | k+1,x0,x4,x5,x35=>if x35=true then (dZ.l1 k x0 x4 x5 (-1) (wrap64 (x5+2))) else (dZ.l0 k x0 x4 (wrap64 (x5+1)))
def dZ.j3:Nat→ByteArray→List Int→Int→Int→Option (List Int)
 | 0,_,_,_,_=>none
 | k+1,x0,x4,x5,x6=>if x6=(-1) then (dZ.l0 k x0 x4 (wrap64 (x5+1))) else (dZ.l2 k x0 x4 x6 (wrap64 (x5+2)))
def dZ.l2:Nat→ByteArray→List Int→Int→Int→Option (List Int)
 | 0,_,_,_,_=>none
 | k+1,x0,x4,x6,x8=>if x8 < x6 then (if 0≤x8 then (if x8 < (x0.size:Int) then (if (bt x0 x8)=46 then (if x4.length < 17592186044416 then (dZ.l2 k x0 (x4++[x8]) x6 (wrap64 (x8+1))) else (none)) else (dZ.l2 k x0 x4 x6 (wrap64 (x8+1)))) else (none)) else (none)) else (dZ.l0 k x0 x4 (wrap64 (x6+1)))
def dZ.l1:Nat→ByteArray→List Int→Int→Int→Int→Option (List Int)
 | 0,_,_,_,_,_=>none
 | k+1,x0,x4,x5,x6,x7=>if x7 < (x0.size:Int) then (if 0≤x7 then (if (bt x0 x7)=47 then (dZ.j3 k x0 x4 x5 x6) else (if (bt x0 x7)=95 then (if (wrap64 (x7+1))≥(x0.size:Int) then (dZ.j3 k x0 x4 x5 x7) else (if 0≤(wrap64 (x7+1)) then (if (wrap64 (x7+1)) < (x0.size:Int) then (if (bt x0 (wrap64 (x7+1)))=46 then (dZ.j3 k x0 x4 x5 x7) else (dZ.l1 k x0 x4 x5 x6 (wrap64 (x7+1)))) else (none)) else (none))) else (dZ.l1 k x0 x4 x5 x6 (wrap64 (x7+1))))) else (none)) else (dZ.j3 k x0 x4 x5 x6)
end
def dZ.f (k:Nat) (a0:ByteArray):Option (List Int):=(strings_LastIndex.f a0 (⟨#[47]⟩:ByteArray)).bind fun t170=>(if t170=(-1) then (some ([]:List Int)) else (dZ.l0 k a0 ([]:List Int) t170))
theorem dZ.mono_l:∀ k,(∀ y0 y1 y2,LeO (dZ.l0 k y0 y1 y2) (dZ.l0 (k+1) y0 y1 y2))∧(∀ y0 y1 y2 y3,LeO (dZ.j1 k y0 y1 y2 y3) (dZ.j1 (k+1) y0 y1 y2 y3))∧(∀ y0 y1 y2 y3,LeO (dZ.j3 k y0 y1 y2 y3) (dZ.j3 (k+1) y0 y1 y2 y3))∧(∀ y0 y1 y2 y3,LeO (dZ.l2 k y0 y1 y2 y3) (dZ.l2 (k+1) y0 y1 y2 y3))∧(∀ y0 y1 y2 y3 y4,LeO (dZ.l1 k y0 y1 y2 y3 y4) (dZ.l1 (k+1) y0 y1 y2 y3 y4))
 | 0=>⟨fun _ _ _ r h=>by simp[dZ.l0] at h,fun _ _ _ _ r h=>by simp[dZ.j1] at h,fun _ _ _ _ r h=>by simp[dZ.j3] at h,fun _ _ _ _ r h=>by simp[dZ.l2] at h,fun _ _ _ _ _ r h=>by simp[dZ.l1] at h⟩
 | k+1=>by
  obtain ⟨ih0,ih1,ih2,ih3,ih4⟩:=dZ.mono_l k;refine ⟨?_,?_,?_,?_,?_⟩
  ·intro y0 y1 y2;unfold dZ.l0
   exact dF
  ·intro y0 y1 y2 y3;unfold dZ.j1
   exact dF
  ·intro y0 y1 y2 y3;unfold dZ.j3
   exact dF
  ·intro y0 y1 y2 y3;unfold dZ.l2
   exact dF
  intro y0 y1 y2 y3 y4;unfold dZ.l1
  exact dF
theorem dZ.mono:∀ a0 k,LeO (dZ.f k a0) (dZ.f (k+1) a0):=by
 intro a0 k;obtain ⟨ih0,ih1,ih2,ih3,ih4⟩:=dZ.mono_l k;unfold dZ.f
 exact dF
theorem dZ.calls (k:Nat) (a0:ByteArray) (r:List Int) (w:World) (h:dZ.f k a0=some r) :
 Calls Tryz.prog 144 #[.string a0] w fun e w'=>∃ v0_:Value,e = .returned (v0_)∧Kd.R (Kd.int .i64) 3 w' w.heap.size (fun _=>True) v0_ r∧Below w.heap.size w w':=by
 have HB:=bW (Below.refl w.heap.size w);unfold dZ.f at h;have H:=h;clear h;replace H:=Option.bind_eq_some_iff.mp H;obtain ⟨t170,A20,H⟩:=H;have A2:=bW A20;clear A20
 by_cases c3:t170=(-1)
 ·rw[if_pos c3] at H;have c3b0:=beq_iff_eq.mpr c3;have c3b1:=bne_eq_false_iff_eq.mpr c3;clear c3;obtain rfl:=Option.some.inj H;go_enter Tryz.func144,Tryz.ntmps144
  go_wp2_with (first | ((with_reducible refine eQ (f:=145) rfl ?_);refine fU (some 10) rfl rfl Tryz.func145 bB rfl #[.string a0,.string (⟨#[47]⟩:ByteArray)] rfl bD ?_;(with_reducible refine (strings_LastIndex.calls a0 (⟨#[47]⟩:ByteArray) t170 _ A2.out).mono ?_);rintro e w' ⟨rfl,⟨nd,rfl⟩⟩;refine ⟨_,rfl,?_⟩))
  go_ret;exact ⟨_,aC,by first | exact Kd.R_nil _ _ _ _ _ | exact Kd.N_nil _ _ _ _ _ | exact Kd.V_nil _ _ _ _ _ | exact Kd.Q_nil _ _ _ _ _ | exact Kd.S_nil _ _ _ _ _,aA⟩
 rw[if_neg c3] at H;have c3b0:=beq_eq_false_iff_ne.mpr c3;have c3b1:=bne_iff_ne.mpr c3;have H':=bW H;clear H;go_enter Tryz.func144,Tryz.ntmps144
 go_wp2_with (first | ((with_reducible refine eQ (f:=145) rfl ?_);refine fU (some 10) rfl rfl Tryz.func145 bB rfl #[.string a0,.string (⟨#[47]⟩:ByteArray)] rfl bD ?_;(with_reducible refine (strings_LastIndex.calls a0 (⟨#[47]⟩:ByteArray) t170 _ A2.out).mono ?_);rintro e w' ⟨rfl,⟨nd,rfl⟩⟩;refine ⟨_,rfl,?_⟩))
 go_loopg [4,5] k (fun kq v4 v5 w'=>∃ (x4_1:List Int) (x5_1:Int),v5 = .int .i64 x5_1∧Aside0 (dZ.l0 kq a0 x4_1 x5_1=some r)∧Aside0 (kq≤k)∧Aside0 (Kd.R (Kd.int .i64) 3 w' w.heap.size (fun _=>True) v4 x4_1)∧Aside0 (Below w.heap.size w w'))
 case atStart=>exact ⟨(([]:List Int)),(t170),bE,H',⟨Nat.le_refl _⟩,⟨by first | exact Kd.R_nil _ _ _ _ _ | exact Kd.N_nil _ _ _ _ _ | exact Kd.V_nil _ _ _ _ _ | exact Kd.Q_nil _ _ _ _ _ | exact Kd.S_nil _ _ _ _ _⟩,⟨aA⟩⟩
 case round =>
  clear H'
  (try clear c3);(try clear c3b0);(try clear c3b1)
  obtain ⟨x4_1,x5_1,rfl,HA,HK1,HO_4,HB⟩:=hrel
  cases gk with
  | zero=>exact absurd HA.out (by simp[dZ.l0])
  | succ k1 =>
   have H:=HA.out;clear HA;simp only[dZ.l0] at H
   by_cases c4:x5_1 < (a0.size:Int)
   ·rw[if_pos c4] at H;have c4b0:=decide_eq_true c4;clear c4;have HC5:=bW H;clear H
    go_upto_region 7 with (fail)
    go_cut [35] (fun v35 wc=>∃ (kq:Nat) (x35_4:Bool),v35 = .bool x35_4∧Aside0 (dZ.j1 kq a0 x4_1 x5_1 x35_4=some r)∧Aside0 (kq≤k1)∧Aside0 (Kd.R (Kd.int .i64) 3 wc w.heap.size (fun _=>True) u4 x4_1)∧Aside0 (Below w.heap.size w wc))
    case first =>
     have H:=HC5.out;clear HC5
     by_cases c6:(wrap64 (x5_1+2)) < (a0.size:Int)
     ·rw[if_pos c6] at H;have c6b0:=decide_eq_true c6;clear c6
      (first | rw[c6b0] | (simp only[gU,iG];rw[c6b0]) | skip)
      by_cases c7:0≤x5_1
      ·rw[if_pos c7] at H;have c7b0:=decide_eq_true c7;clear c7
       by_cases c9:(bt a0 x5_1)=46
       ·rw[if_pos c9] at H;have c9b0:=beq_iff_eq.mpr c9;have c9b1:=bne_eq_false_iff_eq.mpr c9;clear c9
        obtain ⟨ji10,hji10⟩:∃ j_:Int,(wrap64 (x5_1+1))=j_:=⟨_,rfl⟩
        replace H:(if 0≤(ji10) then (if (ji10) < (a0.size:Int) then (dZ.j1 k1 a0 x4_1 x5_1 ((bt a0 (ji10))==95)) else (none)) else (none))=some r:=by first | (rw[hji10] at H;exact H) | (simp only[hji10] at H ⊢;exact H)
        have hji10w:(IntKind.i64.wrap (x5_1+1))=ji10:=(gU _).trans hji10
        by_cases c11:0≤(ji10)
        ·rw[if_pos c11] at H;have c11b0:=decide_eq_true c11;clear c11
         by_cases c12:(ji10) < (a0.size:Int)
         ·rw[if_pos c12] at H;have c12b0:=decide_eq_true c12;clear c12;have H':=bW H;clear H;have p8:0≤(x5_1:Int):=bV;have q8:x5_1 < (a0.size:Int):=bV;have hx8:=fN a0 x5_1;replace p8:=eq_true p8;replace q8:=eq_true q8;have p13:0≤((ji10):Int):=bV;have q13:(ji10) < (a0.size:Int):=bV;have hx13:=fN a0 (ji10);replace p13:=eq_true p13;replace q13:=eq_true q13;go_wp2
          go_meet
          case rel=>exact ⟨_,(((bt a0 (ji10))==95)),(by first | rfl | (simp;done) | (simp only[← hji10] <;> (first | rfl | simp)) | (simp[*];done)),H',⟨dT⟩,⟨aG⟩,⟨aA⟩⟩
         rw[if_neg c12] at H;exact absurd H bJ
        rw[if_neg c11] at H;exact absurd H bJ
       rw[if_neg c9] at H;have c9b0:=beq_eq_false_iff_ne.mpr c9;have c9b1:=bne_iff_ne.mpr c9;have H':=bW H;clear H;have p8:0≤(x5_1:Int):=bV;have q8:x5_1 < (a0.size:Int):=bV;have hx8:=fN a0 x5_1;replace p8:=eq_true p8;replace q8:=eq_true q8;go_wp2
       go_meet
       case rel=>exact ⟨_,(false),bE,H',⟨dT⟩,⟨aG⟩,⟨aA⟩⟩
      rw[if_neg c7] at H;exact absurd H bJ
     rw[if_neg c6] at H;have c6b0:=decide_eq_false c6;clear c6
     (first | rw[c6b0] | (simp only[gU,iG];rw[c6b0]) | skip)
     have H':=bW H;clear H;go_wp2
     go_meet
     case rel=>exact ⟨_,(false),bE,H',⟨dT⟩,⟨aG⟩,⟨aA⟩⟩
    clear HC5
    (try clear c3);(try clear c3b0);(try clear c3b1);(try clear c4);(try clear c4b0)
    obtain ⟨kq,x35_4,rfl,HA,HJ4,HO_4,HB⟩:=hcut
    cases kq with
    | zero=>exact absurd HA.out (by simp[dZ.j1])
    | succ kj4 =>
     have H:=HA.out;clear HA;simp only[dZ.j1] at H
     by_cases c14:x35_4=true
     ·subst c14;rw[if_pos rfl] at H;have HC15:=bW H;clear H
      go_upto_block 2 with (fail)
      go_cut [6] (fun v6 wc=>∃ (kq:Nat) (x6_14:Int),v6 = .int .i64 x6_14∧Aside0 (dZ.j3 kq a0 x4_1 x5_1 x6_14=some r)∧Aside0 (kq≤kj4)∧Aside0 (Kd.R (Kd.int .i64) 3 wc w.heap.size (fun _=>True) u4 x4_1)∧Aside0 (Below w.heap.size w wc))
      case first =>
       have H:=HC15.out;clear HC15;have H':=bW H;clear H;go_wp2
       go_loopg [6,7] kj4 (fun kq v6 v7 w'=>∃ (x6_3:Int) (x7_3:Int),v6 = .int .i64 x6_3∧v7 = .int .i64 x7_3∧Aside0 (dZ.l1 kq a0 x4_1 x5_1 x6_3 x7_3=some r)∧Aside0 (kq≤kj4)∧Aside0 (Kd.R (Kd.int .i64) 3 w' w.heap.size (fun _=>True) u4 x4_1)∧Aside0 (Below w.heap.size w w'))
       case atStart=>exact ⟨((-1)),(wrap64 (x5_1+2)),bE,bE,H',⟨Nat.le_refl _⟩,⟨aG⟩,⟨aA⟩⟩
       case round =>
        clear H'
        (try clear c3);(try clear c3b0);(try clear c3b1);(try clear c4);(try clear c4b0);(try clear c14)
        obtain ⟨x6_3,x7_3,rfl,rfl,HA,HK3,HO_4,HB⟩:=hrel
        cases gk with
        | zero=>exact absurd HA.out (by simp[dZ.l1])
        | succ k3 =>
         have H:=HA.out;clear HA;simp only[dZ.l1] at H
         by_cases c16:x7_3 < (a0.size:Int)
         ·rw[if_pos c16] at H;have c16b0:=decide_eq_true c16;clear c16
          (first | rw[c16b0] | (simp only[gU,iG];rw[c16b0]) | skip)
          by_cases c17:0≤x7_3
          ·rw[if_pos c17] at H;have c17b0:=decide_eq_true c17;clear c17
           by_cases c19:(bt a0 x7_3)=47
           ·rw[if_pos c19] at H;have c19b0:=beq_iff_eq.mpr c19;have c19b1:=bne_eq_false_iff_eq.mpr c19;clear c19;have H':=bW H;clear H;have p18:0≤(x7_3:Int):=bV;have q18:x7_3 < (a0.size:Int):=bV;have hx18:=fN a0 x7_3;replace p18:=eq_true p18;replace q18:=eq_true q18;go_wp2
            go_meet
            case rel=>exact ⟨_,(x6_3),bE,H',⟨dP⟩,⟨aG⟩,⟨aA⟩⟩
           rw[if_neg c19] at H;have c19b0:=beq_eq_false_iff_ne.mpr c19;have c19b1:=bne_iff_ne.mpr c19
           by_cases c21:(bt a0 x7_3)=95
           ·rw[if_pos c21] at H;have c21b0:=beq_iff_eq.mpr c21;have c21b1:=bne_eq_false_iff_eq.mpr c21;clear c21
            by_cases c22:(wrap64 (x7_3+1))≥(a0.size:Int)
            ·rw[if_pos c22] at H;have c22b0:=decide_eq_true c22;clear c22;have H':=bW H;clear H;have p18:0≤(x7_3:Int):=bV;have q18:x7_3 < (a0.size:Int):=bV;have hx18:=fN a0 x7_3;replace p18:=eq_true p18;replace q18:=eq_true q18;have p20:0≤(x7_3:Int):=bV;have q20:x7_3 < (a0.size:Int):=bV;have hx20:=fN a0 x7_3;replace p20:=eq_true p20;replace q20:=eq_true q20;go_wp2
             go_meet
             case rel=>exact ⟨_,(x7_3),bE,H',⟨dP⟩,⟨aG⟩,⟨aA⟩⟩
            rw[if_neg c22] at H;have c22b0:=decide_eq_false c22;clear c22
            obtain ⟨ji23,hji23⟩:∃ j_:Int,(wrap64 (x7_3+1))=j_:=⟨_,rfl⟩
            replace H:(if 0≤(ji23) then (if (ji23) < (a0.size:Int) then (if (bt a0 (ji23))=46 then (dZ.j3 k3 a0 x4_1 x5_1 x7_3) else (dZ.l1 k3 a0 x4_1 x5_1 x6_3 ji23)) else (none)) else (none))=some r:=by first | (rw[hji23] at H;exact H) | (simp only[hji23] at H ⊢;exact H)
            (try rw[hji23] at c22b0)
            have hji23w:(IntKind.i64.wrap (x7_3+1))=ji23:=(gU _).trans hji23
            by_cases c24:0≤(ji23)
            ·rw[if_pos c24] at H;have c24b0:=decide_eq_true c24;clear c24
             by_cases c25:(ji23) < (a0.size:Int)
             ·rw[if_pos c25] at H;have c25b0:=decide_eq_true c25;clear c25
              by_cases c27:(bt a0 (ji23))=46
              ·rw[if_pos c27] at H;have c27b0:=beq_iff_eq.mpr c27;have c27b1:=bne_eq_false_iff_eq.mpr c27;clear c27;have H':=bW H;clear H;have p18:0≤(x7_3:Int):=bV;have q18:x7_3 < (a0.size:Int):=bV;have hx18:=fN a0 x7_3;replace p18:=eq_true p18;replace q18:=eq_true q18;have p20:0≤(x7_3:Int):=bV;have q20:x7_3 < (a0.size:Int):=bV;have hx20:=fN a0 x7_3;replace p20:=eq_true p20;replace q20:=eq_true q20;have p26:0≤((ji23):Int):=bV
               have q26:(ji23) < (a0.size:Int):=bV;have hx26:=fN a0 (ji23);replace p26:=eq_true p26;replace q26:=eq_true q26;go_wp2
               go_meet
               case rel=>exact ⟨_,(x7_3),bE,H',⟨dP⟩,⟨aG⟩,⟨aA⟩⟩
              rw[if_neg c27] at H;have c27b0:=beq_eq_false_iff_ne.mpr c27;have c27b1:=bne_iff_ne.mpr c27;have H':=bW H;clear H;have p18:0≤(x7_3:Int):=bV;have q18:x7_3 < (a0.size:Int):=bV;have hx18:=fN a0 x7_3;replace p18:=eq_true p18;replace q18:=eq_true q18;have p20:0≤(x7_3:Int):=bV;have q20:x7_3 < (a0.size:Int):=bV;have hx20:=fN a0 x7_3;replace p20:=eq_true p20;replace q20:=eq_true q20;have p26:0≤((ji23):Int):=bV
              have q26:(ji23) < (a0.size:Int):=bV;have hx26:=fN a0 (ji23);replace p26:=eq_true p26;replace q26:=eq_true q26;go_wp2
              go_roundg k3
              case measure=>have:=HK1.out;have:=HJ4.out;have:=HK3.out;omega
              case rel=>exact ⟨(x6_3),(ji23),bE,(by first | rfl | (simp;done) | (simp only[← hji23] <;> (first | rfl | simp)) | (simp[*];done)),H',⟨by have:=HK1.out;have:=HJ4.out;have:=HK3.out;omega⟩,⟨aG⟩,⟨aA⟩⟩
             rw[if_neg c25] at H;exact absurd H bJ
            rw[if_neg c24] at H;exact absurd H bJ
           rw[if_neg c21] at H;have c21b0:=beq_eq_false_iff_ne.mpr c21;have c21b1:=bne_iff_ne.mpr c21;have H':=bW H;clear H;have p18:0≤(x7_3:Int):=bV;have q18:x7_3 < (a0.size:Int):=bV;have hx18:=fN a0 x7_3;replace p18:=eq_true p18;replace q18:=eq_true q18;have p20:0≤(x7_3:Int):=bV;have q20:x7_3 < (a0.size:Int):=bV;have hx20:=fN a0 x7_3;replace p20:=eq_true p20;replace q20:=eq_true q20;go_wp2
           go_roundg k3
           case measure=>have:=HK1.out;have:=HJ4.out;have:=HK3.out;omega
           case rel=>exact ⟨(x6_3),(wrap64 (x7_3+1)),bE,bE,H',⟨by have:=HK1.out;have:=HJ4.out;have:=HK3.out;omega⟩,⟨aG⟩,⟨aA⟩⟩
          rw[if_neg c17] at H;exact absurd H bJ
         rw[if_neg c16] at H;have c16b0:=decide_eq_false c16;clear c16
         (first | rw[c16b0] | (simp only[gU,iG];rw[c16b0]) | skip)
         have H':=bW H;clear H;go_wp2
         go_meet
         case rel=>exact ⟨_,(x6_3),bE,H',⟨dP⟩,⟨aG⟩,⟨aA⟩⟩
      clear HC15
      (try clear c3);(try clear c3b0);(try clear c3b1);(try clear c4);(try clear c4b0);(try clear c14)
      obtain ⟨kq,x6_14,rfl,HA,HJ14,HO_4,HB⟩:=hcut
      cases kq with
      | zero=>exact absurd HA.out (by simp[dZ.j3])
      | succ kj14 =>
       have H:=HA.out;clear HA;simp only[dZ.j3] at H
       by_cases c28:x6_14=(-1)
       ·rw[if_pos c28] at H;have c28b0:=beq_iff_eq.mpr c28;have c28b1:=bne_eq_false_iff_eq.mpr c28;clear c28;have H':=bW H;clear H;go_wp2
        go_roundg kj14
        case measure=>have:=HK1.out;have:=HJ4.out;have:=HJ14.out;omega
        case rel=>exact ⟨(x4_1),(wrap64 (x5_1+1)),bE,H',⟨by have:=HK1.out;have:=HJ4.out;have:=HJ14.out;omega⟩,⟨aG⟩,⟨aA⟩⟩
       rw[if_neg c28] at H;have c28b0:=beq_eq_false_iff_ne.mpr c28;have c28b1:=bne_iff_ne.mpr c28;have H':=bW H;clear H;go_wp2
       go_loopg [4,8] kj14 (fun kq v4 v8 w'=>∃ (x4_4:List Int) (x8_4:Int),v8 = .int .i64 x8_4∧Aside0 (dZ.l2 kq a0 x4_4 x6_14 x8_4=some r)∧Aside0 (kq≤kj14)∧Aside0 (Kd.R (Kd.int .i64) 3 w' w.heap.size (fun _=>True) v4 x4_4)∧Aside0 (Below w.heap.size w w'))
       case atStart=>exact ⟨(x4_1),(wrap64 (x5_1+2)),bE,H',⟨Nat.le_refl _⟩,⟨aG⟩,⟨aA⟩⟩
       case round =>
        clear H'
        (try clear c3);(try clear c3b0);(try clear c3b1);(try clear c4);(try clear c4b0);(try clear c14);(try clear c28);(try clear c28b0);(try clear c28b1)
        obtain ⟨x4_4,x8_4,rfl,HA,HK4,HO_4,HB⟩:=hrel
        cases gk with
        | zero=>exact absurd HA.out (by simp[dZ.l2])
        | succ k4 =>
         have H:=HA.out;clear HA;simp only[dZ.l2] at H
         by_cases c29:x8_4 < x6_14
         ·rw[if_pos c29] at H;have c29b0:=decide_eq_true c29;clear c29
          by_cases c30:0≤x8_4
          ·rw[if_pos c30] at H;have c30b0:=decide_eq_true c30;clear c30
           by_cases c31:x8_4 < (a0.size:Int)
           ·rw[if_pos c31] at H;have c31b0:=decide_eq_true c31;clear c31
            by_cases c33:(bt a0 x8_4)=46
            ·rw[if_pos c33] at H;have c33b0:=beq_iff_eq.mpr c33;have c33b1:=bne_eq_false_iff_eq.mpr c33;clear c33
             by_cases c34:x4_4.length < 17592186044416
             ·rw[if_pos c34] at H;have LMc34:=bW c34;clear c34
              obtain ⟨y171,hy171⟩:∃ y_:List Int,y_=(x4_4++[x8_4]):=⟨_,rfl⟩
              replace H:(dZ.l2 k4 a0 y171 x6_14 (wrap64 (x8_4+1)))=some r:=by first | (rw[hy171];with_reducible exact H) | (have H2_:=(Option.bind_some _ _).symm.trans H;rw[hy171];with_reducible exact H2_) | (have H2_:=(Option.bind_some _ _).symm.trans H;with_reducible exact H2_) | with_reducible exact H | (rw[hy171];exact H) | exact H
              have Ny171:=bW hy171;clear hy171;have H':=bW H;clear H;have p32:0≤(x8_4:Int):=bV;have q32:x8_4 < (a0.size:Int):=bV;have hx32:=fN a0 x8_4;replace p32:=eq_true p32;replace q32:=eq_true q32
              go_wp2_with (first | ((with_reducible refine nY (b:=.append) (xs:=#[.tmp 80,.tmp 82]) rfl ?_);(try (refine iU bH ?_;dsimp only));at_builtin;refine Kd.R_append (Kd.int .i64) (w0:=w) w.heap.size rfl (.tmp 80) (.tmp 82) 76 3 (.int .i64 0) 8 rfl Tryz.underlying76 info3 rfl bF bA u4 x4_4 x8_4 [.int .i64 x8_4] (fun _=>True) (fun _=>False) rfl rfl ?aP (fun _ hk=>hk.elim) ?aF ?aO ?aB ?aS ?aL ?_;(case aP=>exact rfl);(case aB=>exact bC);(case aF=>exact (fun _ _=>trivial));(case aO=>exact (by (with_reducible repeat (first | apply Kd.R_alloc | apply Kd.R_drewN | apply Kd.R_drew));exact HO_4.out));(case aS=>exact (eJ bC));(case aL=>have:=LMc34.out;omega);intro v172 w35 ho hb hg hat;rw[← Ny171.out] at ho;have n0_:=bW (hb);have n1_:=bW (ho);clear HB;clear HO_4;have HB:=n0_;have HO173:=n1_;clear n0_ n1_;clear ho hb hg hat))
              go_roundg k4
              case measure=>have:=HK1.out;have:=HJ4.out;have:=HJ14.out;have:=HK4.out;omega
              case rel=>exact ⟨(y171),(wrap64 (x8_4+1)),bE,H',⟨dX⟩,⟨by (with_reducible repeat (first | apply Kd.R_alloc | apply Kd.R_drewN | apply Kd.R_drew));exact HO173.out⟩,⟨aA⟩⟩
             rw[if_neg c34] at H;exact absurd H bJ
            rw[if_neg c33] at H;have c33b0:=beq_eq_false_iff_ne.mpr c33;have c33b1:=bne_iff_ne.mpr c33;have H':=bW H;clear H;have p32:0≤(x8_4:Int):=bV;have q32:x8_4 < (a0.size:Int):=bV;have hx32:=fN a0 x8_4;replace p32:=eq_true p32;replace q32:=eq_true q32;go_wp2
            go_roundg k4
            case measure=>have:=HK1.out;have:=HJ4.out;have:=HJ14.out;have:=HK4.out;omega
            case rel=>exact ⟨(x4_4),(wrap64 (x8_4+1)),bE,H',⟨dX⟩,⟨aG⟩,⟨aA⟩⟩
           rw[if_neg c31] at H;exact absurd H bJ
          rw[if_neg c30] at H;exact absurd H bJ
         rw[if_neg c29] at H;have c29b0:=decide_eq_false c29;clear c29;have H':=bW H;clear H;go_wp2
         go_roundg k4
         case measure=>have:=HK1.out;have:=HJ4.out;have:=HJ14.out;have:=HK4.out;omega
         case rel=>exact ⟨(x4_4),(wrap64 (x6_14+1)),bE,H',⟨dX⟩,⟨aG⟩,⟨aA⟩⟩
     replace c14:=Bool.eq_false_iff.mpr c14;subst c14;rw[if_neg (show ¬ (false=true) by decide)] at H;have H':=bW H;clear H;go_wp2
     go_roundg kj4
     case measure=>have:=HK1.out;have:=HJ4.out;omega
     case rel=>exact ⟨(x4_1),(wrap64 (x5_1+1)),bE,H',⟨by have:=HK1.out;have:=HJ4.out;omega⟩,⟨aG⟩,⟨aA⟩⟩
   rw[if_neg c4] at H;have c4b0:=decide_eq_false c4;clear c4;obtain rfl:=Option.some.inj H;go_wp2;go_ret;exact ⟨_,aC,aG,aA⟩
end Go.Proofs.YtlkoeeccebmjmaaGreatDoor.PCore
namespace Go.Proofs.YtlkoeeccebmjmaaGreatDoor.PCore
open Go.RowKit Go.ZW.PrintWords Go.ZW.PrintLast Go.ZW.PrintMore
attribute [local go_sem] lD lF mD mE kR kS lE lG   -- for this text's walks alone
def eS.l0:Nat→Int→List Int→Int→Int→Option (Bool)
 | 0,_,_,_,_=>none
 | k+1,x1,x7,x8,x9=>if x9 < x8 then (if 0≤x9 then (if x9 < (x7.length:Int) then (if (rd x7 x9)=x1 then (some true) else (if (rd x7 x9) > x1 then (some false) else (eS.l0 k x1 x7 x8 (wrap64 (x9+1))))) else (none)) else (none)) else (some false)
def eS.f (k:Nat) (l0:List Int) (a1:Int):Option (Bool):=eS.l0 k a1 l0 (l0.length:Int) 0
theorem eS.mono_l:∀ k,(∀ y0 y1 y2 y3,LeO (eS.l0 k y0 y1 y2 y3) (eS.l0 (k+1) y0 y1 y2 y3))
 | 0=>fun _ _ _ _ r h=>by simp[eS.l0] at h
 | k+1=>by
  have ih0:=eS.mono_l k
  intro y0 y1 y2 y3;unfold eS.l0
  exact cW
theorem eS.mono:∀ a0 a1 k,LeO (eS.f k a0 a1) (eS.f (k+1) a0 a1):=by
 intro a0 a1 k;have ih0:=eS.mono_l k;unfold eS.f
 exact cW
theorem eS.calls (k:Nat) (A0:Option Addr) (c0:Nat) (l0:List Int) (a1:Int) (r:Bool) (w:World) (hr0:Kd.C (Kd.int .i64) w A0 l0.length l0) (hc0:l0.length≤c0) (h:eS.f k l0 a1=some r) :
 Calls Tryz.prog 148 #[.slice A0 l0.length c0,.int .i64 a1] w fun e w'=>e = .returned (.bool r)∧eV w w':=by
 have HR0:=bW hr0;have HC0:=bW hc0;clear hr0 hc0;unfold eS.f at h;have H:=h;clear h;have H':=bW H;clear H;go_enter Tryz.func148,Tryz.ntmps148;go_wp2
 go_loopg [9] k (fun kq v9 w'=>∃ (x9_1:Int),v9 = .int .i64 x9_1∧Aside0 (eS.l0 kq a1 l0 (l0.length:Int) x9_1=some r)∧Aside0 (kq≤k)∧eV w w')
 case atStart=>exact ⟨(0),bE,H',⟨Nat.le_refl _⟩,dH⟩
 case round =>
  clear H'
  obtain ⟨x9_1,rfl,HA,HK1,⟨m1,rfl⟩⟩:=hrel
  cases gk with
  | zero=>exact absurd HA.out (by simp[eS.l0])
  | succ k1 =>
   have H:=HA.out;clear HA;simp only[eS.l0] at H
   by_cases c3:x9_1 < (l0.length:Int)
   ·rw[if_pos c3] at H;have c3b0:=decide_eq_true c3;clear c3
    by_cases c4:0≤x9_1
    ·rw[if_pos c4] at H;have c4b0:=decide_eq_true c4;clear c4
     by_cases c5:x9_1 < (l0.length:Int)
     ·rw[if_pos c5] at H;have c5b0:=decide_eq_true c5;clear c5
      by_cases c6:(rd l0 x9_1)=a1
      ·rw[if_pos c6] at H;have c6b0:=beq_iff_eq.mpr c6;have c6b1:=bne_eq_false_iff_eq.mpr c6;clear c6;obtain rfl:=Option.some.inj H;have p174:0≤(x9_1:Int):=bV;have q174:x9_1 < (l0.length:Int):=bV;obtain ⟨ad174,e174,hx174_0⟩:=Kd.at_int HR0.out x9_1 p174 q174;cases e174;replace p174:=eq_true p174;replace q174:=eq_true q174;go_wp2;go_ret;exact ⟨bE,dH⟩
      rw[if_neg c6] at H;have c6b0:=beq_eq_false_iff_ne.mpr c6;have c6b1:=bne_iff_ne.mpr c6
      by_cases c7:(rd l0 x9_1) > a1
      ·rw[if_pos c7] at H;have c7b0:=decide_eq_true c7;clear c7;obtain rfl:=Option.some.inj H;have p174:0≤(x9_1:Int):=bV;have q174:x9_1 < (l0.length:Int):=bV;obtain ⟨ad174,e174,hx174_0⟩:=Kd.at_int HR0.out x9_1 p174 q174;cases e174;replace p174:=eq_true p174;replace q174:=eq_true q174;go_wp2;go_ret;exact ⟨bE,dH⟩
      rw[if_neg c7] at H;have c7b0:=decide_eq_false c7;clear c7;have H':=bW H;clear H;have p174:0≤(x9_1:Int):=bV;have q174:x9_1 < (l0.length:Int):=bV;obtain ⟨ad174,e174,hx174_0⟩:=Kd.at_int HR0.out x9_1 p174 q174;cases e174;replace p174:=eq_true p174;replace q174:=eq_true q174;go_wp2
      go_roundg k1
      case measure=>have:=HK1.out;omega
      case rel=>exact ⟨(wrap64 (x9_1+1)),bE,H',⟨aW⟩,dH⟩
     rw[if_neg c5] at H;exact absurd H bJ
    rw[if_neg c4] at H;exact absurd H bJ
   rw[if_neg c3] at H;have c3b0:=decide_eq_false c3;clear c3;obtain rfl:=Option.some.inj H;go_wp2;go_ret;exact ⟨bE,dH⟩
def eS.Pure:Prop:=∀ (l0:List Int) (a1:Int),l0.length≤maxLen→l0.length * 8≤140737488351232→(∀ x∈l0,(Lit.int .i64 x).wf=true)→(Lit.int .i64 a1).wf=true→∃ k,eS.f k l0 a1=some true
theorem eS.walk (P:eS.Pure) (a0:Option Addr) (len0 cap0:Nat) (z0:List Int) (a1:Int) (w:World) (w0:(a0=none∧len0=0∧cap0=0∧z0=[])∨∃ x,a0=some x∧len0≤cap0∧cap0≤maxLen∧z0.length=cap0∧(∀ i,i < z0.length→w.cell? (x.add i)=some (.int .i64 (z0.getD i 0)))∧∀ n∈z0,(Lit.int .i64 n).wf=true) (y0:len0 * 8≤140737488351232) (w1:(Lit.int .i64 a1).wf=true) :
 Calls Tryz.prog 148 #[.slice a0 len0 cap0,.int .i64 a1] w fun e w'=>e = .returned (.bool true)∧Below w.heap.size w w':=by
 obtain ⟨l0,rfl,hr0,hm0,hw0,hc0⟩:=iX.ofRowC w0;obtain ⟨k,h⟩:=P l0 a1 hm0 y0 hw0 w1;refine (eS.calls k _ _ l0 a1 true w (Kd.C_of_reads (d:=(0:Int)) (h1:=fun _=>rfl) hr0) hc0 h).mono ?_;rintro e w' ⟨rfl,hd⟩;exact ⟨rfl,hd.below⟩
def fB.l0:Nat→ByteArray→ByteArray→Int→Option (Int)
 | 0,_,_,_=>none
 | k+1,x0,x1,x5=>if (wrap64 (x5+(x1.size:Int)))≤(x0.size:Int) then (if 0≤x5 then (if x5≤(wrap64 (x5+(x1.size:Int))) then (if (x0.extract (x5:Int).toNat ((wrap64 (x5+(x1.size:Int))):Int).toNat).toList=x1.toList then (some x5) else (fB.l0 k x0 x1 (wrap64 (x5+1)))) else (none)) else (none)) else (some (-1))
def fB.f (k:Nat) (a0:ByteArray) (a1:ByteArray):Option (Int):=fB.l0 k a0 a1 0
theorem fB.mono_l:∀ k,(∀ y0 y1 y2,LeO (fB.l0 k y0 y1 y2) (fB.l0 (k+1) y0 y1 y2))
 | 0=>fun _ _ _ r h=>by simp[fB.l0] at h
 | k+1=>by
  have ih0:=fB.mono_l k
  intro y0 y1 y2;unfold fB.l0
  exact cZ
theorem fB.mono:∀ a0 a1 k,LeO (fB.f k a0 a1) (fB.f (k+1) a0 a1):=by
 intro a0 a1 k;have ih0:=fB.mono_l k;unfold fB.f
 exact cZ
theorem fB.calls (k:Nat) (a0:ByteArray) (a1:ByteArray) (r:Int) (w:World) (h:fB.f k a0 a1=some r) :
 Calls Tryz.prog 159 #[.string a0,.string a1] w fun e w'=>e = .returned (.int .i64 r)∧eV w w':=by
 unfold fB.f at h;have H:=h;clear h;have H':=bW H;clear H;go_enter Tryz.func159,Tryz.ntmps159;go_wp2
 go_loopg [5] k (fun kq v5 w'=>∃ (x5_1:Int),v5 = .int .i64 x5_1∧Aside0 (fB.l0 kq a0 a1 x5_1=some r)∧Aside0 (kq≤k)∧eV w w')
 case atStart=>exact ⟨(0),bE,H',⟨Nat.le_refl _⟩,dH⟩
 case round =>
  clear H'
  obtain ⟨x5_1,rfl,HA,HK1,⟨m1,rfl⟩⟩:=hrel
  cases gk with
  | zero=>exact absurd HA.out (by simp[fB.l0])
  | succ k1 =>
   have H:=HA.out;clear HA;simp only[fB.l0] at H
   by_cases c3:(wrap64 (x5_1+(a1.size:Int)))≤(a0.size:Int)
   ·rw[if_pos c3] at H;have c3b0:=decide_eq_true c3;clear c3
    by_cases c4:0≤x5_1
    ·rw[if_pos c4] at H;have c4b0:=eq_true c4;have c4b1:=decide_eq_true c4;clear c4
     by_cases c5:x5_1≤(wrap64 (x5_1+(a1.size:Int)))
     ·rw[if_pos c5] at H;have c5b0:=eq_true c5;have c5b1:=decide_eq_true c5;have c6b0:=eq_true (bV:(wrap64 (x5_1+(a1.size:Int)))≤(a0.size:Int))
      by_cases c7:(a0.extract (x5_1:Int).toNat ((wrap64 (x5_1+(a1.size:Int))):Int).toNat).toList=a1.toList
      ·rw[if_pos c7] at H;have c7b0:=beq_iff_eq.mpr c7;have c7b1:=bne_eq_false_iff_eq.mpr c7;clear c7;obtain rfl:=Option.some.inj H;go_wp2;go_ret;exact ⟨bE,dH⟩
      rw[if_neg c7] at H;have c7b0:=beq_eq_false_iff_ne.mpr c7;have c7b1:=bne_iff_ne.mpr c7;have H':=bW H;clear H;go_wp2
      go_roundg k1
      case measure=>have:=HK1.out;omega
      case rel=>exact ⟨(wrap64 (x5_1+1)),bE,H',⟨aW⟩,dH⟩
     rw[if_neg c5] at H;exact absurd H bJ
    rw[if_neg c4] at H;exact absurd H bJ
   rw[if_neg c3] at H;have c3b0:=decide_eq_false c3;clear c3;obtain rfl:=Option.some.inj H;go_wp2;go_ret;exact ⟨bE,dH⟩
def gS.f (k:Nat) (a0:ByteArray) (a1:ByteArray):Option (Bool):=(fB.f k a0 a1).bind fun t175=>(some (decide (t175≥0)))
theorem gS.mono:∀ a0 a1 k,LeO (gS.f k a0 a1) (gS.f (k+1) a0 a1):=by
 intro a0 a1 k;unfold gS.f
 repeat' first
  | (with_reducible exact fB.mono _ _ _)
  | (with_reducible exact LeO.refl _)
  | (with_reducible exact LeO.none _)
  | (with_reducible refine LeO.ite ?_ ?_)
  | (with_reducible refine LeO.bind ?_ (fun _=>?_))
  | exact fB.mono _ _ _
  | exact LeO.none _
  | refine LeO.ite ?_ ?_
  | refine LeO.bind ?_ (fun _=>?_)
theorem gS.calls (k:Nat) (a0:ByteArray) (a1:ByteArray) (r:Bool) (w:World) (h:gS.f k a0 a1=some r) :
 Calls Tryz.prog 147 #[.string a0,.string a1] w fun e w'=>e = .returned (.bool r)∧eV w w':=by
 unfold gS.f at h;have H:=h;clear h;replace H:=Option.bind_eq_some_iff.mp H;obtain ⟨t175,A30,H⟩:=H;have A3:=bW A30;clear A30;obtain rfl:=Option.some.inj H;go_enter Tryz.func147,Tryz.ntmps147
 go_wp2_with (first | ((with_reducible refine eQ (f:=159) rfl ?_);refine fU (some 7) rfl rfl Tryz.func159 bB rfl #[.string a0,.string a1] rfl bD ?_;(with_reducible refine (fB.calls k a0 a1 t175 _ A3.out).mono ?_);rintro e w' ⟨rfl,⟨nd,rfl⟩⟩;refine ⟨_,rfl,?_⟩))
 go_ret;exact ⟨bE,dH⟩
def gS.Pure:Prop:=∀ (a0:ByteArray) (a1:ByteArray),a0.size≤140737488351232→a1.size≤140737488351232→∃ k,gS.f k a0 a1=some true
theorem gS.walk (P:gS.Pure) (a0:ByteArray) (a1:ByteArray) (w:World) (w0:a0.size≤140737488351232) (w1:a1.size≤140737488351232) :
 Calls Tryz.prog 147 #[.string a0,.string a1] w fun e w'=>e = .returned (.bool true)∧Below w.heap.size w w':=by
 obtain ⟨k,h⟩:=P a0 a1 w0 w1;refine (gS.calls k a0 a1 true w h).mono ?_;rintro e w' ⟨rfl,hd⟩;exact ⟨rfl,hd.below⟩
def kY.f (a0:ByteArray):Option (Bool):=some (a0.toList==([103,111,116,109,112,108]:List UInt8))
theorem kY.calls (a0:ByteArray) (r:Bool) (w:World) (h:kY.f a0=some r) :
 Calls Tryz.prog 167 #[.string a0] w fun e w'=>e = .returned (.bool r)∧eV w w':=by
 unfold kY.f at h;have H:=h;clear h;obtain rfl:=Option.some.inj H;go_enter Tryz.func167,Tryz.ntmps167;go_wp2;go_ret;exact ⟨bE,dH⟩
def hZ.f (a0:ByteArray):Option (Bool):=(kY.f a0).bind fun t176=>(some t176)
theorem hZ.calls (a0:ByteArray) (r:Bool) (w:World) (h:hZ.f a0=some r) :
 Calls Tryz.prog 150 #[.string a0] w fun e w'=>e = .returned (.bool r)∧eV w w':=by
 unfold hZ.f at h;have H:=h;clear h;replace H:=Option.bind_eq_some_iff.mp H;obtain ⟨t176,A20,H⟩:=H;have A2:=bW A20;clear A20;obtain rfl:=Option.some.inj H;go_enter Tryz.func150,Tryz.ntmps150
 go_wp2_with (first | ((with_reducible refine eQ (f:=167) rfl ?_);refine fU (some 4) rfl rfl Tryz.func167 bB rfl #[.string a0] rfl bD ?_;(with_reducible refine (kY.calls a0 t176 _ A2.out).mono ?_);rintro e w' ⟨rfl,⟨nd,rfl⟩⟩;refine ⟨_,rfl,?_⟩))
 go_ret;exact ⟨bE,dH⟩
def hZ.Pure:Prop:=∀ (a0:ByteArray),a0.size≤140737488351232→hZ.f a0=some true
theorem hZ.walk (P:hZ.Pure) (a0:ByteArray) (w:World) (w0:a0.size≤140737488351232) :
 Calls Tryz.prog 150 #[.string a0] w fun e w'=>e = .returned (.bool true)∧Below w.heap.size w w':=by
 have h:=P a0 w0;refine (hZ.calls a0 true w h).mono ?_;rintro e w' ⟨rfl,hd⟩;exact ⟨rfl,hd.below⟩
def kJ.f (a0:ByteArray) (a1:ByteArray):Option (Bool):=if (a0.size:Int)≥(a1.size:Int) then (if 0≤(a1.size:Int) then (if (a1.size:Int)≤(a0.size:Int) then (some ((a0.extract 0 ((a1.size:Int):Int).toNat).toList==a1.toList)) else (none)) else (none)) else (some false)
theorem kJ.calls (a0:ByteArray) (a1:ByteArray) (r:Bool) (w:World) (h:kJ.f a0 a1=some r) :
 Calls Tryz.prog 16 #[.string a0,.string a1] w fun e w'=>e = .returned (.bool r)∧eV w w':=by
 unfold kJ.f at h;have H:=h;clear h
 by_cases c3:(a0.size:Int)≥(a1.size:Int)
 ·rw[if_pos c3] at H;have c3b0:=decide_eq_true c3;have c3b1:decide (a1.size≤a0.size)=true:=decide_eq_true (Int.ofNat_le.mp c3);clear c3
  by_cases c4:0≤(a1.size:Int)
  ·rw[if_pos c4] at H;have c4b0:=eq_true c4;have c4b1:=decide_eq_true c4;clear c4
   by_cases c5:(a1.size:Int)≤(a0.size:Int)
   ·rw[if_pos c5] at H;have c5b0:=eq_true c5;have c5b1:=decide_eq_true c5;clear c5;obtain rfl:=Option.some.inj H;go_enter Tryz.func16,Tryz.ntmps16;go_wp2;go_ret;exact ⟨bE,dH⟩
   rw[if_neg c5] at H;exact absurd H bJ
  rw[if_neg c4] at H;exact absurd H bJ
 rw[if_neg c3] at H;have c3b0:=decide_eq_false c3;have c3b1:decide (a1.size≤a0.size)=false:=decide_eq_false (fun h=>c3 (Int.ofNat_le.mpr h));clear c3;obtain rfl:=Option.some.inj H;go_enter Tryz.func16,Tryz.ntmps16;go_wp2;go_ret;exact ⟨bE,dH⟩
def kJ.Pure:Prop:=∀ (a0:ByteArray) (a1:ByteArray),a0.size≤140737488351232→a1.size≤140737488351232→kJ.f a0 a1=some true
theorem kJ.walk (P:kJ.Pure) (a0:ByteArray) (a1:ByteArray) (w:World) (w0:a0.size≤140737488351232) (w1:a1.size≤140737488351232) :
 Calls Tryz.prog 16 #[.string a0,.string a1] w fun e w'=>e = .returned (.bool true)∧Below w.heap.size w w':=by
 have h:=P a0 a1 w0 w1;refine (kJ.calls a0 a1 true w h).mono ?_;rintro e w' ⟨rfl,hd⟩;exact ⟨rfl,hd.below⟩
def fK.l0:Nat→List (S53)→ByteArray→Int→Option (Bool)
 | 0,_,_,_=>none
 | k+1,x0,x1,x5=>if x5 < (x0.length:Int) then (if 0≤x5 then (if ((gQ x0 x5).f0).toList=x1.toList then (some true) else (fK.l0 k x0 x1 (wrap64 (x5+1)))) else (none)) else (some false)
def fK.f (k:Nat) (l0:List (S53)) (a1:ByteArray):Option (Bool):=fK.l0 k l0 a1 0
theorem fK.mono_l:∀ k,(∀ y0 y1 y2,LeO (fK.l0 k y0 y1 y2) (fK.l0 (k+1) y0 y1 y2))
 | 0=>fun _ _ _ r h=>by simp[fK.l0] at h
 | k+1=>by
  have ih0:=fK.mono_l k
  intro y0 y1 y2;unfold fK.l0
  exact cZ
theorem fK.mono:∀ a0 a1 k,LeO (fK.f k a0 a1) (fK.f (k+1) a0 a1):=by
 intro a0 a1 k;have ih0:=fK.mono_l k;unfold fK.f
 exact cZ
theorem fK.calls (k:Nat) (A0:Option Addr) (c0:Nat) (l0:List (S53)) (a1:ByteArray) (r:Bool) (w:World) (hr0:Kd.C k53 w A0 l0.length l0) (hc0:l0.length≤c0) (h:fK.f k l0 a1=some r) :
 Calls Tryz.prog 116 #[.slice A0 l0.length c0,.string a1] w fun e w'=>e = .returned (.bool r)∧eV w w':=by
 have HR0:=bW hr0;have HC0:=bW hc0;clear hr0 hc0;unfold fK.f at h;have H:=h;clear h;have H':=bW H;clear H;go_enter Tryz.func116,Tryz.ntmps116;go_wp2
 go_loopg [5] k (fun kq v5 w'=>∃ (x5_1:Int),v5 = .int .i64 x5_1∧Aside0 (fK.l0 kq l0 a1 x5_1=some r)∧Aside0 (kq≤k)∧eV w w')
 case atStart=>exact ⟨(0),bE,H',⟨Nat.le_refl _⟩,dH⟩
 case round =>
  clear H'
  obtain ⟨x5_1,rfl,HA,HK1,⟨m1,rfl⟩⟩:=hrel
  cases gk with
  | zero=>exact absurd HA.out (by simp[fK.l0])
  | succ k1 =>
   have H:=HA.out;clear HA;simp only[fK.l0] at H
   by_cases c3:x5_1 < (l0.length:Int)
   ·rw[if_pos c3] at H;have c3b0:=decide_eq_true c3;clear c3
    by_cases c4:0≤x5_1
    ·rw[if_pos c4] at H;have c4b0:=decide_eq_true c4;clear c4
     by_cases c5:((gQ l0 x5_1).f0).toList=a1.toList
     ·rw[if_pos c5] at H;have c5b0:=beq_iff_eq.mpr c5;have c5b1:=bne_eq_false_iff_eq.mpr c5;clear c5;obtain rfl:=Option.some.inj H;have p177:0≤(x5_1:Int):=bV;have q177:x5_1 < (l0.length:Int):=bV;obtain ⟨ad177,e177,hx177_0,hx177_1⟩:=kX HR0.out x5_1 p177 q177;cases e177;replace p177:=eq_true p177;replace q177:=eq_true q177;go_wp2;go_ret;exact ⟨bE,dH⟩
     rw[if_neg c5] at H;have c5b0:=beq_eq_false_iff_ne.mpr c5;have c5b1:=bne_iff_ne.mpr c5;have H':=bW H;clear H;have p177:0≤(x5_1:Int):=bV;have q177:x5_1 < (l0.length:Int):=bV;obtain ⟨ad177,e177,hx177_0,hx177_1⟩:=kX HR0.out x5_1 p177 q177;cases e177;replace p177:=eq_true p177;replace q177:=eq_true q177;go_wp2
     go_roundg k1
     case measure=>have:=HK1.out;omega
     case rel=>exact ⟨(wrap64 (x5_1+1)),bE,H',⟨aW⟩,dH⟩
    rw[if_neg c4] at H;exact absurd H bJ
   rw[if_neg c3] at H;have c3b0:=decide_eq_false c3;clear c3;obtain rfl:=Option.some.inj H;go_wp2;go_ret;exact ⟨bE,dH⟩
def fI.l0:Nat→List (S53)→ByteArray→ByteArray→Int→Option (Bool)
 | 0,_,_,_,_=>none
 | k+1,x0,x1,x2,x7=>if x7 < (x0.length:Int) then (if 0≤x7 then (if ((gQ x0 x7).f0).toList=x1.toList then (if ((gQ x0 x7).f1).toList=x2.toList then (some true) else (fI.l0 k x0 x1 x2 (wrap64 (x7+1)))) else (fI.l0 k x0 x1 x2 (wrap64 (x7+1)))) else (none)) else (some false)
def fI.f (k:Nat) (l0:List (S53)) (a1:ByteArray) (a2:ByteArray):Option (Bool):=fI.l0 k l0 a1 a2 0
theorem fI.mono_l:∀ k,(∀ y0 y1 y2 y3,LeO (fI.l0 k y0 y1 y2 y3) (fI.l0 (k+1) y0 y1 y2 y3))
 | 0=>fun _ _ _ _ r h=>by simp[fI.l0] at h
 | k+1=>by
  have ih0:=fI.mono_l k
  intro y0 y1 y2 y3;unfold fI.l0
  exact cW
theorem fI.mono:∀ a0 a1 a2 k,LeO (fI.f k a0 a1 a2) (fI.f (k+1) a0 a1 a2):=by
 intro a0 a1 a2 k;have ih0:=fI.mono_l k;unfold fI.f
 exact cW
theorem fI.calls (k:Nat) (A0:Option Addr) (c0:Nat) (l0:List (S53)) (a1:ByteArray) (a2:ByteArray) (r:Bool) (w:World) (hr0:Kd.C k53 w A0 l0.length l0) (hc0:l0.length≤c0) (h:fI.f k l0 a1 a2=some r) :
 Calls Tryz.prog 140 #[.slice A0 l0.length c0,.string a1,.string a2] w fun e w'=>e = .returned (.bool r)∧eV w w':=by
 have HR0:=bW hr0;have HC0:=bW hc0;clear hr0 hc0;unfold fI.f at h;have H:=h;clear h;have H':=bW H;clear H;go_enter Tryz.func140,Tryz.ntmps140;go_wp2
 go_loopg [7] k (fun kq v7 w'=>∃ (x7_1:Int),v7 = .int .i64 x7_1∧Aside0 (fI.l0 kq l0 a1 a2 x7_1=some r)∧Aside0 (kq≤k)∧eV w w')
 case atStart=>exact ⟨(0),bE,H',⟨Nat.le_refl _⟩,dH⟩
 case round =>
  clear H'
  obtain ⟨x7_1,rfl,HA,HK1,⟨m1,rfl⟩⟩:=hrel
  cases gk with
  | zero=>exact absurd HA.out (by simp[fI.l0])
  | succ k1 =>
   have H:=HA.out;clear HA;simp only[fI.l0] at H
   by_cases c4:x7_1 < (l0.length:Int)
   ·rw[if_pos c4] at H;have c4b0:=decide_eq_true c4;clear c4
    by_cases c5:0≤x7_1
    ·rw[if_pos c5] at H;have c5b0:=decide_eq_true c5;clear c5
     by_cases c6:((gQ l0 x7_1).f0).toList=a1.toList
     ·rw[if_pos c6] at H;have c6b0:=beq_iff_eq.mpr c6;have c6b1:=bne_eq_false_iff_eq.mpr c6;clear c6
      by_cases c7:((gQ l0 x7_1).f1).toList=a2.toList
      ·rw[if_pos c7] at H;have c7b0:=beq_iff_eq.mpr c7;have c7b1:=bne_eq_false_iff_eq.mpr c7;clear c7;obtain rfl:=Option.some.inj H;have p178:0≤(x7_1:Int):=bV;have q178:x7_1 < (l0.length:Int):=bV;obtain ⟨ad178,e178,hx178_0,hx178_1⟩:=kX HR0.out x7_1 p178 q178;cases e178;replace p178:=eq_true p178;replace q178:=eq_true q178;have p179:0≤(x7_1:Int):=bV;have q179:x7_1 < (l0.length:Int):=bV;obtain ⟨ad179,e179,hx179_0,hx179_1⟩:=kX HR0.out x7_1 p179 q179
       obtain rfl:ad178=ad179:=(by injection e179)
       replace p179:=eq_true p179;replace q179:=eq_true q179;go_wp2;go_ret;exact ⟨bE,dH⟩
      rw[if_neg c7] at H;have c7b0:=beq_eq_false_iff_ne.mpr c7;have c7b1:=bne_iff_ne.mpr c7;have H':=bW H;clear H;have p178:0≤(x7_1:Int):=bV;have q178:x7_1 < (l0.length:Int):=bV;obtain ⟨ad178,e178,hx178_0,hx178_1⟩:=kX HR0.out x7_1 p178 q178;cases e178;replace p178:=eq_true p178;replace q178:=eq_true q178;have p179:0≤(x7_1:Int):=bV;have q179:x7_1 < (l0.length:Int):=bV;obtain ⟨ad179,e179,hx179_0,hx179_1⟩:=kX HR0.out x7_1 p179 q179
      obtain rfl:ad178=ad179:=(by injection e179)
      replace p179:=eq_true p179;replace q179:=eq_true q179;go_wp2
      go_roundg k1
      case measure=>have:=HK1.out;omega
      case rel=>exact ⟨(wrap64 (x7_1+1)),bE,H',⟨aW⟩,dH⟩
     rw[if_neg c6] at H;have c6b0:=beq_eq_false_iff_ne.mpr c6;have c6b1:=bne_iff_ne.mpr c6;have H':=bW H;clear H;have p178:0≤(x7_1:Int):=bV;have q178:x7_1 < (l0.length:Int):=bV;obtain ⟨ad178,e178,hx178_0,hx178_1⟩:=kX HR0.out x7_1 p178 q178;cases e178;replace p178:=eq_true p178;replace q178:=eq_true q178;go_wp2
     go_roundg k1
     case measure=>have:=HK1.out;omega
     case rel=>exact ⟨(wrap64 (x7_1+1)),bE,H',⟨aW⟩,dH⟩
    rw[if_neg c5] at H;exact absurd H bJ
   rw[if_neg c4] at H;have c4b0:=decide_eq_false c4;clear c4;obtain rfl:=Option.some.inj H;go_wp2;go_ret;exact ⟨bE,dH⟩
def nV.f (a0:ByteArray) (a1:ByteArray):Option (ByteArray×Bool):=(iI.f a0).bind fun t180=>((iJ.f t180 a1).bind fun t181=>(if t181=true then (if 0≤(a1.size:Int) then (if (a1.size:Int)≤(a0.size:Int) then (some (a0.extract ((a1.size:Int):Int).toNat a0.size,true)) else (none)) else (none)) else (some ((⟨#[]⟩:ByteArray),false))))
theorem nV.calls (a0:ByteArray) (a1:ByteArray) (r1:ByteArray) (r2:Bool) (w:World) (h:nV.f a0 a1=some (r1,r2)) :
 Calls Tryz.prog 138 #[.string a0,.string a1] w fun e w'=>e = .returned (.tuple #[.string r1,.bool r2])∧Below w.heap.size w w':=by
 have HB:=bW (Below.refl w.heap.size w);unfold nV.f at h;have H:=h;clear h;replace H:=Option.bind_eq_some_iff.mp H;obtain ⟨t180,A30,H⟩:=H;have A3:=bW A30;clear A30;replace H:=Option.bind_eq_some_iff.mp H;obtain ⟨t181,A40,H⟩:=H;have A4:=bW A40;clear A40
 by_cases c5:t181=true
 ·subst c5;have H1:(if 0≤(a1.size:Int) then (if (a1.size:Int)≤(a0.size:Int) then (some (a0.extract ((a1.size:Int):Int).toNat a0.size,true)) else (none)) else (none))=some (r1,r2):=by rw[if_pos rfl] at H;exact H
  clear H;have H:=H1;clear H1
  by_cases c6:0≤(a1.size:Int)
  ·rw[if_pos c6] at H;have c6b0:=eq_true c6;have c6b1:=decide_eq_true c6;clear c6
   by_cases c7:(a1.size:Int)≤(a0.size:Int)
   ·rw[if_pos c7] at H;have c7b0:=eq_true c7;have c7b1:=decide_eq_true c7;clear c7;simp only[Option.some.injEq,Prod.mk.injEq] at H;obtain ⟨rfl,rfl⟩:=H;go_enter Tryz.func138,Tryz.ntmps138
    go_wp2_with (first | ((with_reducible refine eQ (f:=123) rfl ?_);refine fU (some 7) rfl rfl Tryz.func123 bB rfl #[.string a0] rfl bD ?_;(with_reducible refine (iI.calls a0 t180 _ A3.out).mono ?_);rintro e w8 ⟨rfl,hb⟩;refine ⟨_,rfl,?_⟩;replace HB:=bW (eA bC hb);(try clear hb);(try clear hb2);(try clear hk);(try clear hi)) | ((with_reducible refine eQ (f:=122) rfl ?_);refine fU (some 9) rfl rfl Tryz.func122 bB rfl #[.string t180,.string a1] rfl bD ?_;(with_reducible refine (iJ.calls t180 a1 true _ A4.out).mono ?_);rintro e w' ⟨rfl,⟨nd,rfl⟩⟩;refine ⟨_,rfl,?_⟩))
    go_ret2
    exact ⟨aC,aA⟩
   rw[if_neg c7] at H;exact absurd H bJ
  rw[if_neg c6] at H;exact absurd H bJ
 replace c5:=Bool.eq_false_iff.mpr c5;subst c5;have H1:(some ((⟨#[]⟩:ByteArray),false))=some (r1,r2):=by rw[if_neg (show ¬ (false=true) by decide)] at H;exact H
 clear H;have H:=H1;clear H1;simp only[Option.some.injEq,Prod.mk.injEq] at H;obtain ⟨rfl,rfl⟩:=H;go_enter Tryz.func138,Tryz.ntmps138
 go_wp2_with (first | ((with_reducible refine eQ (f:=123) rfl ?_);refine fU (some 7) rfl rfl Tryz.func123 bB rfl #[.string a0] rfl bD ?_;(with_reducible refine (iI.calls a0 t180 _ A3.out).mono ?_);rintro e w9 ⟨rfl,hb⟩;refine ⟨_,rfl,?_⟩;replace HB:=bW (eA bC hb);(try clear hb);(try clear hb2);(try clear hk);(try clear hi)) | ((with_reducible refine eQ (f:=122) rfl ?_);refine fU (some 9) rfl rfl Tryz.func122 bB rfl #[.string t180,.string a1] rfl bD ?_;(with_reducible refine (iJ.calls t180 a1 false _ A4.out).mono ?_);rintro e w' ⟨rfl,⟨nd,rfl⟩⟩;refine ⟨_,rfl,?_⟩))
 go_ret2
 exact ⟨aC,aA⟩
def nU.f (a0:ByteArray) (a1:ByteArray):Option (ByteArray):=if a0.toList=([]:List UInt8) then (some a1) else (some a0)
theorem nU.calls (a0:ByteArray) (a1:ByteArray) (r:ByteArray) (w:World) (h:nU.f a0 a1=some r) :
 Calls Tryz.prog 115 #[.string a0,.string a1] w fun e w'=>e = .returned (.string r)∧eV w w':=by
 unfold nU.f at h;have H:=h;clear h
 by_cases c3:a0.toList=([]:List UInt8)
 ·rw[if_pos c3] at H;have c3b0:=beq_iff_eq.mpr c3;have c3b1:=bne_eq_false_iff_eq.mpr c3;clear c3;obtain rfl:=Option.some.inj H;go_enter Tryz.func115,Tryz.ntmps115;go_wp2;go_ret;exact ⟨bE,dH⟩
 rw[if_neg c3] at H;have c3b0:=beq_eq_false_iff_ne.mpr c3;have c3b1:=bne_iff_ne.mpr c3;obtain rfl:=Option.some.inj H;go_enter Tryz.func115,Tryz.ntmps115;go_wp2;go_ret;exact ⟨bE,dH⟩
def kM.f (a0:ByteArray):Option (Bool):=(iI.f a0).bind fun t182=>(if t182.toList=([104,111,109,101]:List UInt8) then (some true) else (if t182.toList=([112,97,103,101]:List UInt8) then (some true) else (if t182.toList=([115,101,99,116,105,111,110]:List UInt8) then (some true) else (if t182.toList=([116,97,120,111,110,111,109,121]:List UInt8) then (some true) else (if t182.toList=([116,101,114,109]:List UInt8) then (some true) else (some (t182.toList==([116,97,120,111,110,111,109,121,116,101,114,109]:List UInt8))))))))
theorem kM.calls (a0:ByteArray) (r:Bool) (w:World) (h:kM.f a0=some r) :
 Calls Tryz.prog 139 #[.string a0] w fun e w'=>e = .returned (.bool r)∧Below w.heap.size w w':=by
 have HB:=bW (Below.refl w.heap.size w);unfold kM.f at h;have H:=h;clear h;replace H:=Option.bind_eq_some_iff.mp H;obtain ⟨t182,A20,H⟩:=H;have A2:=bW A20;clear A20
 by_cases c3:t182.toList=([104,111,109,101]:List UInt8)
 ·rw[if_pos c3] at H;have c3b0:=beq_iff_eq.mpr c3;have c3b1:=bne_eq_false_iff_eq.mpr c3;clear c3;obtain rfl:=Option.some.inj H;go_enter Tryz.func139,Tryz.ntmps139
  go_wp2_with (first | ((with_reducible refine eQ (f:=123) rfl ?_);refine fU (some 4) rfl rfl Tryz.func123 bB rfl #[.string a0] rfl bD ?_;(with_reducible refine (iI.calls a0 t182 _ A2.out).mono ?_);rintro e w4 ⟨rfl,hb⟩;refine ⟨_,rfl,?_⟩;replace HB:=bW (eA bC hb);(try clear hb);(try clear hb2);(try clear hk);(try clear hi)))
  go_ret;exact ⟨aC,aA⟩
 rw[if_neg c3] at H;have c3b0:=beq_eq_false_iff_ne.mpr c3;have c3b1:=bne_iff_ne.mpr c3
 by_cases c5:t182.toList=([112,97,103,101]:List UInt8)
 ·rw[if_pos c5] at H;have c5b0:=beq_iff_eq.mpr c5;have c5b1:=bne_eq_false_iff_eq.mpr c5;clear c5;obtain rfl:=Option.some.inj H;go_enter Tryz.func139,Tryz.ntmps139
  go_wp2_with (first | ((with_reducible refine eQ (f:=123) rfl ?_);refine fU (some 4) rfl rfl Tryz.func123 bB rfl #[.string a0] rfl bD ?_;(with_reducible refine (iI.calls a0 t182 _ A2.out).mono ?_);rintro e w6 ⟨rfl,hb⟩;refine ⟨_,rfl,?_⟩;replace HB:=bW (eA bC hb);(try clear hb);(try clear hb2);(try clear hk);(try clear hi)))
  go_ret;exact ⟨aC,aA⟩
 rw[if_neg c5] at H;have c5b0:=beq_eq_false_iff_ne.mpr c5;have c5b1:=bne_iff_ne.mpr c5
 by_cases c7:t182.toList=([115,101,99,116,105,111,110]:List UInt8)
 ·rw[if_pos c7] at H;have c7b0:=beq_iff_eq.mpr c7;have c7b1:=bne_eq_false_iff_eq.mpr c7;clear c7;obtain rfl:=Option.some.inj H;go_enter Tryz.func139,Tryz.ntmps139
  go_wp2_with (first | ((with_reducible refine eQ (f:=123) rfl ?_);refine fU (some 4) rfl rfl Tryz.func123 bB rfl #[.string a0] rfl bD ?_;(with_reducible refine (iI.calls a0 t182 _ A2.out).mono ?_);rintro e w8 ⟨rfl,hb⟩;refine ⟨_,rfl,?_⟩;replace HB:=bW (eA bC hb);(try clear hb);(try clear hb2);(try clear hk);(try clear hi)))
  go_ret;exact ⟨aC,aA⟩
 rw[if_neg c7] at H;have c7b0:=beq_eq_false_iff_ne.mpr c7;have c7b1:=bne_iff_ne.mpr c7
 by_cases c9:t182.toList=([116,97,120,111,110,111,109,121]:List UInt8)
 ·rw[if_pos c9] at H;have c9b0:=beq_iff_eq.mpr c9;have c9b1:=bne_eq_false_iff_eq.mpr c9;clear c9;obtain rfl:=Option.some.inj H;go_enter Tryz.func139,Tryz.ntmps139
  go_wp2_with (first | ((with_reducible refine eQ (f:=123) rfl ?_);refine fU (some 4) rfl rfl Tryz.func123 bB rfl #[.string a0] rfl bD ?_;(with_reducible refine (iI.calls a0 t182 _ A2.out).mono ?_);rintro e w10 ⟨rfl,hb⟩;refine ⟨_,rfl,?_⟩;replace HB:=bW (eA bC hb);(try clear hb);(try clear hb2);(try clear hk);(try clear hi)))
  go_ret;exact ⟨aC,aA⟩
 rw[if_neg c9] at H;have c9b0:=beq_eq_false_iff_ne.mpr c9;have c9b1:=bne_iff_ne.mpr c9
 by_cases c11:t182.toList=([116,101,114,109]:List UInt8)
 ·rw[if_pos c11] at H;have c11b0:=beq_iff_eq.mpr c11;have c11b1:=bne_eq_false_iff_eq.mpr c11;clear c11;obtain rfl:=Option.some.inj H;go_enter Tryz.func139,Tryz.ntmps139
  go_wp2_with (first | ((with_reducible refine eQ (f:=123) rfl ?_);refine fU (some 4) rfl rfl Tryz.func123 bB rfl #[.string a0] rfl bD ?_;(with_reducible refine (iI.calls a0 t182 _ A2.out).mono ?_);rintro e w12 ⟨rfl,hb⟩;refine ⟨_,rfl,?_⟩;replace HB:=bW (eA bC hb);(try clear hb);(try clear hb2);(try clear hk);(try clear hi)))
  go_ret;exact ⟨aC,aA⟩
 rw[if_neg c11] at H;have c11b0:=beq_eq_false_iff_ne.mpr c11;have c11b1:=bne_iff_ne.mpr c11;obtain rfl:=Option.some.inj H;go_enter Tryz.func139,Tryz.ntmps139
 go_wp2_with (first | ((with_reducible refine eQ (f:=123) rfl ?_);refine fU (some 4) rfl rfl Tryz.func123 bB rfl #[.string a0] rfl bD ?_;(with_reducible refine (iI.calls a0 t182 _ A2.out).mono ?_);rintro e w13 ⟨rfl,hb⟩;refine ⟨_,rfl,?_⟩;replace HB:=bW (eA bC hb);(try clear hb);(try clear hb2);(try clear hk);(try clear hi)))
 go_ret;exact ⟨aC,aA⟩
def kM.Pure:Prop:=∀ (a0:ByteArray),a0.size≤140737488351232→kM.f a0=some true
theorem kM.walk (P:kM.Pure) (a0:ByteArray) (w:World) (w0:a0.size≤140737488351232) :
 Calls Tryz.prog 139 #[.string a0] w fun e w'=>e = .returned (.bool true)∧Below w.heap.size w w':=by
 have h:=P a0 w0;refine (kM.calls a0 true w h).mono ?_;rintro e w' ⟨rfl,hd⟩;exact ⟨rfl,hd⟩
def kD.f (k:Nat) (a0:ByteArray):Option (ByteArray):=(eR.f k a0 (a0.size:Int)).bind fun t183=>(if t183≤0 then (some (⟨#[47]⟩:ByteArray)) else (if 0≤t183 then (if t183≤(a0.size:Int) then (some (a0.extract 0 (t183:Int).toNat)) else (none)) else (none)))
theorem kD.mono:∀ a0 k,LeO (kD.f k a0) (kD.f (k+1) a0):=by
 intro a0 k;unfold kD.f
 exact dE
theorem kD.calls (k:Nat) (a0:ByteArray) (r:ByteArray) (w:World) (h:kD.f k a0=some r) :
 Calls Tryz.prog 101 #[.string a0] w fun e w'=>e = .returned (.string r)∧eV w w':=by
 unfold kD.f at h;have H:=h;clear h;replace H:=Option.bind_eq_some_iff.mp H;obtain ⟨t183,A20,H⟩:=H;have A2:=bW A20;clear A20
 by_cases c3:t183≤0
 ·rw[if_pos c3] at H;have c3b0:=decide_eq_true c3;clear c3;obtain rfl:=Option.some.inj H;go_enter Tryz.func101,Tryz.ntmps101
  go_wp2_with (first | ((with_reducible refine eQ (f:=106) rfl ?_);refine fU (some 7) rfl rfl Tryz.func106 bB rfl #[.string a0,.int .i64 (a0.size:Int)] rfl bD ?_;(with_reducible refine (eR.calls k a0 (a0.size:Int) t183 _ A2.out).mono ?_);rintro e w' ⟨rfl,⟨nd,rfl⟩⟩;refine ⟨_,rfl,?_⟩))
  go_ret;exact ⟨bE,dH⟩
 rw[if_neg c3] at H;have c3b0:=decide_eq_false c3;clear c3
 by_cases c4:0≤t183
 ·rw[if_pos c4] at H;have c4b0:=eq_true c4;have c4b1:=decide_eq_true c4;clear c4
  by_cases c5:t183≤(a0.size:Int)
  ·rw[if_pos c5] at H;have c5b0:=eq_true c5;have c5b1:=decide_eq_true c5;clear c5;obtain rfl:=Option.some.inj H;go_enter Tryz.func101,Tryz.ntmps101
   go_wp2_with (first | ((with_reducible refine eQ (f:=106) rfl ?_);refine fU (some 7) rfl rfl Tryz.func106 bB rfl #[.string a0,.int .i64 (a0.size:Int)] rfl bD ?_;(with_reducible refine (eR.calls k a0 (a0.size:Int) t183 _ A2.out).mono ?_);rintro e w' ⟨rfl,⟨nd,rfl⟩⟩;refine ⟨_,rfl,?_⟩))
   go_ret;exact ⟨bE,dH⟩
  rw[if_neg c5] at H;exact absurd H bJ
 rw[if_neg c4] at H;exact absurd H bJ
end Go.Proofs.YtlkoeeccebmjmaaGreatDoor.PCore
