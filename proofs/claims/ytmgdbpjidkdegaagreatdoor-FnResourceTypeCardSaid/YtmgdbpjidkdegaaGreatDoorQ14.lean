/- Texts that the law leans on: PCorex6, PCorex7. Condition: as told at each. -/
import Derived.Test.YtmgdbpjidkdegaaGreatDoorQa
import Derived.Test.YtmgdbpjidkdegaaGreatDoorQ13
set_option linter.unusedVariables false
set_option linter.unusedSimpArgs false
namespace Go.Proofs.YtmgdbpjidkdegaaGreatDoor.PCore
open Go.RowKit Go.Proofs.YtmgdbpjidkdegaaGreatDoorW.PrintWords Go.Proofs.YtmgdbpjidkdegaaGreatDoorW.PrintLast Go.Proofs.YtmgdbpjidkdegaaGreatDoorW.PrintMore
attribute [local go_sem] max2_int min2_int max_two min_two max_three min_three max_four min_four   -- for this text's walks alone
set_option linter.unusedVariables false
set_option linter.unusedSimpArgs false
mutual
def paths_findWrapperDotPositions.l0:Nat→ByteArray→List Int→Int→Option (List Int)
 | 0,_,_,_=>none
 | k+1,x0,x4,x5=>if x5 < (x0.size:Int) then (if (wrap64 (x5+2)) < (x0.size:Int) then (if 0≤x5 then (if (bt x0 x5)=46 then (if 0≤(wrap64 (x5+1)) then (if (wrap64 (x5+1)) < (x0.size:Int) then (paths_findWrapperDotPositions.j1 k x0 x4 x5 ((bt x0 (wrap64 (x5+1)))==95)) else (none)) else (none)) else (paths_findWrapperDotPositions.j1 k x0 x4 x5 false)) else (none)) else (paths_findWrapperDotPositions.j1 k x0 x4 x5 false)) else (some x4)
def paths_findWrapperDotPositions.j1:Nat→ByteArray→List Int→Int→Bool→Option (List Int)
 | 0,_,_,_,_=>none
 | k+1,x0,x4,x5,x35=>if x35=true then (paths_findWrapperDotPositions.l1 k x0 x4 x5 (-1) (wrap64 (x5+2))) else (paths_findWrapperDotPositions.l0 k x0 x4 (wrap64 (x5+1)))
def paths_findWrapperDotPositions.j3:Nat→ByteArray→List Int→Int→Int→Option (List Int)
 | 0,_,_,_,_=>none
 | k+1,x0,x4,x5,x6=>if x6=(-1) then (paths_findWrapperDotPositions.l0 k x0 x4 (wrap64 (x5+1))) else (paths_findWrapperDotPositions.l2 k x0 x4 x6 (wrap64 (x5+2)))
def paths_findWrapperDotPositions.l2:Nat→ByteArray→List Int→Int→Int→Option (List Int)
 | 0,_,_,_,_=>none
 | k+1,x0,x4,x6,x8=>if x8 < x6 then (if 0≤x8 then (if x8 < (x0.size:Int) then (if (bt x0 x8)=46 then (if x4.length < 17592186044416 then (paths_findWrapperDotPositions.l2 k x0 (x4++[x8]) x6 (wrap64 (x8+1))) else (none)) else (paths_findWrapperDotPositions.l2 k x0 x4 x6 (wrap64 (x8+1)))) else (none)) else (none)) else (paths_findWrapperDotPositions.l0 k x0 x4 (wrap64 (x6+1)))
def paths_findWrapperDotPositions.l1:Nat→ByteArray→List Int→Int→Int→Int→Option (List Int)
 | 0,_,_,_,_,_=>none
 | k+1,x0,x4,x5,x6,x7=>if x7 < (x0.size:Int) then (if 0≤x7 then (if (bt x0 x7)=47 then (paths_findWrapperDotPositions.j3 k x0 x4 x5 x6) else (if (bt x0 x7)=95 then (if (wrap64 (x7+1))≥(x0.size:Int) then (paths_findWrapperDotPositions.j3 k x0 x4 x5 x7) else (if 0≤(wrap64 (x7+1)) then (if (wrap64 (x7+1)) < (x0.size:Int) then (if (bt x0 (wrap64 (x7+1)))=46 then (paths_findWrapperDotPositions.j3 k x0 x4 x5 x7) else (paths_findWrapperDotPositions.l1 k x0 x4 x5 x6 (wrap64 (x7+1)))) else (none)) else (none))) else (paths_findWrapperDotPositions.l1 k x0 x4 x5 x6 (wrap64 (x7+1))))) else (none)) else (paths_findWrapperDotPositions.j3 k x0 x4 x5 x6)
end
def paths_findWrapperDotPositions.f (k:Nat) (a0:ByteArray):Option (List Int):=(strings_LastIndex.f a0 (⟨#[47]⟩:ByteArray)).bind fun t170=>(if t170=(-1) then (some ([]:List Int)) else (paths_findWrapperDotPositions.l0 k a0 ([]:List Int) t170))
theorem paths_findWrapperDotPositions.mono_l:∀ k,(∀ y0 y1 y2,LeO (paths_findWrapperDotPositions.l0 k y0 y1 y2) (paths_findWrapperDotPositions.l0 (k+1) y0 y1 y2))∧(∀ y0 y1 y2 y3,LeO (paths_findWrapperDotPositions.j1 k y0 y1 y2 y3) (paths_findWrapperDotPositions.j1 (k+1) y0 y1 y2 y3))∧(∀ y0 y1 y2 y3,LeO (paths_findWrapperDotPositions.j3 k y0 y1 y2 y3) (paths_findWrapperDotPositions.j3 (k+1) y0 y1 y2 y3))∧(∀ y0 y1 y2 y3,LeO (paths_findWrapperDotPositions.l2 k y0 y1 y2 y3) (paths_findWrapperDotPositions.l2 (k+1) y0 y1 y2 y3))∧(∀ y0 y1 y2 y3 y4,LeO (paths_findWrapperDotPositions.l1 k y0 y1 y2 y3 y4) (paths_findWrapperDotPositions.l1 (k+1) y0 y1 y2 y3 y4))
 | 0=>⟨fun _ _ _ r h=>by simp[paths_findWrapperDotPositions.l0] at h,fun _ _ _ _ r h=>by simp[paths_findWrapperDotPositions.j1] at h,fun _ _ _ _ r h=>by simp[paths_findWrapperDotPositions.j3] at h,fun _ _ _ _ r h=>by simp[paths_findWrapperDotPositions.l2] at h,fun _ _ _ _ _ r h=>by simp[paths_findWrapperDotPositions.l1] at h⟩
 | k+1=>by
  obtain ⟨ih0,ih1,ih2,ih3,ih4⟩:=paths_findWrapperDotPositions.mono_l k;refine ⟨?_,?_,?_,?_,?_⟩
  ·intro y0 y1 y2;unfold paths_findWrapperDotPositions.l0
   exact cV
  ·intro y0 y1 y2 y3;unfold paths_findWrapperDotPositions.j1
   exact cV
  ·intro y0 y1 y2 y3;unfold paths_findWrapperDotPositions.j3
   exact cV
  ·intro y0 y1 y2 y3;unfold paths_findWrapperDotPositions.l2
   exact cV
  ·intro y0 y1 y2 y3 y4;unfold paths_findWrapperDotPositions.l1
   exact cV
theorem paths_findWrapperDotPositions.mono:∀ a0 k,LeO (paths_findWrapperDotPositions.f k a0) (paths_findWrapperDotPositions.f (k+1) a0):=by
 intro a0 k;obtain ⟨ih0,ih1,ih2,ih3,ih4⟩:=paths_findWrapperDotPositions.mono_l k;unfold paths_findWrapperDotPositions.f
 exact cV
set_option maxHeartbeats 8000000 in
set_option maxRecDepth 100000 in
theorem paths_findWrapperDotPositions.calls (k:Nat) (a0:ByteArray) (r:List Int) (w:World) (h:paths_findWrapperDotPositions.f k a0=some r) :
 Calls Tryz.prog 149 #[.string a0] w fun e w'=>∃ v0_:Value,e = .returned (v0_)∧Kd.R (Kd.int .i64) 3 w' w.heap.size (fun _=>True) v0_ r∧Below w.heap.size w w':=by
 have HB:=bR (Below.refl w.heap.size w);have H:((strings_LastIndex.f a0 (⟨#[47]⟩:ByteArray)).bind fun t170=>(if t170=(-1) then (some ([]:List Int)) else (paths_findWrapperDotPositions.l0 k a0 ([]:List Int) t170)))=some r:=h;clear h;replace H:=Option.bind_eq_some_iff.mp H;obtain ⟨t170,A20,H⟩:=H;replace H:(if t170=(-1) then (some ([]:List Int)) else (paths_findWrapperDotPositions.l0 k a0 ([]:List Int) t170))=some r:=H;have A2:=bR A20;clear A20
 by_cases c3:t170=(-1)
 ·rw[if_pos c3] at H;have c3b0:(t170==(-1))=true:=beq_iff_eq.mpr c3;have c3b1:(t170 != (-1))=false:=bne_eq_false_iff_eq.mpr c3;clear c3;obtain rfl:=Option.some.inj H;go_enter Tryz.func149,Tryz.ntmps149
  go_wp2_with (first | ((with_reducible refine gate_callee (f:=150) rfl ?_);refine goesL_ (some 10) rfl rfl Tryz.func150 bB rfl #[.string a0,.string (⟨#[47]⟩:ByteArray)] rfl bD ?_;(with_reducible refine (strings_LastIndex.calls a0 (⟨#[47]⟩:ByteArray) t170 _ A2.out).mono ?_);rintro e w' ⟨rfl,⟨nd,rfl⟩⟩;refine ⟨_,rfl,?_⟩))
  go_ret;exact ⟨_,by first | rfl | (simp[errW_none,errW_some] <;> rfl) | (simp[*,errW_none,errW_some] <;> rfl),by first | exact Kd.R_nil _ _ _ _ _ | exact Kd.N_nil _ _ _ _ _ | exact Kd.V_nil _ _ _ _ _ | exact Kd.Q_nil _ _ _ _ _ | exact Kd.S_nil _ _ _ _ _,by repeat (first | (with_reducible first | exact HB.out | apply below_alloc | apply pw_below_drewN | apply below_drew1) | exact HB.out)⟩
 ·rw[if_neg c3] at H;have c3b0:(t170==(-1))=false:=beq_eq_false_iff_ne.mpr c3;have c3b1:(t170 != (-1))=true:=bne_iff_ne.mpr c3;have H':=bR H;clear H;go_enter Tryz.func149,Tryz.ntmps149
  go_wp2_with (first | ((with_reducible refine gate_callee (f:=150) rfl ?_);refine goesL_ (some 10) rfl rfl Tryz.func150 bB rfl #[.string a0,.string (⟨#[47]⟩:ByteArray)] rfl bD ?_;(with_reducible refine (strings_LastIndex.calls a0 (⟨#[47]⟩:ByteArray) t170 _ A2.out).mono ?_);rintro e w' ⟨rfl,⟨nd,rfl⟩⟩;refine ⟨_,rfl,?_⟩))
  go_loopg [4,5] k (fun kq v4 v5 w'=>∃ (x4_1:List Int) (x5_1:Int),v5 = .int .i64 x5_1∧Aside0 (paths_findWrapperDotPositions.l0 kq a0 x4_1 x5_1=some r)∧Aside0 (kq≤k)∧Aside0 (Kd.R (Kd.int .i64) 3 w' w.heap.size (fun _=>True) v4 x4_1)∧Aside0 (Below w.heap.size w w'))
  case atStart=>exact ⟨(([]:List Int)),(t170),bE,H',⟨Nat.le_refl _⟩,⟨by first | exact Kd.R_nil _ _ _ _ _ | exact Kd.N_nil _ _ _ _ _ | exact Kd.V_nil _ _ _ _ _ | exact Kd.Q_nil _ _ _ _ _ | exact Kd.S_nil _ _ _ _ _⟩,⟨by repeat (first | (with_reducible first | exact HB.out | apply below_alloc | apply pw_below_drewN | apply below_drew1) | exact HB.out)⟩⟩
  case round =>
   clear H'
   try clear c1
   try clear p2
   try clear c3
   try clear c3b0
   try clear c3b1
   obtain ⟨x4_1,x5_1,rfl,HA,HK1,HO_4,HB⟩:=hrel
   cases gk with
   | zero=>exact absurd HA.out (by simp[paths_findWrapperDotPositions.l0])
   | succ k1 =>
    have H:=HA.out;clear HA;simp only[paths_findWrapperDotPositions.l0] at H
    by_cases c4:x5_1 < (a0.size:Int)
    ·rw[if_pos c4] at H;have c4b0:decide (x5_1 < (a0.size:Int))=true:=decide_eq_true c4;clear c4;have HC5:=bR H;clear H
     go_upto_region 7 with (fail)
     go_cut [35] (fun v35 wc=>∃ (kq:Nat) (x35_4:Bool),v35 = .bool x35_4∧Aside0 (paths_findWrapperDotPositions.j1 kq a0 x4_1 x5_1 x35_4=some r)∧Aside0 (kq≤k1)∧Aside0 (Kd.R (Kd.int .i64) 3 wc w.heap.size (fun _=>True) u4 x4_1)∧Aside0 (Below w.heap.size w wc))
     case first =>
      have H:=HC5.out;clear HC5
      by_cases c6:(wrap64 (x5_1+2)) < (a0.size:Int)
      ·rw[if_pos c6] at H;have c6b0:decide ((wrap64 (x5_1+2)) < (a0.size:Int))=true:=decide_eq_true c6;clear c6
       (first | rw[c6b0] | (simp only[i64_w,i32_w];rw[c6b0]) | skip)
       by_cases c7:0≤x5_1
       ·rw[if_pos c7] at H;have c7b0:decide (0≤x5_1)=true:=decide_eq_true c7;clear c7
        by_cases c9:(bt a0 x5_1)=46
        ·rw[if_pos c9] at H;have c9b0:((bt a0 x5_1)==46)=true:=beq_iff_eq.mpr c9;have c9b1:((bt a0 x5_1) != 46)=false:=bne_eq_false_iff_eq.mpr c9;clear c9
         obtain ⟨ji10,hji10⟩:∃ j_:Int,(wrap64 (x5_1+1))=j_:=⟨_,rfl⟩
         replace H:(if 0≤(ji10) then (if (ji10) < (a0.size:Int) then (paths_findWrapperDotPositions.j1 k1 a0 x4_1 x5_1 ((bt a0 (ji10))==95)) else (none)) else (none))=some r:=by first | (rw[hji10] at H;exact H) | (simp only[hji10] at H ⊢;exact H)
         have hji10w:(IntKind.i64.wrap (x5_1+1))=ji10:=(i64_w _).trans hji10
         by_cases c11:0≤(ji10)
         ·rw[if_pos c11] at H;have c11b0:decide (0≤(ji10))=true:=decide_eq_true c11;clear c11
          by_cases c12:(ji10) < (a0.size:Int)
          ·rw[if_pos c12] at H;have c12b0:decide ((ji10) < (a0.size:Int))=true:=decide_eq_true c12;clear c12;have H':=bR H;clear H;have p8:0≤(x5_1:Int):=bQ;have q8:x5_1 < (a0.size:Int):=bQ;have hx8:=bt_at a0 x5_1;replace p8:=eq_true p8;replace q8:=eq_true q8;have p13:0≤((ji10):Int):=bQ;have q13:(ji10) < (a0.size:Int):=bQ;have hx13:=bt_at a0 (ji10);replace p13:=eq_true p13;replace q13:=eq_true q13;go_wp2
           go_meet
           case rel=>exact ⟨_,(((bt a0 (ji10))==95)),(by first | rfl | (simp;done) | (simp only[← hji10] <;> (first | rfl | simp)) | (simp[*];done)),H',⟨by have:=HK1.out;first | omega | exact Nat.le_refl _⟩,⟨by (with_reducible repeat (first | apply Kd.R_alloc | apply Kd.R_drewN | apply Kd.R_drew));exact HO_4.out⟩,⟨by repeat (first | (with_reducible first | exact HB.out | apply below_alloc | apply pw_below_drewN | apply below_drew1) | exact HB.out)⟩⟩
          ·rw[if_neg c12] at H;exact absurd H bI
         ·rw[if_neg c11] at H;exact absurd H bI
        ·rw[if_neg c9] at H;have c9b0:((bt a0 x5_1)==46)=false:=beq_eq_false_iff_ne.mpr c9;have c9b1:((bt a0 x5_1) != 46)=true:=bne_iff_ne.mpr c9;have H':=bR H;clear H;have p8:0≤(x5_1:Int):=bQ;have q8:x5_1 < (a0.size:Int):=bQ;have hx8:=bt_at a0 x5_1;replace p8:=eq_true p8;replace q8:=eq_true q8;go_wp2
         go_meet
         case rel=>exact ⟨_,(false),bE,H',⟨by have:=HK1.out;first | omega | exact Nat.le_refl _⟩,⟨by (with_reducible repeat (first | apply Kd.R_alloc | apply Kd.R_drewN | apply Kd.R_drew));exact HO_4.out⟩,⟨by repeat (first | (with_reducible first | exact HB.out | apply below_alloc | apply pw_below_drewN | apply below_drew1) | exact HB.out)⟩⟩
       ·rw[if_neg c7] at H;exact absurd H bI
      ·rw[if_neg c6] at H;have c6b0:decide ((wrap64 (x5_1+2)) < (a0.size:Int))=false:=decide_eq_false c6;clear c6
       (first | rw[c6b0] | (simp only[i64_w,i32_w];rw[c6b0]) | skip)
       have H':=bR H;clear H;go_wp2
       go_meet
       case rel=>exact ⟨_,(false),bE,H',⟨by have:=HK1.out;first | omega | exact Nat.le_refl _⟩,⟨by (with_reducible repeat (first | apply Kd.R_alloc | apply Kd.R_drewN | apply Kd.R_drew));exact HO_4.out⟩,⟨by repeat (first | (with_reducible first | exact HB.out | apply below_alloc | apply pw_below_drewN | apply below_drew1) | exact HB.out)⟩⟩
     case rest =>
      clear HC5
      try clear c1
      try clear p1
      try clear q1
      try clear hx1
      try clear p2
      try clear c3
      try clear c3b0
      try clear c3b1
      try clear c4
      try clear c4b0
      try clear c6
      try clear c6b0
      try clear p6
      try clear c7
      try clear c7b0
      try clear p8
      try clear q8
      try clear hx8
      try clear c9
      try clear c9b0
      try clear c9b1
      try clear c11
      try clear c11b0
      try clear c12
      try clear c12b0
      try clear p13
      try clear q13
      try clear hx13
      try clear p13
      try clear p2
      try clear p8
      try clear q13
      try clear q8
      obtain ⟨kq,x35_4,rfl,HA,HJ4,HO_4,HB⟩:=hcut
      cases kq with
      | zero=>exact absurd HA.out (by simp[paths_findWrapperDotPositions.j1])
      | succ kj4 =>
       have H:=HA.out;clear HA;simp only[paths_findWrapperDotPositions.j1] at H
       by_cases c14:x35_4=true
       ·subst c14;have H1:(paths_findWrapperDotPositions.l1 kj4 a0 x4_1 x5_1 (-1) (wrap64 (x5_1+2)))=some r:=by rw[if_pos rfl] at H;exact H
        clear H;have H:=H1;clear H1;have HC15:=bR H;clear H
        go_upto_block 2 with (fail)
        go_cut [6] (fun v6 wc=>∃ (kq:Nat) (x6_14:Int),v6 = .int .i64 x6_14∧Aside0 (paths_findWrapperDotPositions.j3 kq a0 x4_1 x5_1 x6_14=some r)∧Aside0 (kq≤kj4)∧Aside0 (Kd.R (Kd.int .i64) 3 wc w.heap.size (fun _=>True) u4 x4_1)∧Aside0 (Below w.heap.size w wc))
        case first =>
         have H:=HC15.out;clear HC15;have H':=bR H;clear H;go_wp2
         go_loopg [6,7] kj4 (fun kq v6 v7 w'=>∃ (x6_3:Int) (x7_3:Int),v6 = .int .i64 x6_3∧v7 = .int .i64 x7_3∧Aside0 (paths_findWrapperDotPositions.l1 kq a0 x4_1 x5_1 x6_3 x7_3=some r)∧Aside0 (kq≤kj4)∧Aside0 (Kd.R (Kd.int .i64) 3 w' w.heap.size (fun _=>True) u4 x4_1)∧Aside0 (Below w.heap.size w w'))
         case atStart=>exact ⟨((-1)),(wrap64 (x5_1+2)),bE,bE,H',⟨Nat.le_refl _⟩,⟨by (with_reducible repeat (first | apply Kd.R_alloc | apply Kd.R_drewN | apply Kd.R_drew));exact HO_4.out⟩,⟨by repeat (first | (with_reducible first | exact HB.out | apply below_alloc | apply pw_below_drewN | apply below_drew1) | exact HB.out)⟩⟩
         case round =>
          clear H'
          try clear c1
          try clear p1
          try clear q1
          try clear hx1
          try clear p2
          try clear c3
          try clear c3b0
          try clear c3b1
          try clear c4
          try clear c4b0
          try clear c6
          try clear c6b0
          try clear p6
          try clear c7
          try clear c7b0
          try clear p8
          try clear q8
          try clear hx8
          try clear c9
          try clear c9b0
          try clear c9b1
          try clear c11
          try clear c11b0
          try clear c12
          try clear c12b0
          try clear p13
          try clear q13
          try clear hx13
          try clear c14
          try clear c15
          try clear p1
          try clear p13
          try clear p2
          try clear p6
          try clear p8
          try clear q1
          try clear q13
          try clear q8
          obtain ⟨x6_3,x7_3,rfl,rfl,HA,HK3,HO_4,HB⟩:=hrel
          cases gk with
          | zero=>exact absurd HA.out (by simp[paths_findWrapperDotPositions.l1])
          | succ k3 =>
           have H:=HA.out;clear HA;simp only[paths_findWrapperDotPositions.l1] at H
           by_cases c16:x7_3 < (a0.size:Int)
           ·rw[if_pos c16] at H;have c16b0:decide (x7_3 < (a0.size:Int))=true:=decide_eq_true c16;clear c16
            (first | rw[c16b0] | (simp only[i64_w,i32_w];rw[c16b0]) | skip)
            by_cases c17:0≤x7_3
            ·rw[if_pos c17] at H;have c17b0:decide (0≤x7_3)=true:=decide_eq_true c17;clear c17
             by_cases c19:(bt a0 x7_3)=47
             ·rw[if_pos c19] at H;have c19b0:((bt a0 x7_3)==47)=true:=beq_iff_eq.mpr c19;have c19b1:((bt a0 x7_3) != 47)=false:=bne_eq_false_iff_eq.mpr c19;clear c19;have H':=bR H;clear H;have p18:0≤(x7_3:Int):=bQ;have q18:x7_3 < (a0.size:Int):=bQ;have hx18:=bt_at a0 x7_3;replace p18:=eq_true p18;replace q18:=eq_true q18;go_wp2
              go_meet
              case rel=>exact ⟨_,(x6_3),bE,H',⟨by have:=HK1.out;have:=HJ4.out;have:=HK3.out;first | omega | exact Nat.le_refl _⟩,⟨by (with_reducible repeat (first | apply Kd.R_alloc | apply Kd.R_drewN | apply Kd.R_drew));exact HO_4.out⟩,⟨by repeat (first | (with_reducible first | exact HB.out | apply below_alloc | apply pw_below_drewN | apply below_drew1) | exact HB.out)⟩⟩
             ·rw[if_neg c19] at H;have c19b0:((bt a0 x7_3)==47)=false:=beq_eq_false_iff_ne.mpr c19;have c19b1:((bt a0 x7_3) != 47)=true:=bne_iff_ne.mpr c19
              by_cases c21:(bt a0 x7_3)=95
              ·rw[if_pos c21] at H;have c21b0:((bt a0 x7_3)==95)=true:=beq_iff_eq.mpr c21;have c21b1:((bt a0 x7_3) != 95)=false:=bne_eq_false_iff_eq.mpr c21;clear c21
               by_cases c22:(wrap64 (x7_3+1))≥(a0.size:Int)
               ·rw[if_pos c22] at H;have c22b0:decide ((a0.size:Int)≤(wrap64 (x7_3+1)))=true:=decide_eq_true c22;clear c22;have H':=bR H;clear H;have p18:0≤(x7_3:Int):=bQ;have q18:x7_3 < (a0.size:Int):=bQ;have hx18:=bt_at a0 x7_3;replace p18:=eq_true p18;replace q18:=eq_true q18;have p20:0≤(x7_3:Int):=bQ;have q20:x7_3 < (a0.size:Int):=bQ;have hx20:=bt_at a0 x7_3;replace p20:=eq_true p20;replace q20:=eq_true q20;go_wp2
                go_meet
                case rel=>exact ⟨_,(x7_3),bE,H',⟨by have:=HK1.out;have:=HJ4.out;have:=HK3.out;first | omega | exact Nat.le_refl _⟩,⟨by (with_reducible repeat (first | apply Kd.R_alloc | apply Kd.R_drewN | apply Kd.R_drew));exact HO_4.out⟩,⟨by repeat (first | (with_reducible first | exact HB.out | apply below_alloc | apply pw_below_drewN | apply below_drew1) | exact HB.out)⟩⟩
               ·rw[if_neg c22] at H;have c22b0:decide ((a0.size:Int)≤(wrap64 (x7_3+1)))=false:=decide_eq_false c22;clear c22
                obtain ⟨ji23,hji23⟩:∃ j_:Int,(wrap64 (x7_3+1))=j_:=⟨_,rfl⟩
                replace H:(if 0≤(ji23) then (if (ji23) < (a0.size:Int) then (if (bt a0 (ji23))=46 then (paths_findWrapperDotPositions.j3 k3 a0 x4_1 x5_1 x7_3) else (paths_findWrapperDotPositions.l1 k3 a0 x4_1 x5_1 x6_3 ji23)) else (none)) else (none))=some r:=by first | (rw[hji23] at H;exact H) | (simp only[hji23] at H ⊢;exact H)
                (try rw[hji23] at c22b0)
                have hji23w:(IntKind.i64.wrap (x7_3+1))=ji23:=(i64_w _).trans hji23
                by_cases c24:0≤(ji23)
                ·rw[if_pos c24] at H;have c24b0:decide (0≤(ji23))=true:=decide_eq_true c24;clear c24
                 by_cases c25:(ji23) < (a0.size:Int)
                 ·rw[if_pos c25] at H;have c25b0:decide ((ji23) < (a0.size:Int))=true:=decide_eq_true c25;clear c25
                  by_cases c27:(bt a0 (ji23))=46
                  ·rw[if_pos c27] at H;have c27b0:((bt a0 (ji23))==46)=true:=beq_iff_eq.mpr c27;have c27b1:((bt a0 (ji23)) != 46)=false:=bne_eq_false_iff_eq.mpr c27;clear c27;have H':=bR H;clear H;have p18:0≤(x7_3:Int):=bQ;have q18:x7_3 < (a0.size:Int):=bQ;have hx18:=bt_at a0 x7_3;replace p18:=eq_true p18;replace q18:=eq_true q18;have p20:0≤(x7_3:Int):=bQ;have q20:x7_3 < (a0.size:Int):=bQ;have hx20:=bt_at a0 x7_3;replace p20:=eq_true p20;replace q20:=eq_true q20;have p26:0≤((ji23):Int):=bQ
                   have q26:(ji23) < (a0.size:Int):=bQ;have hx26:=bt_at a0 (ji23);replace p26:=eq_true p26;replace q26:=eq_true q26;go_wp2
                   go_meet
                   case rel=>exact ⟨_,(x7_3),bE,H',⟨by have:=HK1.out;have:=HJ4.out;have:=HK3.out;first | omega | exact Nat.le_refl _⟩,⟨by (with_reducible repeat (first | apply Kd.R_alloc | apply Kd.R_drewN | apply Kd.R_drew));exact HO_4.out⟩,⟨by repeat (first | (with_reducible first | exact HB.out | apply below_alloc | apply pw_below_drewN | apply below_drew1) | exact HB.out)⟩⟩
                  ·rw[if_neg c27] at H;have c27b0:((bt a0 (ji23))==46)=false:=beq_eq_false_iff_ne.mpr c27;have c27b1:((bt a0 (ji23)) != 46)=true:=bne_iff_ne.mpr c27;have H':=bR H;clear H;have p18:0≤(x7_3:Int):=bQ;have q18:x7_3 < (a0.size:Int):=bQ;have hx18:=bt_at a0 x7_3;replace p18:=eq_true p18;replace q18:=eq_true q18;have p20:0≤(x7_3:Int):=bQ;have q20:x7_3 < (a0.size:Int):=bQ;have hx20:=bt_at a0 x7_3;replace p20:=eq_true p20;replace q20:=eq_true q20;have p26:0≤((ji23):Int):=bQ
                   have q26:(ji23) < (a0.size:Int):=bQ;have hx26:=bt_at a0 (ji23);replace p26:=eq_true p26;replace q26:=eq_true q26;go_wp2
                   go_roundg k3
                   case measure=>have:=HK1.out;have:=HJ4.out;have:=HK3.out;omega
                   case rel=>exact ⟨(x6_3),(ji23),bE,(by first | rfl | (simp;done) | (simp only[← hji23] <;> (first | rfl | simp)) | (simp[*];done)),H',⟨by have:=HK1.out;have:=HJ4.out;have:=HK3.out;omega⟩,⟨by (with_reducible repeat (first | apply Kd.R_alloc | apply Kd.R_drewN | apply Kd.R_drew));exact HO_4.out⟩,⟨by repeat (first | (with_reducible first | exact HB.out | apply below_alloc | apply pw_below_drewN | apply below_drew1) | exact HB.out)⟩⟩
                 ·rw[if_neg c25] at H;exact absurd H bI
                ·rw[if_neg c24] at H;exact absurd H bI
              ·rw[if_neg c21] at H;have c21b0:((bt a0 x7_3)==95)=false:=beq_eq_false_iff_ne.mpr c21;have c21b1:((bt a0 x7_3) != 95)=true:=bne_iff_ne.mpr c21;have H':=bR H;clear H;have p18:0≤(x7_3:Int):=bQ;have q18:x7_3 < (a0.size:Int):=bQ;have hx18:=bt_at a0 x7_3;replace p18:=eq_true p18;replace q18:=eq_true q18;have p20:0≤(x7_3:Int):=bQ;have q20:x7_3 < (a0.size:Int):=bQ;have hx20:=bt_at a0 x7_3;replace p20:=eq_true p20;replace q20:=eq_true q20;go_wp2
               go_roundg k3
               case measure=>have:=HK1.out;have:=HJ4.out;have:=HK3.out;omega
               case rel=>exact ⟨(x6_3),(wrap64 (x7_3+1)),bE,bE,H',⟨by have:=HK1.out;have:=HJ4.out;have:=HK3.out;omega⟩,⟨by (with_reducible repeat (first | apply Kd.R_alloc | apply Kd.R_drewN | apply Kd.R_drew));exact HO_4.out⟩,⟨by repeat (first | (with_reducible first | exact HB.out | apply below_alloc | apply pw_below_drewN | apply below_drew1) | exact HB.out)⟩⟩
            ·rw[if_neg c17] at H;exact absurd H bI
           ·rw[if_neg c16] at H;have c16b0:decide (x7_3 < (a0.size:Int))=false:=decide_eq_false c16;clear c16
            (first | rw[c16b0] | (simp only[i64_w,i32_w];rw[c16b0]) | skip)
            have H':=bR H;clear H;go_wp2
            go_meet
            case rel=>exact ⟨_,(x6_3),bE,H',⟨by have:=HK1.out;have:=HJ4.out;have:=HK3.out;first | omega | exact Nat.le_refl _⟩,⟨by (with_reducible repeat (first | apply Kd.R_alloc | apply Kd.R_drewN | apply Kd.R_drew));exact HO_4.out⟩,⟨by repeat (first | (with_reducible first | exact HB.out | apply below_alloc | apply pw_below_drewN | apply below_drew1) | exact HB.out)⟩⟩
        case rest =>
         clear HC15
         try clear c1
         try clear p1
         try clear q1
         try clear hx1
         try clear c2
         try clear p2
         try clear q2
         try clear hx2
         try clear c3
         try clear c3b0
         try clear c3b1
         try clear c4
         try clear c4b0
         try clear c6
         try clear c6b0
         try clear p6
         try clear c7
         try clear c7b0
         try clear p8
         try clear q8
         try clear hx8
         try clear c9
         try clear c9b0
         try clear c9b1
         try clear c11
         try clear c11b0
         try clear c12
         try clear c12b0
         try clear p13
         try clear q13
         try clear hx13
         try clear c14
         try clear c15
         try clear c16
         try clear c16b0
         try clear c17
         try clear c17b0
         try clear p18
         try clear q18
         try clear hx18
         try clear c19
         try clear c19b0
         try clear c19b1
         try clear p20
         try clear q20
         try clear hx20
         try clear c21
         try clear c21b0
         try clear c21b1
         try clear c22
         try clear c22b0
         try clear c24
         try clear c24b0
         try clear c25
         try clear c25b0
         try clear p26
         try clear q26
         try clear hx26
         try clear c27
         try clear c27b0
         try clear c27b1
         try clear p1
         try clear p13
         try clear p18
         try clear p2
         try clear p20
         try clear p26
         try clear p6
         try clear p8
         try clear q1
         try clear q13
         try clear q18
         try clear q20
         try clear q26
         try clear q8
         obtain ⟨kq,x6_14,rfl,HA,HJ14,HO_4,HB⟩:=hcut
         cases kq with
         | zero=>exact absurd HA.out (by simp[paths_findWrapperDotPositions.j3])
         | succ kj14 =>
          have H:=HA.out;clear HA;simp only[paths_findWrapperDotPositions.j3] at H
          by_cases c28:x6_14=(-1)
          ·rw[if_pos c28] at H;have c28b0:(x6_14==(-1))=true:=beq_iff_eq.mpr c28;have c28b1:(x6_14 != (-1))=false:=bne_eq_false_iff_eq.mpr c28;clear c28;have H':=bR H;clear H;go_wp2
           go_roundg kj14
           case measure=>have:=HK1.out;have:=HJ4.out;have:=HJ14.out;omega
           case rel=>exact ⟨(x4_1),(wrap64 (x5_1+1)),bE,H',⟨by have:=HK1.out;have:=HJ4.out;have:=HJ14.out;omega⟩,⟨by (with_reducible repeat (first | apply Kd.R_alloc | apply Kd.R_drewN | apply Kd.R_drew));exact HO_4.out⟩,⟨by repeat (first | (with_reducible first | exact HB.out | apply below_alloc | apply pw_below_drewN | apply below_drew1) | exact HB.out)⟩⟩
          ·rw[if_neg c28] at H;have c28b0:(x6_14==(-1))=false:=beq_eq_false_iff_ne.mpr c28;have c28b1:(x6_14 != (-1))=true:=bne_iff_ne.mpr c28;have H':=bR H;clear H;go_wp2
           go_loopg [4,8] kj14 (fun kq v4 v8 w'=>∃ (x4_4:List Int) (x8_4:Int),v8 = .int .i64 x8_4∧Aside0 (paths_findWrapperDotPositions.l2 kq a0 x4_4 x6_14 x8_4=some r)∧Aside0 (kq≤kj14)∧Aside0 (Kd.R (Kd.int .i64) 3 w' w.heap.size (fun _=>True) v4 x4_4)∧Aside0 (Below w.heap.size w w'))
           case atStart=>exact ⟨(x4_1),(wrap64 (x5_1+2)),bE,H',⟨Nat.le_refl _⟩,⟨by (with_reducible repeat (first | apply Kd.R_alloc | apply Kd.R_drewN | apply Kd.R_drew));exact HO_4.out⟩,⟨by repeat (first | (with_reducible first | exact HB.out | apply below_alloc | apply pw_below_drewN | apply below_drew1) | exact HB.out)⟩⟩
           case round =>
            clear H'
            try clear c1
            try clear p1
            try clear q1
            try clear hx1
            try clear c2
            try clear p2
            try clear q2
            try clear hx2
            try clear c3
            try clear c3b0
            try clear c3b1
            try clear c4
            try clear c4b0
            try clear c6
            try clear c6b0
            try clear p6
            try clear c7
            try clear c7b0
            try clear p8
            try clear q8
            try clear hx8
            try clear c9
            try clear c9b0
            try clear c9b1
            try clear c11
            try clear c11b0
            try clear c12
            try clear c12b0
            try clear p13
            try clear q13
            try clear hx13
            try clear c14
            try clear c15
            try clear c16
            try clear c16b0
            try clear c17
            try clear c17b0
            try clear p18
            try clear q18
            try clear hx18
            try clear c19
            try clear c19b0
            try clear c19b1
            try clear p20
            try clear q20
            try clear hx20
            try clear c21
            try clear c21b0
            try clear c21b1
            try clear c22
            try clear c22b0
            try clear c24
            try clear c24b0
            try clear c25
            try clear c25b0
            try clear p26
            try clear q26
            try clear hx26
            try clear c27
            try clear c27b0
            try clear c27b1
            try clear c28
            try clear c28b0
            try clear c28b1
            try clear p1
            try clear p13
            try clear p18
            try clear p2
            try clear p20
            try clear p26
            try clear p6
            try clear p8
            try clear q1
            try clear q13
            try clear q18
            try clear q2
            try clear q20
            try clear q26
            try clear q8
            obtain ⟨x4_4,x8_4,rfl,HA,HK4,HO_4,HB⟩:=hrel
            cases gk with
            | zero=>exact absurd HA.out (by simp[paths_findWrapperDotPositions.l2])
            | succ k4 =>
             have H:=HA.out;clear HA;simp only[paths_findWrapperDotPositions.l2] at H
             by_cases c29:x8_4 < x6_14
             ·rw[if_pos c29] at H;have c29b0:decide (x8_4 < x6_14)=true:=decide_eq_true c29;clear c29
              by_cases c30:0≤x8_4
              ·rw[if_pos c30] at H;have c30b0:decide (0≤x8_4)=true:=decide_eq_true c30;clear c30
               by_cases c31:x8_4 < (a0.size:Int)
               ·rw[if_pos c31] at H;have c31b0:decide (x8_4 < (a0.size:Int))=true:=decide_eq_true c31;clear c31
                by_cases c33:(bt a0 x8_4)=46
                ·rw[if_pos c33] at H;have c33b0:((bt a0 x8_4)==46)=true:=beq_iff_eq.mpr c33;have c33b1:((bt a0 x8_4) != 46)=false:=bne_eq_false_iff_eq.mpr c33;clear c33
                 by_cases c34:x4_4.length < 17592186044416
                 ·rw[if_pos c34] at H;have LMc34:=bR c34;clear c34
                  obtain ⟨y171,hy171⟩:∃ y_:List Int,y_=(x4_4++[x8_4]):=⟨_,rfl⟩
                  replace H:(paths_findWrapperDotPositions.l2 k4 a0 y171 x6_14 (wrap64 (x8_4+1)))=some r:=by first | (rw[hy171];with_reducible exact H) | (have H2_:=(Option.bind_some _ _).symm.trans H;rw[hy171];with_reducible exact H2_) | (have H2_:=(Option.bind_some _ _).symm.trans H;with_reducible exact H2_) | with_reducible exact H | (rw[hy171];exact H) | exact H
                  have Ny171:=bR hy171;clear hy171;have H':=bR H;clear H;have p32:0≤(x8_4:Int):=bQ;have q32:x8_4 < (a0.size:Int):=bQ;have hx32:=bt_at a0 x8_4;replace p32:=eq_true p32;replace q32:=eq_true q32
                  go_wp2_with (first | ((with_reducible refine gate_builtin (b:=.append) (xs:=#[.tmp 80,.tmp 82]) rfl ?_);(try (refine gate_guard bH ?_;dsimp only));at_builtin;refine Kd.R_append (Kd.int .i64) (w0:=w) w.heap.size rfl (.tmp 80) (.tmp 82) 68 3 (.int .i64 0) 8 rfl Tryz.underlying68 info3 rfl bG bA u4 x4_4 x8_4 [.int .i64 x8_4] (fun _=>True) (fun _=>False) rfl rfl ?aP (fun _ hk=>hk.elim) ?aF ?aO ?aB ?aS ?aL ?_;(case aP=>exact rfl);(case aB=>exact bC);(case aF=>exact (fun _ _=>trivial));(case aO=>exact (by (with_reducible repeat (first | apply Kd.R_alloc | apply Kd.R_drewN | apply Kd.R_drew));exact HO_4.out));(case aS=>exact (below_size bC));(case aL=>have:=LMc34.out;omega);intro v172 w35 ho hb hg hat;rw[← Ny171.out] at ho;have n0_:=bR (hb);have n1_:=bR (ho);clear HB;clear HO_4;have HB:=n0_;have HO173:=n1_;clear n0_ n1_;clear ho hb hg hat))
                  go_roundg k4
                  case measure=>have:=HK1.out;have:=HJ4.out;have:=HJ14.out;have:=HK4.out;omega
                  case rel=>exact ⟨(y171),(wrap64 (x8_4+1)),bE,H',⟨by have:=HK1.out;have:=HJ4.out;have:=HJ14.out;have:=HK4.out;omega⟩,⟨by (with_reducible repeat (first | apply Kd.R_alloc | apply Kd.R_drewN | apply Kd.R_drew));exact HO173.out⟩,⟨by repeat (first | (with_reducible first | exact HB.out | apply below_alloc | apply pw_below_drewN | apply below_drew1) | exact HB.out)⟩⟩
                 ·rw[if_neg c34] at H;exact absurd H bI
                ·rw[if_neg c33] at H;have c33b0:((bt a0 x8_4)==46)=false:=beq_eq_false_iff_ne.mpr c33;have c33b1:((bt a0 x8_4) != 46)=true:=bne_iff_ne.mpr c33;have H':=bR H;clear H;have p32:0≤(x8_4:Int):=bQ;have q32:x8_4 < (a0.size:Int):=bQ;have hx32:=bt_at a0 x8_4;replace p32:=eq_true p32;replace q32:=eq_true q32;go_wp2
                 go_roundg k4
                 case measure=>have:=HK1.out;have:=HJ4.out;have:=HJ14.out;have:=HK4.out;omega
                 case rel=>exact ⟨(x4_4),(wrap64 (x8_4+1)),bE,H',⟨by have:=HK1.out;have:=HJ4.out;have:=HJ14.out;have:=HK4.out;omega⟩,⟨by (with_reducible repeat (first | apply Kd.R_alloc | apply Kd.R_drewN | apply Kd.R_drew));exact HO_4.out⟩,⟨by repeat (first | (with_reducible first | exact HB.out | apply below_alloc | apply pw_below_drewN | apply below_drew1) | exact HB.out)⟩⟩
               ·rw[if_neg c31] at H;exact absurd H bI
              ·rw[if_neg c30] at H;exact absurd H bI
             ·rw[if_neg c29] at H;have c29b0:decide (x8_4 < x6_14)=false:=decide_eq_false c29;clear c29;have H':=bR H;clear H;go_wp2
              go_roundg k4
              case measure=>have:=HK1.out;have:=HJ4.out;have:=HJ14.out;have:=HK4.out;omega
              case rel=>exact ⟨(x4_4),(wrap64 (x6_14+1)),bE,H',⟨by have:=HK1.out;have:=HJ4.out;have:=HJ14.out;have:=HK4.out;omega⟩,⟨by (with_reducible repeat (first | apply Kd.R_alloc | apply Kd.R_drewN | apply Kd.R_drew));exact HO_4.out⟩,⟨by repeat (first | (with_reducible first | exact HB.out | apply below_alloc | apply pw_below_drewN | apply below_drew1) | exact HB.out)⟩⟩
       ·replace c14:=Bool.eq_false_iff.mpr c14;subst c14;have H1:(paths_findWrapperDotPositions.l0 kj4 a0 x4_1 (wrap64 (x5_1+1)))=some r:=by rw[if_neg (show ¬ (false=true) by decide)] at H;exact H
        clear H;have H:=H1;clear H1;have H':=bR H;clear H;go_wp2
        go_roundg kj4
        case measure=>have:=HK1.out;have:=HJ4.out;omega
        case rel=>exact ⟨(x4_1),(wrap64 (x5_1+1)),bE,H',⟨by have:=HK1.out;have:=HJ4.out;omega⟩,⟨by (with_reducible repeat (first | apply Kd.R_alloc | apply Kd.R_drewN | apply Kd.R_drew));exact HO_4.out⟩,⟨by repeat (first | (with_reducible first | exact HB.out | apply below_alloc | apply pw_below_drewN | apply below_drew1) | exact HB.out)⟩⟩
    ·rw[if_neg c4] at H;have c4b0:decide (x5_1 < (a0.size:Int))=false:=decide_eq_false c4;clear c4;obtain rfl:=Option.some.inj H;go_wp2;go_ret;exact ⟨_,by first | rfl | (simp[errW_none,errW_some] <;> rfl) | (simp[*,errW_none,errW_some] <;> rfl),by (with_reducible repeat (first | apply Kd.R_alloc | apply Kd.R_drewN | apply Kd.R_drew));exact HO_4.out,by repeat (first | (with_reducible first | exact HB.out | apply below_alloc | apply pw_below_drewN | apply below_drew1) | exact HB.out)⟩
end Go.Proofs.YtmgdbpjidkdegaaGreatDoor.PCore
namespace Go.Proofs.YtmgdbpjidkdegaaGreatDoor.PCore
open Go.RowKit Go.Proofs.YtmgdbpjidkdegaaGreatDoorW.PrintWords Go.Proofs.YtmgdbpjidkdegaaGreatDoorW.PrintLast Go.Proofs.YtmgdbpjidkdegaaGreatDoorW.PrintMore
attribute [local go_sem] max2_int min2_int max_two min_two max_three min_three max_four min_four   -- for this text's walks alone
set_option linter.unusedVariables false
set_option linter.unusedSimpArgs false
def paths_isSkippedDot.l0:Nat→Int→List Int→Int→Int→Option (Bool)
 | 0,_,_,_,_=>none
 | k+1,x1,x7,x8,x9=>if x9 < x8 then (if 0≤x9 then (if x9 < (x7.length:Int) then (if (rd x7 x9)=x1 then (some true) else (if (rd x7 x9) > x1 then (some false) else (paths_isSkippedDot.l0 k x1 x7 x8 (wrap64 (x9+1))))) else (none)) else (none)) else (some false)
def paths_isSkippedDot.f (k:Nat) (l0:List Int) (a1:Int):Option (Bool):=paths_isSkippedDot.l0 k a1 l0 (l0.length:Int) 0
theorem paths_isSkippedDot.mono_l:∀ k,(∀ y0 y1 y2 y3,LeO (paths_isSkippedDot.l0 k y0 y1 y2 y3) (paths_isSkippedDot.l0 (k+1) y0 y1 y2 y3))
 | 0=>fun _ _ _ _ r h=>by simp[paths_isSkippedDot.l0] at h
 | k+1=>by
  have ih0:=paths_isSkippedDot.mono_l k
  ·intro y0 y1 y2 y3;unfold paths_isSkippedDot.l0
   exact cL
theorem paths_isSkippedDot.mono:∀ a0 a1 k,LeO (paths_isSkippedDot.f k a0 a1) (paths_isSkippedDot.f (k+1) a0 a1):=by
 intro a0 a1 k;have ih0:=paths_isSkippedDot.mono_l k;unfold paths_isSkippedDot.f
 exact cL
set_option maxHeartbeats 8000000 in
set_option maxRecDepth 100000 in
theorem paths_isSkippedDot.calls (k:Nat) (A0:Option Addr) (c0:Nat) (l0:List Int) (a1:Int) (r:Bool) (w:World) (hr0:Kd.C (Kd.int .i64) w A0 l0.length l0) (hc0:l0.length≤c0) (h:paths_isSkippedDot.f k l0 a1=some r) :
 Calls Tryz.prog 153 #[.slice A0 l0.length c0,.int .i64 a1] w fun e w'=>e = .returned (.bool r)∧Drawn0 w w':=by
 have HR0:=bR hr0;have HC0:=bR hc0;clear hr0 hc0;have H:(paths_isSkippedDot.l0 k a1 l0 (l0.length:Int) 0)=some r:=h;clear h;have H':=bR H;clear H;go_enter Tryz.func153,Tryz.ntmps153;go_wp2
 go_loopg [9] k (fun kq v9 w'=>∃ (x9_1:Int),v9 = .int .i64 x9_1∧Aside0 (paths_isSkippedDot.l0 kq a1 l0 (l0.length:Int) x9_1=some r)∧Aside0 (kq≤k)∧Drawn0 w w')
 case atStart=>exact ⟨(0),bE,H',⟨Nat.le_refl _⟩,dA⟩
 case round =>
  clear H'
  try clear c1
  try clear p2
  obtain ⟨x9_1,rfl,HA,HK1,⟨m1,rfl⟩⟩:=hrel
  cases gk with
  | zero=>exact absurd HA.out (by simp[paths_isSkippedDot.l0])
  | succ k1 =>
   have H:=HA.out;clear HA;simp only[paths_isSkippedDot.l0] at H
   by_cases c3:x9_1 < (l0.length:Int)
   ·rw[if_pos c3] at H;have c3b0:decide (x9_1 < (l0.length:Int))=true:=decide_eq_true c3;clear c3
    by_cases c4:0≤x9_1
    ·rw[if_pos c4] at H;have c4b0:decide (0≤x9_1)=true:=decide_eq_true c4;clear c4
     by_cases c5:x9_1 < (l0.length:Int)
     ·rw[if_pos c5] at H;have c5b0:decide (x9_1 < (l0.length:Int))=true:=decide_eq_true c5;clear c5
      by_cases c6:(rd l0 x9_1)=a1
      ·rw[if_pos c6] at H;have c6b0:((rd l0 x9_1)==a1)=true:=beq_iff_eq.mpr c6;have c6b1:((rd l0 x9_1) != a1)=false:=bne_eq_false_iff_eq.mpr c6;clear c6;obtain rfl:=Option.some.inj H;have p174:0≤(x9_1:Int):=bQ;have q174:x9_1 < (l0.length:Int):=bQ;obtain ⟨ad174,e174,hx174_0⟩:=Kd.at_int HR0.out x9_1 p174 q174;cases e174;replace p174:=eq_true p174;replace q174:=eq_true q174;go_wp2;go_ret;exact ⟨cZ,dA⟩
      ·rw[if_neg c6] at H;have c6b0:((rd l0 x9_1)==a1)=false:=beq_eq_false_iff_ne.mpr c6;have c6b1:((rd l0 x9_1) != a1)=true:=bne_iff_ne.mpr c6
       by_cases c7:(rd l0 x9_1) > a1
       ·rw[if_pos c7] at H;have c7b0:decide (a1 < (rd l0 x9_1))=true:=decide_eq_true c7;clear c7;obtain rfl:=Option.some.inj H;have p174:0≤(x9_1:Int):=bQ;have q174:x9_1 < (l0.length:Int):=bQ;obtain ⟨ad174,e174,hx174_0⟩:=Kd.at_int HR0.out x9_1 p174 q174;cases e174;replace p174:=eq_true p174;replace q174:=eq_true q174;go_wp2;go_ret;exact ⟨cZ,dA⟩
       ·rw[if_neg c7] at H;have c7b0:decide (a1 < (rd l0 x9_1))=false:=decide_eq_false c7;clear c7;have H':=bR H;clear H;have p174:0≤(x9_1:Int):=bQ;have q174:x9_1 < (l0.length:Int):=bQ;obtain ⟨ad174,e174,hx174_0⟩:=Kd.at_int HR0.out x9_1 p174 q174;cases e174;replace p174:=eq_true p174;replace q174:=eq_true q174;go_wp2
        go_roundg k1
        case measure=>have:=HK1.out;omega
        case rel=>exact ⟨(wrap64 (x9_1+1)),bE,H',⟨by have:=HK1.out;omega⟩,dA⟩
     ·rw[if_neg c5] at H;exact absurd H bI
    ·rw[if_neg c4] at H;exact absurd H bI
   ·rw[if_neg c3] at H;have c3b0:decide (x9_1 < (l0.length:Int))=false:=decide_eq_false c3;clear c3;obtain rfl:=Option.some.inj H;go_wp2;go_ret;exact ⟨cZ,dA⟩
def paths_isSkippedDot.Pure:Prop:=∀ (l0:List Int) (a1:Int),l0.length≤maxLen→l0.length * 8≤140737488351232→(∀ x∈l0,(Lit.int .i64 x).wf=true)→(Lit.int .i64 a1).wf=true→∃ k,paths_isSkippedDot.f k l0 a1=some true
theorem paths_isSkippedDot.walk (P:paths_isSkippedDot.Pure) (a0:Option Addr) (len0 cap0:Nat) (z0:List Int) (a1:Int) (w:World) (w0:(a0=none∧len0=0∧cap0=0∧z0=[])∨∃ x,a0=some x∧len0≤cap0∧cap0≤maxLen∧z0.length=cap0∧(∀ i,i < z0.length→w.cell? (x.add i)=some (.int .i64 (z0.getD i 0)))∧∀ n∈z0,(Lit.int .i64 n).wf=true) (y0:len0 * 8≤140737488351232) (w1:(Lit.int .i64 a1).wf=true) :
 Calls Tryz.prog 153 #[.slice a0 len0 cap0,.int .i64 a1] w fun e w'=>e = .returned (.bool true)∧Below w.heap.size w w':=by
 obtain ⟨l0,rfl,hr0,hm0,hw0,hc0⟩:=ReadsInt.ofRowC w0;obtain ⟨k,h⟩:=P l0 a1 hm0 y0 hw0 w1;refine (paths_isSkippedDot.calls k _ _ l0 a1 true w (Kd.C_of_reads (d:=(0:Int)) (h1:=fun _=>rfl) hr0) hc0 h).mono ?_;rintro e w' ⟨rfl,hd⟩;exact ⟨rfl,hd.below⟩
def paths_zzIndex.l0:Nat→ByteArray→ByteArray→Int→Option (Int)
 | 0,_,_,_=>none
 | k+1,x0,x1,x5=>if (wrap64 (x5+(x1.size:Int)))≤(x0.size:Int) then (if 0≤x5 then (if x5≤(wrap64 (x5+(x1.size:Int))) then (if (x0.extract (x5:Int).toNat ((wrap64 (x5+(x1.size:Int))):Int).toNat).toList=x1.toList then (some x5) else (paths_zzIndex.l0 k x0 x1 (wrap64 (x5+1)))) else (none)) else (none)) else (some (-1))
def paths_zzIndex.f (k:Nat) (a0:ByteArray) (a1:ByteArray):Option (Int):=paths_zzIndex.l0 k a0 a1 0
theorem paths_zzIndex.mono_l:∀ k,(∀ y0 y1 y2,LeO (paths_zzIndex.l0 k y0 y1 y2) (paths_zzIndex.l0 (k+1) y0 y1 y2))
 | 0=>fun _ _ _ r h=>by simp[paths_zzIndex.l0] at h
 | k+1=>by
  have ih0:=paths_zzIndex.mono_l k
  ·intro y0 y1 y2;unfold paths_zzIndex.l0
   exact cN
theorem paths_zzIndex.mono:∀ a0 a1 k,LeO (paths_zzIndex.f k a0 a1) (paths_zzIndex.f (k+1) a0 a1):=by
 intro a0 a1 k;have ih0:=paths_zzIndex.mono_l k;unfold paths_zzIndex.f
 exact cN
set_option maxHeartbeats 8000000 in
set_option maxRecDepth 100000 in
theorem paths_zzIndex.calls (k:Nat) (a0:ByteArray) (a1:ByteArray) (r:Int) (w:World) (h:paths_zzIndex.f k a0 a1=some r) :
 Calls Tryz.prog 145 #[.string a0,.string a1] w fun e w'=>e = .returned (.int .i64 r)∧Drawn0 w w':=by
 have H:(paths_zzIndex.l0 k a0 a1 0)=some r:=h;clear h;have H':=bR H;clear H;go_enter Tryz.func145,Tryz.ntmps145;go_wp2
 go_loopg [5] k (fun kq v5 w'=>∃ (x5_1:Int),v5 = .int .i64 x5_1∧Aside0 (paths_zzIndex.l0 kq a0 a1 x5_1=some r)∧Aside0 (kq≤k)∧Drawn0 w w')
 case atStart=>exact ⟨(0),bE,H',⟨Nat.le_refl _⟩,dA⟩
 case round =>
  clear H'
  try clear c1
  try clear p2
  obtain ⟨x5_1,rfl,HA,HK1,⟨m1,rfl⟩⟩:=hrel
  cases gk with
  | zero=>exact absurd HA.out (by simp[paths_zzIndex.l0])
  | succ k1 =>
   have H:=HA.out;clear HA;simp only[paths_zzIndex.l0] at H
   by_cases c3:(wrap64 (x5_1+(a1.size:Int)))≤(a0.size:Int)
   ·rw[if_pos c3] at H;have c3b0:decide ((wrap64 (x5_1+(a1.size:Int)))≤(a0.size:Int))=true:=decide_eq_true c3;clear c3
    by_cases c4:0≤x5_1
    ·rw[if_pos c4] at H;have c4b0:=eq_true c4;have c4b1:decide (0≤x5_1)=true:=decide_eq_true c4;clear c4
     by_cases c5:x5_1≤(wrap64 (x5_1+(a1.size:Int)))
     ·rw[if_pos c5] at H;have c5b0:=eq_true c5;have c5b1:decide (x5_1≤(wrap64 (x5_1+(a1.size:Int))))=true:=decide_eq_true c5;have c6b0:=eq_true (bQ:(wrap64 (x5_1+(a1.size:Int)))≤(a0.size:Int))
      by_cases c7:(a0.extract (x5_1:Int).toNat ((wrap64 (x5_1+(a1.size:Int))):Int).toNat).toList=a1.toList
      ·rw[if_pos c7] at H;have c7b0:((a0.extract (x5_1:Int).toNat ((wrap64 (x5_1+(a1.size:Int))):Int).toNat).toList==a1.toList)=true:=beq_iff_eq.mpr c7;have c7b1:((a0.extract (x5_1:Int).toNat ((wrap64 (x5_1+(a1.size:Int))):Int).toNat).toList != a1.toList)=false:=bne_eq_false_iff_eq.mpr c7;clear c7;obtain rfl:=Option.some.inj H;go_wp2;go_ret;exact ⟨cZ,dA⟩
      ·rw[if_neg c7] at H;have c7b0:((a0.extract (x5_1:Int).toNat ((wrap64 (x5_1+(a1.size:Int))):Int).toNat).toList==a1.toList)=false:=beq_eq_false_iff_ne.mpr c7;have c7b1:((a0.extract (x5_1:Int).toNat ((wrap64 (x5_1+(a1.size:Int))):Int).toNat).toList != a1.toList)=true:=bne_iff_ne.mpr c7;have H':=bR H;clear H;go_wp2
       go_roundg k1
       case measure=>have:=HK1.out;omega
       case rel=>exact ⟨(wrap64 (x5_1+1)),bE,H',⟨by have:=HK1.out;omega⟩,dA⟩
     ·rw[if_neg c5] at H;exact absurd H bI
    ·rw[if_neg c4] at H;exact absurd H bI
   ·rw[if_neg c3] at H;have c3b0:decide ((wrap64 (x5_1+(a1.size:Int)))≤(a0.size:Int))=false:=decide_eq_false c3;clear c3;obtain rfl:=Option.some.inj H;go_wp2;go_ret;exact ⟨cZ,dA⟩
def paths_zzContains.f (k:Nat) (a0:ByteArray) (a1:ByteArray):Option (Bool):=(paths_zzIndex.f k a0 a1).bind fun t175=>(some (decide (t175≥0)))
theorem paths_zzContains.mono:∀ a0 a1 k,LeO (paths_zzContains.f k a0 a1) (paths_zzContains.f (k+1) a0 a1):=by
 intro a0 a1 k;unfold paths_zzContains.f
 repeat' first
  | (with_reducible exact paths_zzIndex.mono _ _ _)
  | (with_reducible exact LeO.refl _)
  | (with_reducible exact LeO.none _)
  | (with_reducible refine LeO.ite ?_ ?_)
  | (with_reducible refine LeO.bind ?_ (fun _=>?_))
  | exact paths_zzIndex.mono _ _ _
  | exact LeO.none _
  | refine LeO.ite ?_ ?_
  | refine LeO.bind ?_ (fun _=>?_)
set_option maxHeartbeats 8000000 in
set_option maxRecDepth 100000 in
theorem paths_zzContains.calls (k:Nat) (a0:ByteArray) (a1:ByteArray) (r:Bool) (w:World) (h:paths_zzContains.f k a0 a1=some r) :
 Calls Tryz.prog 152 #[.string a0,.string a1] w fun e w'=>e = .returned (.bool r)∧Drawn0 w w':=by
 have H:((paths_zzIndex.f k a0 a1).bind fun t175=>(some (decide (t175≥0))))=some r:=h;clear h;replace H:=Option.bind_eq_some_iff.mp H;obtain ⟨t175,A30,H⟩:=H;replace H:(some (decide (t175≥0)))=some r:=H;have A3:=bR A30;clear A30;obtain rfl:=Option.some.inj H;go_enter Tryz.func152,Tryz.ntmps152
 go_wp2_with (first | ((with_reducible refine gate_callee (f:=145) rfl ?_);refine goesL_ (some 7) rfl rfl Tryz.func145 bB rfl #[.string a0,.string a1] rfl bD ?_;(with_reducible refine (paths_zzIndex.calls k a0 a1 t175 _ A3.out).mono ?_);rintro e w' ⟨rfl,⟨nd,rfl⟩⟩;refine ⟨_,rfl,?_⟩))
 go_ret;exact ⟨cZ,dA⟩
def paths_zzContains.Pure:Prop:=∀ (a0:ByteArray) (a1:ByteArray),a0.size≤140737488351232→a1.size≤140737488351232→∃ k,paths_zzContains.f k a0 a1=some true
theorem paths_zzContains.walk (P:paths_zzContains.Pure) (a0:ByteArray) (a1:ByteArray) (w:World) (w0:a0.size≤140737488351232) (w1:a1.size≤140737488351232) :
 Calls Tryz.prog 152 #[.string a0,.string a1] w fun e w'=>e = .returned (.bool true)∧Below w.heap.size w w':=by
 obtain ⟨k,h⟩:=P a0 a1 w0 w1;refine (paths_zzContains.calls k a0 a1 true w h).mono ?_;rintro e w' ⟨rfl,hd⟩;exact ⟨rfl,hd.below⟩
def files_IsGoTmplExt.f (a0:ByteArray):Option (Bool):=some (a0.toList==([103,111,116,109,112,108]:List UInt8))
set_option maxHeartbeats 8000000 in
set_option maxRecDepth 100000 in
theorem files_IsGoTmplExt.calls (a0:ByteArray) (r:Bool) (w:World) (h:files_IsGoTmplExt.f a0=some r) :
 Calls Tryz.prog 176 #[.string a0] w fun e w'=>e = .returned (.bool r)∧Drawn0 w w':=by
 have H:(some (a0.toList==([103,111,116,109,112,108]:List UInt8)))=some r:=h;clear h;obtain rfl:=Option.some.inj H;go_enter Tryz.func176,Tryz.ntmps176;go_wp2;go_ret;exact ⟨cZ,dA⟩
def files_IsContentDataExt.f (a0:ByteArray):Option (Bool):=(files_IsGoTmplExt.f a0).bind fun t176=>(some t176)
set_option maxHeartbeats 8000000 in
set_option maxRecDepth 100000 in
theorem files_IsContentDataExt.calls (a0:ByteArray) (r:Bool) (w:World) (h:files_IsContentDataExt.f a0=some r) :
 Calls Tryz.prog 155 #[.string a0] w fun e w'=>e = .returned (.bool r)∧Drawn0 w w':=by
 have H:((files_IsGoTmplExt.f a0).bind fun t176=>(some t176))=some r:=h;clear h;replace H:=Option.bind_eq_some_iff.mp H;obtain ⟨t176,A20,H⟩:=H;replace H:(some t176)=some r:=H;have A2:=bR A20;clear A20;obtain rfl:=Option.some.inj H;go_enter Tryz.func155,Tryz.ntmps155
 go_wp2_with (first | ((with_reducible refine gate_callee (f:=176) rfl ?_);refine goesL_ (some 4) rfl rfl Tryz.func176 bB rfl #[.string a0] rfl bD ?_;(with_reducible refine (files_IsGoTmplExt.calls a0 t176 _ A2.out).mono ?_);rintro e w' ⟨rfl,⟨nd,rfl⟩⟩;refine ⟨_,rfl,?_⟩))
 go_ret;exact ⟨cZ,dA⟩
def files_IsContentDataExt.Pure:Prop:=∀ (a0:ByteArray),a0.size≤140737488351232→files_IsContentDataExt.f a0=some true
theorem files_IsContentDataExt.walk (P:files_IsContentDataExt.Pure) (a0:ByteArray) (w:World) (w0:a0.size≤140737488351232) :
 Calls Tryz.prog 155 #[.string a0] w fun e w'=>e = .returned (.bool true)∧Below w.heap.size w w':=by
 have h:=P a0 w0;refine (files_IsContentDataExt.calls a0 true w h).mono ?_;rintro e w' ⟨rfl,hd⟩;exact ⟨rfl,hd.below⟩
def laws_holds.l0:Nat→ByteArray→ByteArray→Int→Option (Bool)
 | 0,_,_,_=>none
 | k+1,x0,x1,x5=>if (wrap64 (x5+(x1.size:Int)))≤(x0.size:Int) then (if 0≤x5 then (if x5≤(wrap64 (x5+(x1.size:Int))) then (if (x0.extract (x5:Int).toNat ((wrap64 (x5+(x1.size:Int))):Int).toNat).toList=x1.toList then (some true) else (laws_holds.l0 k x0 x1 (wrap64 (x5+1)))) else (none)) else (none)) else (some false)
def laws_holds.f (k:Nat) (a0:ByteArray) (a1:ByteArray):Option (Bool):=laws_holds.l0 k a0 a1 0
theorem laws_holds.mono_l:∀ k,(∀ y0 y1 y2,LeO (laws_holds.l0 k y0 y1 y2) (laws_holds.l0 (k+1) y0 y1 y2))
 | 0=>fun _ _ _ r h=>by simp[laws_holds.l0] at h
 | k+1=>by
  have ih0:=laws_holds.mono_l k
  ·intro y0 y1 y2;unfold laws_holds.l0
   exact cN
theorem laws_holds.mono:∀ a0 a1 k,LeO (laws_holds.f k a0 a1) (laws_holds.f (k+1) a0 a1):=by
 intro a0 a1 k;have ih0:=laws_holds.mono_l k;unfold laws_holds.f
 exact cN
set_option maxHeartbeats 8000000 in
set_option maxRecDepth 100000 in
theorem laws_holds.calls (k:Nat) (a0:ByteArray) (a1:ByteArray) (r:Bool) (w:World) (h:laws_holds.f k a0 a1=some r) :
 Calls Tryz.prog 46 #[.string a0,.string a1] w fun e w'=>e = .returned (.bool r)∧Drawn0 w w':=by
 have H:(laws_holds.l0 k a0 a1 0)=some r:=h;clear h;have H':=bR H;clear H;go_enter Tryz.func46,Tryz.ntmps46;go_wp2
 go_loopg [5] k (fun kq v5 w'=>∃ (x5_1:Int),v5 = .int .i64 x5_1∧Aside0 (laws_holds.l0 kq a0 a1 x5_1=some r)∧Aside0 (kq≤k)∧Drawn0 w w')
 case atStart=>exact ⟨(0),bE,H',⟨Nat.le_refl _⟩,dA⟩
 case round =>
  clear H'
  try clear p2
  obtain ⟨x5_1,rfl,HA,HK1,⟨m1,rfl⟩⟩:=hrel
  cases gk with
  | zero=>exact absurd HA.out (by simp[laws_holds.l0])
  | succ k1 =>
   have H:=HA.out;clear HA;simp only[laws_holds.l0] at H
   by_cases c3:(wrap64 (x5_1+(a1.size:Int)))≤(a0.size:Int)
   ·rw[if_pos c3] at H;have c3b0:decide ((wrap64 (x5_1+(a1.size:Int)))≤(a0.size:Int))=true:=decide_eq_true c3;clear c3
    by_cases c4:0≤x5_1
    ·rw[if_pos c4] at H;have c4b0:=eq_true c4;have c4b1:decide (0≤x5_1)=true:=decide_eq_true c4;clear c4
     by_cases c5:x5_1≤(wrap64 (x5_1+(a1.size:Int)))
     ·rw[if_pos c5] at H;have c5b0:=eq_true c5;have c5b1:decide (x5_1≤(wrap64 (x5_1+(a1.size:Int))))=true:=decide_eq_true c5;have c6b0:=eq_true (bQ:(wrap64 (x5_1+(a1.size:Int)))≤(a0.size:Int))
      by_cases c7:(a0.extract (x5_1:Int).toNat ((wrap64 (x5_1+(a1.size:Int))):Int).toNat).toList=a1.toList
      ·rw[if_pos c7] at H;have c7b0:((a0.extract (x5_1:Int).toNat ((wrap64 (x5_1+(a1.size:Int))):Int).toNat).toList==a1.toList)=true:=beq_iff_eq.mpr c7;have c7b1:((a0.extract (x5_1:Int).toNat ((wrap64 (x5_1+(a1.size:Int))):Int).toNat).toList != a1.toList)=false:=bne_eq_false_iff_eq.mpr c7;clear c7;obtain rfl:=Option.some.inj H;go_wp2;go_ret;exact ⟨cZ,dA⟩
      ·rw[if_neg c7] at H;have c7b0:((a0.extract (x5_1:Int).toNat ((wrap64 (x5_1+(a1.size:Int))):Int).toNat).toList==a1.toList)=false:=beq_eq_false_iff_ne.mpr c7;have c7b1:((a0.extract (x5_1:Int).toNat ((wrap64 (x5_1+(a1.size:Int))):Int).toNat).toList != a1.toList)=true:=bne_iff_ne.mpr c7;have H':=bR H;clear H;go_wp2
       go_roundg k1
       case measure=>have:=HK1.out;omega
       case rel=>exact ⟨(wrap64 (x5_1+1)),bE,H',⟨by have:=HK1.out;omega⟩,dA⟩
     ·rw[if_neg c5] at H;exact absurd H bI
    ·rw[if_neg c4] at H;exact absurd H bI
   ·rw[if_neg c3] at H;have c3b0:decide ((wrap64 (x5_1+(a1.size:Int)))≤(a0.size:Int))=false:=decide_eq_false c3;clear c3;obtain rfl:=Option.some.inj H;go_wp2;go_ret;exact ⟨cZ,dA⟩
def laws_holds.Pure:Prop:=∀ (a0:ByteArray) (a1:ByteArray),a0.size≤140737488351232→a1.size≤140737488351232→∃ k,laws_holds.f k a0 a1=some true
theorem laws_holds.walk (P:laws_holds.Pure) (a0:ByteArray) (a1:ByteArray) (w:World) (w0:a0.size≤140737488351232) (w1:a1.size≤140737488351232) :
 Calls Tryz.prog 46 #[.string a0,.string a1] w fun e w'=>e = .returned (.bool true)∧Below w.heap.size w w':=by
 obtain ⟨k,h⟩:=P a0 a1 w0 w1;refine (laws_holds.calls k a0 a1 true w h).mono ?_;rintro e w' ⟨rfl,hd⟩;exact ⟨rfl,hd.below⟩
def laws_listed.l0:Nat→ByteArray→List ByteArray→Int→Int→Option (Bool)
 | 0,_,_,_,_=>none
 | k+1,x1,x7,x8,x9=>if x9 < x8 then (if 0≤x9 then (if x9 < (x7.length:Int) then (if (rdOf ByteArray.empty x7 x9).toList=x1.toList then (some true) else (laws_listed.l0 k x1 x7 x8 (wrap64 (x9+1)))) else (none)) else (none)) else (some false)
def laws_listed.f (k:Nat) (l0:List ByteArray) (a1:ByteArray):Option (Bool):=laws_listed.l0 k a1 l0 (l0.length:Int) 0
theorem laws_listed.mono_l:∀ k,(∀ y0 y1 y2 y3,LeO (laws_listed.l0 k y0 y1 y2 y3) (laws_listed.l0 (k+1) y0 y1 y2 y3))
 | 0=>fun _ _ _ _ r h=>by simp[laws_listed.l0] at h
 | k+1=>by
  have ih0:=laws_listed.mono_l k
  ·intro y0 y1 y2 y3;unfold laws_listed.l0
   exact cL
theorem laws_listed.mono:∀ a0 a1 k,LeO (laws_listed.f k a0 a1) (laws_listed.f (k+1) a0 a1):=by
 intro a0 a1 k;have ih0:=laws_listed.mono_l k;unfold laws_listed.f
 exact cL
set_option maxHeartbeats 8000000 in
set_option maxRecDepth 100000 in
theorem laws_listed.calls (k:Nat) (A0:Option Addr) (c0:Nat) (l0:List ByteArray) (a1:ByteArray) (r:Bool) (w:World) (hr0:Kd.C Kd.string w A0 l0.length l0) (hc0:l0.length≤c0) (h:laws_listed.f k l0 a1=some r) :
 Calls Tryz.prog 27 #[.slice A0 l0.length c0,.string a1] w fun e w'=>e = .returned (.bool r)∧Drawn0 w w':=by
 have HR0:=bR hr0;have HC0:=bR hc0;clear hr0 hc0;have H:(laws_listed.l0 k a1 l0 (l0.length:Int) 0)=some r:=h;clear h;have H':=bR H;clear H;go_enter Tryz.func27,Tryz.ntmps27;go_wp2
 go_loopg [9] k (fun kq v9 w'=>∃ (x9_1:Int),v9 = .int .i64 x9_1∧Aside0 (laws_listed.l0 kq a1 l0 (l0.length:Int) x9_1=some r)∧Aside0 (kq≤k)∧Drawn0 w w')
 case atStart=>exact ⟨(0),bE,H',⟨Nat.le_refl _⟩,dA⟩
 case round =>
  clear H'
  try clear c2
  try clear p2
  obtain ⟨x9_1,rfl,HA,HK1,⟨m1,rfl⟩⟩:=hrel
  cases gk with
  | zero=>exact absurd HA.out (by simp[laws_listed.l0])
  | succ k1 =>
   have H:=HA.out;clear HA;simp only[laws_listed.l0] at H
   by_cases c3:x9_1 < (l0.length:Int)
   ·rw[if_pos c3] at H;have c3b0:decide (x9_1 < (l0.length:Int))=true:=decide_eq_true c3;clear c3
    by_cases c4:0≤x9_1
    ·rw[if_pos c4] at H;have c4b0:decide (0≤x9_1)=true:=decide_eq_true c4;clear c4
     by_cases c5:x9_1 < (l0.length:Int)
     ·rw[if_pos c5] at H;have c5b0:decide (x9_1 < (l0.length:Int))=true:=decide_eq_true c5;clear c5
      by_cases c6:(rdOf ByteArray.empty l0 x9_1).toList=a1.toList
      ·rw[if_pos c6] at H;have c6b0:((rdOf ByteArray.empty l0 x9_1).toList==a1.toList)=true:=beq_iff_eq.mpr c6;have c6b1:((rdOf ByteArray.empty l0 x9_1).toList != a1.toList)=false:=bne_eq_false_iff_eq.mpr c6;clear c6;obtain rfl:=Option.some.inj H;have p177:0≤(x9_1:Int):=bQ;have q177:x9_1 < (l0.length:Int):=bQ;obtain ⟨ad177,e177,hx177_0⟩:=Kd.at_string HR0.out x9_1 p177 q177;cases e177;replace p177:=eq_true p177;replace q177:=eq_true q177;go_wp2;go_ret;exact ⟨cZ,dA⟩
      ·rw[if_neg c6] at H;have c6b0:((rdOf ByteArray.empty l0 x9_1).toList==a1.toList)=false:=beq_eq_false_iff_ne.mpr c6;have c6b1:((rdOf ByteArray.empty l0 x9_1).toList != a1.toList)=true:=bne_iff_ne.mpr c6;have H':=bR H;clear H;have p177:0≤(x9_1:Int):=bQ;have q177:x9_1 < (l0.length:Int):=bQ;obtain ⟨ad177,e177,hx177_0⟩:=Kd.at_string HR0.out x9_1 p177 q177;cases e177;replace p177:=eq_true p177;replace q177:=eq_true q177;go_wp2
       go_roundg k1
       case measure=>have:=HK1.out;omega
       case rel=>exact ⟨(wrap64 (x9_1+1)),bE,H',⟨by have:=HK1.out;omega⟩,dA⟩
     ·rw[if_neg c5] at H;exact absurd H bI
    ·rw[if_neg c4] at H;exact absurd H bI
   ·rw[if_neg c3] at H;have c3b0:decide (x9_1 < (l0.length:Int))=false:=decide_eq_false c3;clear c3;obtain rfl:=Option.some.inj H;go_wp2;go_ret;exact ⟨cZ,dA⟩
def spec_IsKind.f (a0:ByteArray):Option (Bool):=(spec_lower.f a0).bind fun t178=>(if t178.toList=([104,111,109,101]:List UInt8) then (some true) else (if t178.toList=([112,97,103,101]:List UInt8) then (some true) else (if t178.toList=([115,101,99,116,105,111,110]:List UInt8) then (some true) else (if t178.toList=([116,97,120,111,110,111,109,121]:List UInt8) then (some true) else (if t178.toList=([116,101,114,109]:List UInt8) then (some true) else (some (t178.toList==([116,97,120,111,110,111,109,121,116,101,114,109]:List UInt8))))))))
set_option maxHeartbeats 8000000 in
set_option maxRecDepth 100000 in
theorem spec_IsKind.calls (a0:ByteArray) (r:Bool) (w:World) (h:spec_IsKind.f a0=some r) :
 Calls Tryz.prog 45 #[.string a0] w fun e w'=>e = .returned (.bool r)∧Below w.heap.size w w':=by
 have HB:=bR (Below.refl w.heap.size w);have H:((spec_lower.f a0).bind fun t178=>(if t178.toList=([104,111,109,101]:List UInt8) then (some true) else (if t178.toList=([112,97,103,101]:List UInt8) then (some true) else (if t178.toList=([115,101,99,116,105,111,110]:List UInt8) then (some true) else (if t178.toList=([116,97,120,111,110,111,109,121]:List UInt8) then (some true) else (if t178.toList=([116,101,114,109]:List UInt8) then (some true) else (some (t178.toList==([116,97,120,111,110,111,109,121,116,101,114,109]:List UInt8)))))))))=some r:=h;clear h;replace H:=Option.bind_eq_some_iff.mp H;obtain ⟨t178,A20,H⟩:=H
 replace H:(if t178.toList=([104,111,109,101]:List UInt8) then (some true) else (if t178.toList=([112,97,103,101]:List UInt8) then (some true) else (if t178.toList=([115,101,99,116,105,111,110]:List UInt8) then (some true) else (if t178.toList=([116,97,120,111,110,111,109,121]:List UInt8) then (some true) else (if t178.toList=([116,101,114,109]:List UInt8) then (some true) else (some (t178.toList==([116,97,120,111,110,111,109,121,116,101,114,109]:List UInt8))))))))=some r:=H;have A2:=bR A20;clear A20
 by_cases c3:t178.toList=([104,111,109,101]:List UInt8)
 ·rw[if_pos c3] at H;have c3b0:(t178.toList==([104,111,109,101]:List UInt8))=true:=beq_iff_eq.mpr c3;have c3b1:(t178.toList != ([104,111,109,101]:List UInt8))=false:=bne_eq_false_iff_eq.mpr c3;clear c3;obtain rfl:=Option.some.inj H;go_enter Tryz.func45,Tryz.ntmps45
  go_wp2_with (first | ((with_reducible refine gate_callee (f:=63) rfl ?_);refine goesL_ (some 4) rfl rfl Tryz.func63 bB rfl #[.string a0] rfl bD ?_;(with_reducible refine (spec_lower.calls a0 t178 _ A2.out).mono ?_);rintro e w4 ⟨rfl,hb⟩;refine ⟨_,rfl,?_⟩;have n0_:=bR (below_step bC hb);clear HB;have HB:=n0_;clear n0_;(try clear hb);(try clear hb2);(try clear hk);(try clear hi)))
  go_ret;exact ⟨by first | rfl | (simp[errW_none,errW_some] <;> rfl) | (simp[*,errW_none,errW_some] <;> rfl),by repeat (first | (with_reducible first | exact HB.out | apply below_alloc | apply pw_below_drewN | apply below_drew1) | exact HB.out)⟩
 ·rw[if_neg c3] at H;have c3b0:(t178.toList==([104,111,109,101]:List UInt8))=false:=beq_eq_false_iff_ne.mpr c3;have c3b1:(t178.toList != ([104,111,109,101]:List UInt8))=true:=bne_iff_ne.mpr c3
  by_cases c5:t178.toList=([112,97,103,101]:List UInt8)
  ·rw[if_pos c5] at H;have c5b0:(t178.toList==([112,97,103,101]:List UInt8))=true:=beq_iff_eq.mpr c5;have c5b1:(t178.toList != ([112,97,103,101]:List UInt8))=false:=bne_eq_false_iff_eq.mpr c5;clear c5;obtain rfl:=Option.some.inj H;go_enter Tryz.func45,Tryz.ntmps45
   go_wp2_with (first | ((with_reducible refine gate_callee (f:=63) rfl ?_);refine goesL_ (some 4) rfl rfl Tryz.func63 bB rfl #[.string a0] rfl bD ?_;(with_reducible refine (spec_lower.calls a0 t178 _ A2.out).mono ?_);rintro e w6 ⟨rfl,hb⟩;refine ⟨_,rfl,?_⟩;have n0_:=bR (below_step bC hb);clear HB;have HB:=n0_;clear n0_;(try clear hb);(try clear hb2);(try clear hk);(try clear hi)))
   go_ret;exact ⟨by first | rfl | (simp[errW_none,errW_some] <;> rfl) | (simp[*,errW_none,errW_some] <;> rfl),by repeat (first | (with_reducible first | exact HB.out | apply below_alloc | apply pw_below_drewN | apply below_drew1) | exact HB.out)⟩
  ·rw[if_neg c5] at H;have c5b0:(t178.toList==([112,97,103,101]:List UInt8))=false:=beq_eq_false_iff_ne.mpr c5;have c5b1:(t178.toList != ([112,97,103,101]:List UInt8))=true:=bne_iff_ne.mpr c5
   by_cases c7:t178.toList=([115,101,99,116,105,111,110]:List UInt8)
   ·rw[if_pos c7] at H;have c7b0:(t178.toList==([115,101,99,116,105,111,110]:List UInt8))=true:=beq_iff_eq.mpr c7;have c7b1:(t178.toList != ([115,101,99,116,105,111,110]:List UInt8))=false:=bne_eq_false_iff_eq.mpr c7;clear c7;obtain rfl:=Option.some.inj H;go_enter Tryz.func45,Tryz.ntmps45
    go_wp2_with (first | ((with_reducible refine gate_callee (f:=63) rfl ?_);refine goesL_ (some 4) rfl rfl Tryz.func63 bB rfl #[.string a0] rfl bD ?_;(with_reducible refine (spec_lower.calls a0 t178 _ A2.out).mono ?_);rintro e w8 ⟨rfl,hb⟩;refine ⟨_,rfl,?_⟩;have n0_:=bR (below_step bC hb);clear HB;have HB:=n0_;clear n0_;(try clear hb);(try clear hb2);(try clear hk);(try clear hi)))
    go_ret;exact ⟨by first | rfl | (simp[errW_none,errW_some] <;> rfl) | (simp[*,errW_none,errW_some] <;> rfl),by repeat (first | (with_reducible first | exact HB.out | apply below_alloc | apply pw_below_drewN | apply below_drew1) | exact HB.out)⟩
   ·rw[if_neg c7] at H;have c7b0:(t178.toList==([115,101,99,116,105,111,110]:List UInt8))=false:=beq_eq_false_iff_ne.mpr c7;have c7b1:(t178.toList != ([115,101,99,116,105,111,110]:List UInt8))=true:=bne_iff_ne.mpr c7
    by_cases c9:t178.toList=([116,97,120,111,110,111,109,121]:List UInt8)
    ·rw[if_pos c9] at H;have c9b0:(t178.toList==([116,97,120,111,110,111,109,121]:List UInt8))=true:=beq_iff_eq.mpr c9;have c9b1:(t178.toList != ([116,97,120,111,110,111,109,121]:List UInt8))=false:=bne_eq_false_iff_eq.mpr c9;clear c9;obtain rfl:=Option.some.inj H;go_enter Tryz.func45,Tryz.ntmps45
     go_wp2_with (first | ((with_reducible refine gate_callee (f:=63) rfl ?_);refine goesL_ (some 4) rfl rfl Tryz.func63 bB rfl #[.string a0] rfl bD ?_;(with_reducible refine (spec_lower.calls a0 t178 _ A2.out).mono ?_);rintro e w10 ⟨rfl,hb⟩;refine ⟨_,rfl,?_⟩;have n0_:=bR (below_step bC hb);clear HB;have HB:=n0_;clear n0_;(try clear hb);(try clear hb2);(try clear hk);(try clear hi)))
     go_ret;exact ⟨by first | rfl | (simp[errW_none,errW_some] <;> rfl) | (simp[*,errW_none,errW_some] <;> rfl),by repeat (first | (with_reducible first | exact HB.out | apply below_alloc | apply pw_below_drewN | apply below_drew1) | exact HB.out)⟩
    ·rw[if_neg c9] at H;have c9b0:(t178.toList==([116,97,120,111,110,111,109,121]:List UInt8))=false:=beq_eq_false_iff_ne.mpr c9;have c9b1:(t178.toList != ([116,97,120,111,110,111,109,121]:List UInt8))=true:=bne_iff_ne.mpr c9
     by_cases c11:t178.toList=([116,101,114,109]:List UInt8)
     ·rw[if_pos c11] at H;have c11b0:(t178.toList==([116,101,114,109]:List UInt8))=true:=beq_iff_eq.mpr c11;have c11b1:(t178.toList != ([116,101,114,109]:List UInt8))=false:=bne_eq_false_iff_eq.mpr c11;clear c11;obtain rfl:=Option.some.inj H;go_enter Tryz.func45,Tryz.ntmps45
      go_wp2_with (first | ((with_reducible refine gate_callee (f:=63) rfl ?_);refine goesL_ (some 4) rfl rfl Tryz.func63 bB rfl #[.string a0] rfl bD ?_;(with_reducible refine (spec_lower.calls a0 t178 _ A2.out).mono ?_);rintro e w12 ⟨rfl,hb⟩;refine ⟨_,rfl,?_⟩;have n0_:=bR (below_step bC hb);clear HB;have HB:=n0_;clear n0_;(try clear hb);(try clear hb2);(try clear hk);(try clear hi)))
      go_ret;exact ⟨by first | rfl | (simp[errW_none,errW_some] <;> rfl) | (simp[*,errW_none,errW_some] <;> rfl),by repeat (first | (with_reducible first | exact HB.out | apply below_alloc | apply pw_below_drewN | apply below_drew1) | exact HB.out)⟩
     ·rw[if_neg c11] at H;have c11b0:(t178.toList==([116,101,114,109]:List UInt8))=false:=beq_eq_false_iff_ne.mpr c11;have c11b1:(t178.toList != ([116,101,114,109]:List UInt8))=true:=bne_iff_ne.mpr c11;obtain rfl:=Option.some.inj H;go_enter Tryz.func45,Tryz.ntmps45
      go_wp2_with (first | ((with_reducible refine gate_callee (f:=63) rfl ?_);refine goesL_ (some 4) rfl rfl Tryz.func63 bB rfl #[.string a0] rfl bD ?_;(with_reducible refine (spec_lower.calls a0 t178 _ A2.out).mono ?_);rintro e w13 ⟨rfl,hb⟩;refine ⟨_,rfl,?_⟩;have n0_:=bR (below_step bC hb);clear HB;have HB:=n0_;clear n0_;(try clear hb);(try clear hb2);(try clear hk);(try clear hi)))
      go_ret;exact ⟨by first | rfl | (simp[errW_none,errW_some] <;> rfl) | (simp[*,errW_none,errW_some] <;> rfl),by repeat (first | (with_reducible first | exact HB.out | apply below_alloc | apply pw_below_drewN | apply below_drew1) | exact HB.out)⟩
def spec_IsKind.Pure:Prop:=∀ (a0:ByteArray),a0.size≤140737488351232→spec_IsKind.f a0=some true
theorem spec_IsKind.walk (P:spec_IsKind.Pure) (a0:ByteArray) (w:World) (w0:a0.size≤140737488351232) :
 Calls Tryz.prog 45 #[.string a0] w fun e w'=>e = .returned (.bool true)∧Below w.heap.size w w':=by
 have h:=P a0 w0;refine (spec_IsKind.calls a0 true w h).mono ?_;rintro e w' ⟨rfl,hd⟩;exact ⟨rfl,hd⟩
end Go.Proofs.YtmgdbpjidkdegaaGreatDoor.PCore
