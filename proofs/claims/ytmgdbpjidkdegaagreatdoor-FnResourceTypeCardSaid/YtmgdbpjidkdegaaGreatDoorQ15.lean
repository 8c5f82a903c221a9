/- Texts that the law leans on: PCorex8. Condition: as told at each. -/
import Derived.Test.YtmgdbpjidkdegaaGreatDoorQa
import Derived.Test.YtmgdbpjidkdegaaGreatDoorQ14
set_option linter.unusedVariables false
set_option linter.unusedSimpArgs false
namespace Go.Proofs.YtmgdbpjidkdegaaGreatDoor.PCore
open Go.RowKit Go.Proofs.YtmgdbpjidkdegaaGreatDoorW.PrintWords Go.Proofs.YtmgdbpjidkdegaaGreatDoorW.PrintLast Go.Proofs.YtmgdbpjidkdegaaGreatDoorW.PrintMore
attribute [local go_sem] max2_int min2_int max_two min_two max_three min_three max_four min_four   -- for this text's walks alone
set_option linter.unusedVariables false
set_option linter.unusedSimpArgs false
def laws_plain.l0:Nat→ByteArray→Int→Option (Bool)
 | 0,_,_=>none
 | k+1,x0,x3=>if x3 < (x0.size:Int) then (if 0≤x3 then (if (bt x0 x3)≥97 then (if ((bt x0 x3)≤122) then (laws_plain.l0 k x0 (wrap64 (x3+1))) else (if x3=0 then (some false) else (if (bt x0 x3) < 48 then (if (bt x0 x3)=45 then (laws_plain.l0 k x0 (wrap64 (x3+1))) else (some false)) else (if (bt x0 x3) > 57 then (if (bt x0 x3)=45 then (laws_plain.l0 k x0 (wrap64 (x3+1))) else (some false)) else (laws_plain.l0 k x0 (wrap64 (x3+1))))))) else (if x3=0 then (some false) else (if (bt x0 x3) < 48 then (if (bt x0 x3)=45 then (laws_plain.l0 k x0 (wrap64 (x3+1))) else (some false)) else (if (bt x0 x3) > 57 then (if (bt x0 x3)=45 then (laws_plain.l0 k x0 (wrap64 (x3+1))) else (some false)) else (laws_plain.l0 k x0 (wrap64 (x3+1))))))) else (none)) else (if x0.toList=([]:List UInt8) then (some false) else (if x0.toList=([105,110,100,101,120]:List UInt8) then (some false) else (if x0.toList=([98,97,115,101,111,102]:List UInt8) then (some false) else ((spec_IsKind.f x0).bind fun t179=>(some (!t179))))))
def laws_plain.f (k:Nat) (a0:ByteArray):Option (Bool):=laws_plain.l0 k a0 0
theorem laws_plain.mono_l:∀ k,(∀ y0 y1,LeO (laws_plain.l0 k y0 y1) (laws_plain.l0 (k+1) y0 y1))
 | 0=>fun _ _ r h=>by simp[laws_plain.l0] at h
 | k+1=>by
  have ih0:=laws_plain.mono_l k
  ·intro y0 y1;unfold laws_plain.l0
   exact cO
theorem laws_plain.mono:∀ a0 k,LeO (laws_plain.f k a0) (laws_plain.f (k+1) a0):=by
 intro a0 k;have ih0:=laws_plain.mono_l k;unfold laws_plain.f
 exact cO
set_option maxHeartbeats 8000000 in
set_option maxRecDepth 100000 in
theorem laws_plain.calls (k:Nat) (a0:ByteArray) (r:Bool) (w:World) (h:laws_plain.f k a0=some r) :
 Calls Tryz.prog 26 #[.string a0] w fun e w'=>e = .returned (.bool r)∧Below w.heap.size w w':=by
 have HB:=bR (Below.refl w.heap.size w);have H:(laws_plain.l0 k a0 0)=some r:=h;clear h;have H':=bR H;clear H;go_enter Tryz.func26,Tryz.ntmps26;go_wp2
 go_loopg [3] k (fun kq v3 w'=>∃ (x3_1:Int),v3 = .int .i64 x3_1∧Aside0 (laws_plain.l0 kq a0 x3_1=some r)∧Aside0 (kq≤k)∧Aside0 (Below w.heap.size w w'))
 case atStart=>exact ⟨(0),bE,H',⟨Nat.le_refl _⟩,⟨by repeat (first | (with_reducible first | exact HB.out | apply below_alloc | apply pw_below_drewN | apply below_drew1) | exact HB.out)⟩⟩
 case round =>
  clear H';obtain ⟨x3_1,rfl,HA,HK1,HB⟩:=hrel
  cases gk with
  | zero=>exact absurd HA.out (by simp[laws_plain.l0])
  | succ k1 =>
   have H:=HA.out;clear HA;simp only[laws_plain.l0] at H
   by_cases c2:x3_1 < (a0.size:Int)
   ·rw[if_pos c2] at H;have c2b0:decide (x3_1 < (a0.size:Int))=true:=decide_eq_true c2;clear c2
    by_cases c3:0≤x3_1
    ·rw[if_pos c3] at H;have c3b0:decide (0≤x3_1)=true:=decide_eq_true c3;clear c3
     by_cases c5:(bt a0 x3_1)≥97
     ·rw[if_pos c5] at H;have c5b0:decide (97≤(bt a0 x3_1))=true:=decide_eq_true c5;clear c5
      by_cases c7:((bt a0 x3_1)≤122)
      ·rw[if_pos c7] at H;have c7b0:decide ((bt a0 x3_1)≤122)=true:=decide_eq_true c7;clear c7;have H':=bR H;clear H;have p4:0≤(x3_1:Int):=bQ;have q4:x3_1 < (a0.size:Int):=bQ;have hx4:=bt_at a0 x3_1;replace p4:=eq_true p4;replace q4:=eq_true q4;have p6:0≤(x3_1:Int):=bQ;have q6:x3_1 < (a0.size:Int):=bQ;have hx6:=bt_at a0 x3_1;replace p6:=eq_true p6;replace q6:=eq_true q6;go_wp2
       go_roundg k1
       case measure=>have:=HK1.out;omega
       case rel=>exact ⟨(wrap64 (x3_1+1)),bE,H',⟨by have:=HK1.out;omega⟩,⟨by repeat (first | (with_reducible first | exact HB.out | apply below_alloc | apply pw_below_drewN | apply below_drew1) | exact HB.out)⟩⟩
      ·rw[if_neg c7] at H;have c7b0:decide ((bt a0 x3_1)≤122)=false:=decide_eq_false c7;clear c7
       by_cases c8:x3_1=0
       ·rw[if_pos c8] at H;have c8b0:(x3_1==0)=true:=beq_iff_eq.mpr c8;have c8b1:(x3_1 != 0)=false:=bne_eq_false_iff_eq.mpr c8;clear c8;obtain rfl:=Option.some.inj H;have p4:0≤(x3_1:Int):=bQ;have q4:x3_1 < (a0.size:Int):=bQ;have hx4:=bt_at a0 x3_1;replace p4:=eq_true p4;replace q4:=eq_true q4;have p6:0≤(x3_1:Int):=bQ;have q6:x3_1 < (a0.size:Int):=bQ;have hx6:=bt_at a0 x3_1;replace p6:=eq_true p6;replace q6:=eq_true q6;go_wp2;go_ret
        exact ⟨by first | rfl | (simp[errW_none,errW_some] <;> rfl) | (simp[*,errW_none,errW_some] <;> rfl),by repeat (first | (with_reducible first | exact HB.out | apply below_alloc | apply pw_below_drewN | apply below_drew1) | exact HB.out)⟩
       ·rw[if_neg c8] at H;have c8b0:(x3_1==0)=false:=beq_eq_false_iff_ne.mpr c8;have c8b1:(x3_1 != 0)=true:=bne_iff_ne.mpr c8
        by_cases c10:(bt a0 x3_1) < 48
        ·rw[if_pos c10] at H;have c10b0:decide ((bt a0 x3_1) < 48)=true:=decide_eq_true c10;clear c10
         by_cases c12:(bt a0 x3_1)=45
         ·rw[if_pos c12] at H;have c12b0:((bt a0 x3_1)==45)=true:=beq_iff_eq.mpr c12;have c12b1:((bt a0 x3_1) != 45)=false:=bne_eq_false_iff_eq.mpr c12;clear c12;have H':=bR H;clear H;have p4:0≤(x3_1:Int):=bQ;have q4:x3_1 < (a0.size:Int):=bQ;have hx4:=bt_at a0 x3_1;replace p4:=eq_true p4;replace q4:=eq_true q4;have p6:0≤(x3_1:Int):=bQ;have q6:x3_1 < (a0.size:Int):=bQ;have hx6:=bt_at a0 x3_1;replace p6:=eq_true p6;replace q6:=eq_true q6;have p9:0≤(x3_1:Int):=bQ
          have q9:x3_1 < (a0.size:Int):=bQ;have hx9:=bt_at a0 x3_1;replace p9:=eq_true p9;replace q9:=eq_true q9;have p11:0≤(x3_1:Int):=bQ;have q11:x3_1 < (a0.size:Int):=bQ;have hx11:=bt_at a0 x3_1;replace p11:=eq_true p11;replace q11:=eq_true q11;go_wp2
          go_roundg k1
          case measure=>have:=HK1.out;omega
          case rel=>exact ⟨(wrap64 (x3_1+1)),bE,H',⟨by have:=HK1.out;omega⟩,⟨by repeat (first | (with_reducible first | exact HB.out | apply below_alloc | apply pw_below_drewN | apply below_drew1) | exact HB.out)⟩⟩
         ·rw[if_neg c12] at H;have c12b0:((bt a0 x3_1)==45)=false:=beq_eq_false_iff_ne.mpr c12;have c12b1:((bt a0 x3_1) != 45)=true:=bne_iff_ne.mpr c12;obtain rfl:=Option.some.inj H;have p4:0≤(x3_1:Int):=bQ;have q4:x3_1 < (a0.size:Int):=bQ;have hx4:=bt_at a0 x3_1;replace p4:=eq_true p4;replace q4:=eq_true q4;have p6:0≤(x3_1:Int):=bQ;have q6:x3_1 < (a0.size:Int):=bQ;have hx6:=bt_at a0 x3_1;replace p6:=eq_true p6;replace q6:=eq_true q6;have p9:0≤(x3_1:Int):=bQ
          have q9:x3_1 < (a0.size:Int):=bQ;have hx9:=bt_at a0 x3_1;replace p9:=eq_true p9;replace q9:=eq_true q9;have p11:0≤(x3_1:Int):=bQ;have q11:x3_1 < (a0.size:Int):=bQ;have hx11:=bt_at a0 x3_1;replace p11:=eq_true p11;replace q11:=eq_true q11;go_wp2;go_ret;exact ⟨by first | rfl | (simp[errW_none,errW_some] <;> rfl) | (simp[*,errW_none,errW_some] <;> rfl),by repeat (first | (with_reducible first | exact HB.out | apply below_alloc | apply pw_below_drewN | apply below_drew1) | exact HB.out)⟩
        ·rw[if_neg c10] at H;have c10b0:decide ((bt a0 x3_1) < 48)=false:=decide_eq_false c10;clear c10
         by_cases c14:(bt a0 x3_1) > 57
         ·rw[if_pos c14] at H;have c14b0:decide (57 < (bt a0 x3_1))=true:=decide_eq_true c14;clear c14
          by_cases c16:(bt a0 x3_1)=45
          ·rw[if_pos c16] at H;have c16b0:((bt a0 x3_1)==45)=true:=beq_iff_eq.mpr c16;have c16b1:((bt a0 x3_1) != 45)=false:=bne_eq_false_iff_eq.mpr c16;clear c16;have H':=bR H;clear H;have p4:0≤(x3_1:Int):=bQ;have q4:x3_1 < (a0.size:Int):=bQ;have hx4:=bt_at a0 x3_1;replace p4:=eq_true p4;replace q4:=eq_true q4;have p6:0≤(x3_1:Int):=bQ;have q6:x3_1 < (a0.size:Int):=bQ;have hx6:=bt_at a0 x3_1;replace p6:=eq_true p6;replace q6:=eq_true q6;have p9:0≤(x3_1:Int):=bQ
           have q9:x3_1 < (a0.size:Int):=bQ;have hx9:=bt_at a0 x3_1;replace p9:=eq_true p9;replace q9:=eq_true q9;have p13:0≤(x3_1:Int):=bQ;have q13:x3_1 < (a0.size:Int):=bQ;have hx13:=bt_at a0 x3_1;replace p13:=eq_true p13;replace q13:=eq_true q13;have p15:0≤(x3_1:Int):=bQ;have q15:x3_1 < (a0.size:Int):=bQ;have hx15:=bt_at a0 x3_1;replace p15:=eq_true p15;replace q15:=eq_true q15;go_wp2
           go_roundg k1
           case measure=>have:=HK1.out;omega
           case rel=>exact ⟨(wrap64 (x3_1+1)),bE,H',⟨by have:=HK1.out;omega⟩,⟨by repeat (first | (with_reducible first | exact HB.out | apply below_alloc | apply pw_below_drewN | apply below_drew1) | exact HB.out)⟩⟩
          ·rw[if_neg c16] at H;have c16b0:((bt a0 x3_1)==45)=false:=beq_eq_false_iff_ne.mpr c16;have c16b1:((bt a0 x3_1) != 45)=true:=bne_iff_ne.mpr c16;obtain rfl:=Option.some.inj H;have p4:0≤(x3_1:Int):=bQ;have q4:x3_1 < (a0.size:Int):=bQ;have hx4:=bt_at a0 x3_1;replace p4:=eq_true p4;replace q4:=eq_true q4;have p6:0≤(x3_1:Int):=bQ;have q6:x3_1 < (a0.size:Int):=bQ;have hx6:=bt_at a0 x3_1;replace p6:=eq_true p6;replace q6:=eq_true q6;have p9:0≤(x3_1:Int):=bQ
           have q9:x3_1 < (a0.size:Int):=bQ;have hx9:=bt_at a0 x3_1;replace p9:=eq_true p9;replace q9:=eq_true q9;have p13:0≤(x3_1:Int):=bQ;have q13:x3_1 < (a0.size:Int):=bQ;have hx13:=bt_at a0 x3_1;replace p13:=eq_true p13;replace q13:=eq_true q13;have p15:0≤(x3_1:Int):=bQ;have q15:x3_1 < (a0.size:Int):=bQ;have hx15:=bt_at a0 x3_1;replace p15:=eq_true p15;replace q15:=eq_true q15;go_wp2;go_ret
           exact ⟨by first | rfl | (simp[errW_none,errW_some] <;> rfl) | (simp[*,errW_none,errW_some] <;> rfl),by repeat (first | (with_reducible first | exact HB.out | apply below_alloc | apply pw_below_drewN | apply below_drew1) | exact HB.out)⟩
         ·rw[if_neg c14] at H;have c14b0:decide (57 < (bt a0 x3_1))=false:=decide_eq_false c14;clear c14;have H':=bR H;clear H;have p4:0≤(x3_1:Int):=bQ;have q4:x3_1 < (a0.size:Int):=bQ;have hx4:=bt_at a0 x3_1;replace p4:=eq_true p4;replace q4:=eq_true q4;have p6:0≤(x3_1:Int):=bQ;have q6:x3_1 < (a0.size:Int):=bQ;have hx6:=bt_at a0 x3_1;replace p6:=eq_true p6;replace q6:=eq_true q6;have p9:0≤(x3_1:Int):=bQ
          have q9:x3_1 < (a0.size:Int):=bQ;have hx9:=bt_at a0 x3_1;replace p9:=eq_true p9;replace q9:=eq_true q9;have p13:0≤(x3_1:Int):=bQ;have q13:x3_1 < (a0.size:Int):=bQ;have hx13:=bt_at a0 x3_1;replace p13:=eq_true p13;replace q13:=eq_true q13;go_wp2
          go_roundg k1
          case measure=>have:=HK1.out;omega
          case rel=>exact ⟨(wrap64 (x3_1+1)),bE,H',⟨by have:=HK1.out;omega⟩,⟨by repeat (first | (with_reducible first | exact HB.out | apply below_alloc | apply pw_below_drewN | apply below_drew1) | exact HB.out)⟩⟩
     ·rw[if_neg c5] at H;have c5b0:decide (97≤(bt a0 x3_1))=false:=decide_eq_false c5;clear c5
      by_cases c17:x3_1=0
      ·rw[if_pos c17] at H;have c17b0:(x3_1==0)=true:=beq_iff_eq.mpr c17;have c17b1:(x3_1 != 0)=false:=bne_eq_false_iff_eq.mpr c17;clear c17;obtain rfl:=Option.some.inj H;have p4:0≤(x3_1:Int):=bQ;have q4:x3_1 < (a0.size:Int):=bQ;have hx4:=bt_at a0 x3_1;replace p4:=eq_true p4;replace q4:=eq_true q4;go_wp2;go_ret;exact ⟨by first | rfl | (simp[errW_none,errW_some] <;> rfl) | (simp[*,errW_none,errW_some] <;> rfl),by repeat (first | (with_reducible first | exact HB.out | apply below_alloc | apply pw_below_drewN | apply below_drew1) | exact HB.out)⟩
      ·rw[if_neg c17] at H;have c17b0:(x3_1==0)=false:=beq_eq_false_iff_ne.mpr c17;have c17b1:(x3_1 != 0)=true:=bne_iff_ne.mpr c17
       by_cases c19:(bt a0 x3_1) < 48
       ·rw[if_pos c19] at H;have c19b0:decide ((bt a0 x3_1) < 48)=true:=decide_eq_true c19;clear c19
        by_cases c21:(bt a0 x3_1)=45
        ·rw[if_pos c21] at H;have c21b0:((bt a0 x3_1)==45)=true:=beq_iff_eq.mpr c21;have c21b1:((bt a0 x3_1) != 45)=false:=bne_eq_false_iff_eq.mpr c21;clear c21;have H':=bR H;clear H;have p4:0≤(x3_1:Int):=bQ;have q4:x3_1 < (a0.size:Int):=bQ;have hx4:=bt_at a0 x3_1;replace p4:=eq_true p4;replace q4:=eq_true q4;have p18:0≤(x3_1:Int):=bQ;have q18:x3_1 < (a0.size:Int):=bQ;have hx18:=bt_at a0 x3_1;replace p18:=eq_true p18;replace q18:=eq_true q18;have p20:0≤(x3_1:Int):=bQ
         have q20:x3_1 < (a0.size:Int):=bQ;have hx20:=bt_at a0 x3_1;replace p20:=eq_true p20;replace q20:=eq_true q20;go_wp2
         go_roundg k1
         case measure=>have:=HK1.out;omega
         case rel=>exact ⟨(wrap64 (x3_1+1)),bE,H',⟨by have:=HK1.out;omega⟩,⟨by repeat (first | (with_reducible first | exact HB.out | apply below_alloc | apply pw_below_drewN | apply below_drew1) | exact HB.out)⟩⟩
        ·rw[if_neg c21] at H;have c21b0:((bt a0 x3_1)==45)=false:=beq_eq_false_iff_ne.mpr c21;have c21b1:((bt a0 x3_1) != 45)=true:=bne_iff_ne.mpr c21;obtain rfl:=Option.some.inj H;have p4:0≤(x3_1:Int):=bQ;have q4:x3_1 < (a0.size:Int):=bQ;have hx4:=bt_at a0 x3_1;replace p4:=eq_true p4;replace q4:=eq_true q4;have p18:0≤(x3_1:Int):=bQ;have q18:x3_1 < (a0.size:Int):=bQ;have hx18:=bt_at a0 x3_1;replace p18:=eq_true p18;replace q18:=eq_true q18;have p20:0≤(x3_1:Int):=bQ
         have q20:x3_1 < (a0.size:Int):=bQ;have hx20:=bt_at a0 x3_1;replace p20:=eq_true p20;replace q20:=eq_true q20;go_wp2;go_ret;exact ⟨by first | rfl | (simp[errW_none,errW_some] <;> rfl) | (simp[*,errW_none,errW_some] <;> rfl),by repeat (first | (with_reducible first | exact HB.out | apply below_alloc | apply pw_below_drewN | apply below_drew1) | exact HB.out)⟩
       ·rw[if_neg c19] at H;have c19b0:decide ((bt a0 x3_1) < 48)=false:=decide_eq_false c19;clear c19
        by_cases c23:(bt a0 x3_1) > 57
        ·rw[if_pos c23] at H;have c23b0:decide (57 < (bt a0 x3_1))=true:=decide_eq_true c23;clear c23
         by_cases c25:(bt a0 x3_1)=45
         ·rw[if_pos c25] at H;have c25b0:((bt a0 x3_1)==45)=true:=beq_iff_eq.mpr c25;have c25b1:((bt a0 x3_1) != 45)=false:=bne_eq_false_iff_eq.mpr c25;clear c25;have H':=bR H;clear H;have p4:0≤(x3_1:Int):=bQ;have q4:x3_1 < (a0.size:Int):=bQ;have hx4:=bt_at a0 x3_1;replace p4:=eq_true p4;replace q4:=eq_true q4;have p18:0≤(x3_1:Int):=bQ;have q18:x3_1 < (a0.size:Int):=bQ;have hx18:=bt_at a0 x3_1;replace p18:=eq_true p18;replace q18:=eq_true q18;have p22:0≤(x3_1:Int):=bQ
          have q22:x3_1 < (a0.size:Int):=bQ;have hx22:=bt_at a0 x3_1;replace p22:=eq_true p22;replace q22:=eq_true q22;have p24:0≤(x3_1:Int):=bQ;have q24:x3_1 < (a0.size:Int):=bQ;have hx24:=bt_at a0 x3_1;replace p24:=eq_true p24;replace q24:=eq_true q24;go_wp2
          go_roundg k1
          case measure=>have:=HK1.out;omega
          case rel=>exact ⟨(wrap64 (x3_1+1)),bE,H',⟨by have:=HK1.out;omega⟩,⟨by repeat (first | (with_reducible first | exact HB.out | apply below_alloc | apply pw_below_drewN | apply below_drew1) | exact HB.out)⟩⟩
         ·rw[if_neg c25] at H;have c25b0:((bt a0 x3_1)==45)=false:=beq_eq_false_iff_ne.mpr c25;have c25b1:((bt a0 x3_1) != 45)=true:=bne_iff_ne.mpr c25;obtain rfl:=Option.some.inj H;have p4:0≤(x3_1:Int):=bQ;have q4:x3_1 < (a0.size:Int):=bQ;have hx4:=bt_at a0 x3_1;replace p4:=eq_true p4;replace q4:=eq_true q4;have p18:0≤(x3_1:Int):=bQ;have q18:x3_1 < (a0.size:Int):=bQ;have hx18:=bt_at a0 x3_1;replace p18:=eq_true p18;replace q18:=eq_true q18;have p22:0≤(x3_1:Int):=bQ
          have q22:x3_1 < (a0.size:Int):=bQ;have hx22:=bt_at a0 x3_1;replace p22:=eq_true p22;replace q22:=eq_true q22;have p24:0≤(x3_1:Int):=bQ;have q24:x3_1 < (a0.size:Int):=bQ;have hx24:=bt_at a0 x3_1;replace p24:=eq_true p24;replace q24:=eq_true q24;go_wp2;go_ret;exact ⟨by first | rfl | (simp[errW_none,errW_some] <;> rfl) | (simp[*,errW_none,errW_some] <;> rfl),by repeat (first | (with_reducible first | exact HB.out | apply below_alloc | apply pw_below_drewN | apply below_drew1) | exact HB.out)⟩
        ·rw[if_neg c23] at H;have c23b0:decide (57 < (bt a0 x3_1))=false:=decide_eq_false c23;clear c23;have H':=bR H;clear H;have p4:0≤(x3_1:Int):=bQ;have q4:x3_1 < (a0.size:Int):=bQ;have hx4:=bt_at a0 x3_1;replace p4:=eq_true p4;replace q4:=eq_true q4;have p18:0≤(x3_1:Int):=bQ;have q18:x3_1 < (a0.size:Int):=bQ;have hx18:=bt_at a0 x3_1;replace p18:=eq_true p18;replace q18:=eq_true q18;have p22:0≤(x3_1:Int):=bQ
         have q22:x3_1 < (a0.size:Int):=bQ;have hx22:=bt_at a0 x3_1;replace p22:=eq_true p22;replace q22:=eq_true q22;go_wp2
         go_roundg k1
         case measure=>have:=HK1.out;omega
         case rel=>exact ⟨(wrap64 (x3_1+1)),bE,H',⟨by have:=HK1.out;omega⟩,⟨by repeat (first | (with_reducible first | exact HB.out | apply below_alloc | apply pw_below_drewN | apply below_drew1) | exact HB.out)⟩⟩
    ·rw[if_neg c3] at H;exact absurd H bI
   ·rw[if_neg c2] at H;have c2b0:decide (x3_1 < (a0.size:Int))=false:=decide_eq_false c2;clear c2
    by_cases c26:a0.toList=([]:List UInt8)
    ·rw[if_pos c26] at H;have c26b0:(a0.toList==([]:List UInt8))=true:=beq_iff_eq.mpr c26;have c26b1:(a0.toList != ([]:List UInt8))=false:=bne_eq_false_iff_eq.mpr c26;clear c26;obtain rfl:=Option.some.inj H;go_wp2;go_ret;exact ⟨by first | rfl | (simp[errW_none,errW_some] <;> rfl) | (simp[*,errW_none,errW_some] <;> rfl),by repeat (first | (with_reducible first | exact HB.out | apply below_alloc | apply pw_below_drewN | apply below_drew1) | exact HB.out)⟩
    ·rw[if_neg c26] at H;have c26b0:(a0.toList==([]:List UInt8))=false:=beq_eq_false_iff_ne.mpr c26;have c26b1:(a0.toList != ([]:List UInt8))=true:=bne_iff_ne.mpr c26
     by_cases c27:a0.toList=([105,110,100,101,120]:List UInt8)
     ·rw[if_pos c27] at H;have c27b0:(a0.toList==([105,110,100,101,120]:List UInt8))=true:=beq_iff_eq.mpr c27;have c27b1:(a0.toList != ([105,110,100,101,120]:List UInt8))=false:=bne_eq_false_iff_eq.mpr c27;clear c27;obtain rfl:=Option.some.inj H;go_wp2;go_ret;exact ⟨by first | rfl | (simp[errW_none,errW_some] <;> rfl) | (simp[*,errW_none,errW_some] <;> rfl),by repeat (first | (with_reducible first | exact HB.out | apply below_alloc | apply pw_below_drewN | apply below_drew1) | exact HB.out)⟩
     ·rw[if_neg c27] at H;have c27b0:(a0.toList==([105,110,100,101,120]:List UInt8))=false:=beq_eq_false_iff_ne.mpr c27;have c27b1:(a0.toList != ([105,110,100,101,120]:List UInt8))=true:=bne_iff_ne.mpr c27
      by_cases c28:a0.toList=([98,97,115,101,111,102]:List UInt8)
      ·rw[if_pos c28] at H;have c28b0:(a0.toList==([98,97,115,101,111,102]:List UInt8))=true:=beq_iff_eq.mpr c28;have c28b1:(a0.toList != ([98,97,115,101,111,102]:List UInt8))=false:=bne_eq_false_iff_eq.mpr c28;clear c28;obtain rfl:=Option.some.inj H;go_wp2;go_ret;exact ⟨by first | rfl | (simp[errW_none,errW_some] <;> rfl) | (simp[*,errW_none,errW_some] <;> rfl),by repeat (first | (with_reducible first | exact HB.out | apply below_alloc | apply pw_below_drewN | apply below_drew1) | exact HB.out)⟩
      ·rw[if_neg c28] at H;have c28b0:(a0.toList==([98,97,115,101,111,102]:List UInt8))=false:=beq_eq_false_iff_ne.mpr c28;have c28b1:(a0.toList != ([98,97,115,101,111,102]:List UInt8))=true:=bne_iff_ne.mpr c28;replace H:=Option.bind_eq_some_iff.mp H;obtain ⟨t179,A290,H⟩:=H;replace H:(some (!t179))=some r:=H;have A29:=bR A290;clear A290;obtain rfl:=Option.some.inj H
       go_wp2_with (first | (go_at_call 45;(with_reducible refine (spec_IsKind.calls a0 t179 _ A29.out).mono ?_);rintro e w30 ⟨rfl,hb⟩;have n0_:=bR (below_step bC hb);clear HB;have HB:=n0_;clear n0_;(try clear hb);(try clear hb2);(try clear hk);(try clear hi)))
       go_ret;exact ⟨by first | rfl | (simp[errW_none,errW_some] <;> rfl) | (simp[*,errW_none,errW_some] <;> rfl),by repeat (first | (with_reducible first | exact HB.out | apply below_alloc | apply pw_below_drewN | apply below_drew1) | exact HB.out)⟩
def laws_plain.Pure:Prop:=∀ (a0:ByteArray),a0.size≤140737488351232→∃ k,laws_plain.f k a0=some true
theorem laws_plain.walk (P:laws_plain.Pure) (a0:ByteArray) (w:World) (w0:a0.size≤140737488351232) :
 Calls Tryz.prog 26 #[.string a0] w fun e w'=>e = .returned (.bool true)∧Below w.heap.size w w':=by
 obtain ⟨k,h⟩:=P a0 w0;refine (laws_plain.calls k a0 true w h).mono ?_;rintro e w' ⟨rfl,hd⟩;exact ⟨rfl,hd⟩
def laws_plains.l0:Nat→List ByteArray→List ByteArray→Int→Int→Option (Bool)
 | 0,_,_,_,_=>none
 | k+1,x0,x5,x6,x7=>if x7 < x6 then (if 0≤x7 then (if x7 < (x5.length:Int) then ((laws_plain.f k (rdOf ByteArray.empty x5 x7)).bind fun t181=>(if t181=true then (laws_plains.l0 k x0 x5 x6 (wrap64 (x7+1))) else (some false))) else (none)) else (none)) else ((laws_few.f k x0).bind fun t182=>(some t182))
def laws_plains.f (k:Nat) (l0:List ByteArray):Option (Bool):=laws_plains.l0 k l0 l0 (l0.length:Int) 0
theorem laws_plains.mono_l:∀ k,(∀ y0 y1 y2 y3,LeO (laws_plains.l0 k y0 y1 y2 y3) (laws_plains.l0 (k+1) y0 y1 y2 y3))
 | 0=>fun _ _ _ _ r h=>by simp[laws_plains.l0] at h
 | k+1=>by
  have ih0:=laws_plains.mono_l k
  ·intro y0 y1 y2 y3;unfold laws_plains.l0
   exact cW
theorem laws_plains.mono:∀ a0 k,LeO (laws_plains.f k a0) (laws_plains.f (k+1) a0):=by
 intro a0 k;have ih0:=laws_plains.mono_l k;unfold laws_plains.f
 exact cW
set_option maxHeartbeats 8000000 in
set_option maxRecDepth 100000 in
theorem laws_plains.calls (k:Nat) (A0:Option Addr) (c0:Nat) (l0:List ByteArray) (r:Bool) (w:World) (hr0:Kd.C Kd.string w A0 l0.length l0) (hc0:l0.length≤c0) (h:laws_plains.f k l0=some r) :
 Calls Tryz.prog 19 #[.slice A0 l0.length c0] w fun e w'=>e = .returned (.bool r)∧Below w.heap.size w w':=by
 have HR0:=bR hr0;have HC0:=bR hc0;clear hr0 hc0;have HB:=bR (Below.refl w.heap.size w);have H:(laws_plains.l0 k l0 l0 (l0.length:Int) 0)=some r:=h;clear h;have H':=bR H;clear H;go_enter Tryz.func19,Tryz.ntmps19;go_wp2
 go_loopg [7] k (fun kq v7 w'=>∃ (x7_1:Int),v7 = .int .i64 x7_1∧Aside0 (laws_plains.l0 kq l0 l0 (l0.length:Int) x7_1=some r)∧Aside0 (kq≤k)∧Aside0 (Below w.heap.size w w'))
 case atStart=>exact ⟨(0),bE,H',⟨Nat.le_refl _⟩,⟨by repeat (first | (with_reducible first | exact HB.out | apply below_alloc | apply pw_below_drewN | apply below_drew1) | exact HB.out)⟩⟩
 case round =>
  clear H'
  try clear c1
  obtain ⟨x7_1,rfl,HA,HK1,HB⟩:=hrel
  cases gk with
  | zero=>exact absurd HA.out (by simp[laws_plains.l0])
  | succ k1 =>
   have H:=HA.out;clear HA;simp only[laws_plains.l0] at H
   by_cases c2:x7_1 < (l0.length:Int)
   ·rw[if_pos c2] at H;have c2b0:decide (x7_1 < (l0.length:Int))=true:=decide_eq_true c2;clear c2
    by_cases c3:0≤x7_1
    ·rw[if_pos c3] at H;have c3b0:decide (0≤x7_1)=true:=decide_eq_true c3;clear c3
     by_cases c4:x7_1 < (l0.length:Int)
     ·rw[if_pos c4] at H;have c4b0:decide (x7_1 < (l0.length:Int))=true:=decide_eq_true c4;clear c4;replace H:=Option.bind_eq_some_iff.mp H;obtain ⟨t181,A50,H⟩:=H;replace H:(if t181=true then (laws_plains.l0 k1 l0 l0 (l0.length:Int) (wrap64 (x7_1+1))) else (some false))=some r:=H;have A5:=bR A50;clear A50
      by_cases c6:t181=true
      ·subst c6;have H1:(laws_plains.l0 k1 l0 l0 (l0.length:Int) (wrap64 (x7_1+1)))=some r:=by rw[if_pos rfl] at H;exact H
       clear H;have H:=H1;clear H1;have H':=bR H;clear H;have p180:0≤(x7_1:Int):=bQ;have q180:x7_1 < (l0.length:Int):=bQ;obtain ⟨ad180,e180,hx180_0⟩:=Kd.at_string HR0.out x7_1 p180 q180;cases e180;replace hx180_0:=(HB.out.cell (World.block_lt_of_cell? w _ hx180_0)).trans hx180_0;replace p180:=eq_true p180;replace q180:=eq_true q180
       go_wp2_with (first | ((with_reducible refine gate_callee (f:=26) rfl ?_);refine goesL_ (some 12) rfl rfl Tryz.func26 bB rfl #[.string (rdOf ByteArray.empty l0 x7_1)] rfl bD ?_;(with_reducible refine (laws_plain.calls k1 (rdOf ByteArray.empty l0 x7_1) true _ A5.out).mono ?_);rintro e w7 ⟨rfl,hb⟩;refine ⟨_,rfl,?_⟩;have n0_:=bR (below_step bC hb);clear HB;have HB:=n0_;clear n0_;(try clear hb);(try clear hb2);(try clear hk);(try clear hi)))
       go_roundg k1
       case measure=>have:=HK1.out;omega
       case rel=>exact ⟨(wrap64 (x7_1+1)),bE,H',⟨by have:=HK1.out;omega⟩,⟨by repeat (first | (with_reducible first | exact HB.out | apply below_alloc | apply pw_below_drewN | apply below_drew1) | exact HB.out)⟩⟩
      ·replace c6:=Bool.eq_false_iff.mpr c6;subst c6;have H1:(some false)=some r:=by rw[if_neg (show ¬ (false=true) by decide)] at H;exact H
       clear H;have H:=H1;clear H1;obtain rfl:=Option.some.inj H;have p180:0≤(x7_1:Int):=bQ;have q180:x7_1 < (l0.length:Int):=bQ;obtain ⟨ad180,e180,hx180_0⟩:=Kd.at_string HR0.out x7_1 p180 q180;cases e180;replace hx180_0:=(HB.out.cell (World.block_lt_of_cell? w _ hx180_0)).trans hx180_0;replace p180:=eq_true p180;replace q180:=eq_true q180
       go_wp2_with (first | ((with_reducible refine gate_callee (f:=26) rfl ?_);refine goesL_ (some 12) rfl rfl Tryz.func26 bB rfl #[.string (rdOf ByteArray.empty l0 x7_1)] rfl bD ?_;(with_reducible refine (laws_plain.calls k1 (rdOf ByteArray.empty l0 x7_1) false _ A5.out).mono ?_);rintro e w8 ⟨rfl,hb⟩;refine ⟨_,rfl,?_⟩;have n0_:=bR (below_step bC hb);clear HB;have HB:=n0_;clear n0_;(try clear hb);(try clear hb2);(try clear hk);(try clear hi)))
       go_ret;exact ⟨by first | rfl | (simp[errW_none,errW_some] <;> rfl) | (simp[*,errW_none,errW_some] <;> rfl),by repeat (first | (with_reducible first | exact HB.out | apply below_alloc | apply pw_below_drewN | apply below_drew1) | exact HB.out)⟩
     ·rw[if_neg c4] at H;exact absurd H bI
    ·rw[if_neg c3] at H;exact absurd H bI
   ·rw[if_neg c2] at H;have c2b0:decide (x7_1 < (l0.length:Int))=false:=decide_eq_false c2;clear c2;replace H:=Option.bind_eq_some_iff.mp H;obtain ⟨t182,A90,H⟩:=H;replace H:(some t182)=some r:=H;have A9:=bR A90;clear A90;obtain rfl:=Option.some.inj H
    go_wp2_with (first | ((with_reducible refine gate_callee (f:=43) rfl ?_);refine goesL_ (some 16) rfl rfl Tryz.func43 bB rfl #[.slice A0 l0.length c0] rfl bD ?_;(with_reducible refine (laws_few.calls k1 _ _ l0 t182 _ ?side1 ?side2 A9.out).mono ?_);(case side1=>repeat (first | exact (Kd.C_below HR0.out HB.out) | (with_reducible refine Kd.C_alloc ?_ _) | (with_reducible refine Kd.C_drewN ?_ _) | (with_reducible refine Kd.C_drew ?_)));(case side2=>exact HC0.out);rintro e w' ⟨rfl,⟨nd,rfl⟩⟩;refine ⟨_,rfl,?_⟩))
    go_ret;exact ⟨by first | rfl | (simp[errW_none,errW_some] <;> rfl) | (simp[*,errW_none,errW_some] <;> rfl),by repeat (first | (with_reducible first | exact HB.out | apply below_alloc | apply pw_below_drewN | apply below_drew1) | exact HB.out)⟩
def laws_folder.l0:Nat→ByteArray→List ByteArray→Int→Int→Option (ByteArray)
 | 0,_,_,_,_=>none
 | k+1,x3,x6,x7,x8=>if x8 < x7 then (if 0≤x8 then (if x8 < (x6.length:Int) then (if 1+(rdOf ByteArray.empty x6 x8).size≤9223372036854775807 then (if x3.size+((⟨#[47]⟩:ByteArray)++(rdOf ByteArray.empty x6 x8)).size≤9223372036854775807 then (laws_folder.l0 k (x3++((⟨#[47]⟩:ByteArray)++(rdOf ByteArray.empty x6 x8))) x6 x7 (wrap64 (x8+1))) else (none)) else (none)) else (none)) else (none)) else (some x3)
def laws_folder.f (k:Nat) (l0:List ByteArray):Option (ByteArray):=laws_folder.l0 k (⟨#[]⟩:ByteArray) l0 (l0.length:Int) 0
theorem laws_folder.mono_l:∀ k,(∀ y0 y1 y2 y3,LeO (laws_folder.l0 k y0 y1 y2 y3) (laws_folder.l0 (k+1) y0 y1 y2 y3))
 | 0=>fun _ _ _ _ r h=>by simp[laws_folder.l0] at h
 | k+1=>by
  have ih0:=laws_folder.mono_l k
  ·intro y0 y1 y2 y3;unfold laws_folder.l0
   exact cL
theorem laws_folder.mono:∀ a0 k,LeO (laws_folder.f k a0) (laws_folder.f (k+1) a0):=by
 intro a0 k;have ih0:=laws_folder.mono_l k;unfold laws_folder.f
 exact cL
set_option maxHeartbeats 8000000 in
set_option maxRecDepth 100000 in
theorem laws_folder.calls (k:Nat) (A0:Option Addr) (c0:Nat) (l0:List ByteArray) (r:ByteArray) (w:World) (hr0:Kd.C Kd.string w A0 l0.length l0) (hc0:l0.length≤c0) (h:laws_folder.f k l0=some r) :
 Calls Tryz.prog 21 #[.slice A0 l0.length c0] w fun e w'=>e = .returned (.string r)∧Drawn0 w w':=by
 have HR0:=bR hr0;have HC0:=bR hc0;clear hr0 hc0;have H:(laws_folder.l0 k (⟨#[]⟩:ByteArray) l0 (l0.length:Int) 0)=some r:=h;clear h;have H':=bR H;clear H;go_enter Tryz.func21,Tryz.ntmps21;go_wp2
 go_loopg [3,8] k (fun kq v3 v8 w'=>∃ (x3_1:ByteArray) (x8_1:Int),v3 = .string x3_1∧v8 = .int .i64 x8_1∧Aside0 (laws_folder.l0 kq x3_1 l0 (l0.length:Int) x8_1=some r)∧Aside0 (kq≤k)∧Drawn0 w w')
 case atStart=>exact ⟨((⟨#[]⟩:ByteArray)),(0),bE,bE,H',⟨Nat.le_refl _⟩,dA⟩
 case round =>
  clear H';obtain ⟨x3_1,x8_1,rfl,rfl,HA,HK1,⟨m1,rfl⟩⟩:=hrel
  cases gk with
  | zero=>exact absurd HA.out (by simp[laws_folder.l0])
  | succ k1 =>
   have H:=HA.out;clear HA;simp only[laws_folder.l0] at H
   by_cases c2:x8_1 < (l0.length:Int)
   ·rw[if_pos c2] at H;have c2b0:decide (x8_1 < (l0.length:Int))=true:=decide_eq_true c2;clear c2
    by_cases c3:0≤x8_1
    ·rw[if_pos c3] at H;have c3b0:decide (0≤x8_1)=true:=decide_eq_true c3;clear c3
     by_cases c4:x8_1 < (l0.length:Int)
     ·rw[if_pos c4] at H;have c4b0:decide (x8_1 < (l0.length:Int))=true:=decide_eq_true c4;clear c4
      by_cases c5:1+(rdOf ByteArray.empty l0 x8_1).size≤9223372036854775807
      ·rw[if_pos c5] at H;have c5b0:=eq_true c5;have c5b1:decide (1+(rdOf ByteArray.empty l0 x8_1).size≤9223372036854775807)=true:=decide_eq_true c5
       try have c5b2:(9223372036854775807 < 1+(rdOf ByteArray.empty l0 x8_1).size)=False:=eq_false (Nat.not_lt.2 c5)
       by_cases c6:x3_1.size+((⟨#[47]⟩:ByteArray)++(rdOf ByteArray.empty l0 x8_1)).size≤9223372036854775807
       ·rw[if_pos c6] at H;have c6b0:=eq_true c6;have c6b1:decide (x3_1.size+((⟨#[47]⟩:ByteArray)++(rdOf ByteArray.empty l0 x8_1)).size≤9223372036854775807)=true:=decide_eq_true c6
        try have c6b2:(9223372036854775807 < x3_1.size+((⟨#[47]⟩:ByteArray)++(rdOf ByteArray.empty l0 x8_1)).size)=False:=eq_false (Nat.not_lt.2 c6)
        have H':=bR H;clear H;have p183:0≤(x8_1:Int):=bQ;have q183:x8_1 < (l0.length:Int):=bQ;obtain ⟨ad183,e183,hx183_0⟩:=Kd.at_string HR0.out x8_1 p183 q183;cases e183;replace p183:=eq_true p183;replace q183:=eq_true q183;go_wp2
        go_roundg k1
        case measure=>have:=HK1.out;omega
        case rel=>exact ⟨(x3_1++((⟨#[47]⟩:ByteArray)++(rdOf ByteArray.empty l0 x8_1))),(wrap64 (x8_1+1)),bE,bE,H',⟨by have:=HK1.out;omega⟩,dA⟩
       ·rw[if_neg c6] at H;exact absurd H bI
      ·rw[if_neg c5] at H;exact absurd H bI
     ·rw[if_neg c4] at H;exact absurd H bI
    ·rw[if_neg c3] at H;exact absurd H bI
   ·rw[if_neg c2] at H;have c2b0:decide (x8_1 < (l0.length:Int))=false:=decide_eq_false c2;clear c2;obtain rfl:=Option.some.inj H;go_wp2;go_ret;exact ⟨cZ,dA⟩
def laws_last.f (l0:List ByteArray):Option (ByteArray):=if (l0.length:Int)=0 then (some (⟨#[]⟩:ByteArray)) else (if 0≤(wrap64 ((l0.length:Int) - 1)) then (if (wrap64 ((l0.length:Int) - 1)) < (l0.length:Int) then (some (rdOf ByteArray.empty l0 (wrap64 ((l0.length:Int) - 1)))) else (none)) else (none))
set_option maxHeartbeats 8000000 in
set_option maxRecDepth 100000 in
theorem laws_last.calls (A0:Option Addr) (c0:Nat) (l0:List ByteArray) (r:ByteArray) (w:World) (hr0:Kd.C Kd.string w A0 l0.length l0) (hc0:l0.length≤c0) (h:laws_last.f l0=some r) :
 Calls Tryz.prog 24 #[.slice A0 l0.length c0] w fun e w'=>e = .returned (.string r)∧Drawn0 w w':=by
 have HR0:=bR hr0;have HC0:=bR hc0;clear hr0 hc0;have H:(if (l0.length:Int)=0 then (some (⟨#[]⟩:ByteArray)) else (if 0≤(wrap64 ((l0.length:Int) - 1)) then (if (wrap64 ((l0.length:Int) - 1)) < (l0.length:Int) then (some (rdOf ByteArray.empty l0 (wrap64 ((l0.length:Int) - 1)))) else (none)) else (none)))=some r:=h;clear h
 by_cases c2:(l0.length:Int)=0
 ·rw[if_pos c2] at H;have c2b0:((l0.length:Int)==0)=true:=beq_iff_eq.mpr c2;have c2b1:((l0.length:Int) != 0)=false:=bne_eq_false_iff_eq.mpr c2;clear c2;obtain rfl:=Option.some.inj H;go_enter Tryz.func24,Tryz.ntmps24;go_wp2;go_ret;exact ⟨cZ,dA⟩
 ·rw[if_neg c2] at H;have c2b0:((l0.length:Int)==0)=false:=beq_eq_false_iff_ne.mpr c2;have c2b1:((l0.length:Int) != 0)=true:=bne_iff_ne.mpr c2;have c2b2:¬ (l0=[]):=fun h_=>c2 (by rw[h_];rfl)
  obtain ⟨ji3,hji3⟩:∃ j_:Int,(wrap64 ((l0.length:Int) - 1))=j_:=⟨_,rfl⟩
  replace H:(if 0≤(ji3) then (if (ji3) < (l0.length:Int) then (some (rdOf ByteArray.empty l0 (ji3))) else (none)) else (none))=some r:=by first | (rw[hji3] at H;exact H) | (simp only[hji3] at H ⊢;exact H)
  have hji3w:(IntKind.i64.wrap ((l0.length:Int) - 1))=ji3:=(i64_w _).trans hji3
  by_cases c4:0≤(ji3)
  ·rw[if_pos c4] at H;have c4b0:decide (0≤(ji3))=true:=decide_eq_true c4;clear c4
   by_cases c5:(ji3) < (l0.length:Int)
   ·rw[if_pos c5] at H;have c5b0:decide ((ji3) < (l0.length:Int))=true:=decide_eq_true c5;clear c5;obtain rfl:=Option.some.inj H;have p184:0≤((ji3):Int):=bQ;have q184:(ji3) < (l0.length:Int):=bQ;obtain ⟨ad184,e184,hx184_0⟩:=Kd.at_string HR0.out (ji3) p184 q184;cases e184;replace p184:=eq_true p184;replace q184:=eq_true q184;go_enter Tryz.func24,Tryz.ntmps24;go_wp2;go_ret;exact ⟨by first | rfl | (simp;done) | (simp only[← hji3] <;> (first | rfl | simp)) | (simp[*];done),dA⟩
   ·rw[if_neg c5] at H;exact absurd H bI
  ·rw[if_neg c4] at H;exact absurd H bI
def laws_first.f (l0:List ByteArray):Option (ByteArray):=if (l0.length:Int)=0 then (some (⟨#[]⟩:ByteArray)) else (if 0 < (l0.length:Int) then (some (rdOf ByteArray.empty l0 0)) else (none))
set_option maxHeartbeats 8000000 in
set_option maxRecDepth 100000 in
theorem laws_first.calls (A0:Option Addr) (c0:Nat) (l0:List ByteArray) (r:ByteArray) (w:World) (hr0:Kd.C Kd.string w A0 l0.length l0) (hc0:l0.length≤c0) (h:laws_first.f l0=some r) :
 Calls Tryz.prog 23 #[.slice A0 l0.length c0] w fun e w'=>e = .returned (.string r)∧Drawn0 w w':=by
 have HR0:=bR hr0;have HC0:=bR hc0;clear hr0 hc0;have H:(if (l0.length:Int)=0 then (some (⟨#[]⟩:ByteArray)) else (if 0 < (l0.length:Int) then (some (rdOf ByteArray.empty l0 0)) else (none)))=some r:=h;clear h
 by_cases c2:(l0.length:Int)=0
 ·rw[if_pos c2] at H;have c2b0:((l0.length:Int)==0)=true:=beq_iff_eq.mpr c2;have c2b1:((l0.length:Int) != 0)=false:=bne_eq_false_iff_eq.mpr c2;clear c2;obtain rfl:=Option.some.inj H;go_enter Tryz.func23,Tryz.ntmps23;go_wp2;go_ret;exact ⟨cZ,dA⟩
 ·rw[if_neg c2] at H;have c2b0:((l0.length:Int)==0)=false:=beq_eq_false_iff_ne.mpr c2;have c2b1:((l0.length:Int) != 0)=true:=bne_iff_ne.mpr c2;have c2b2:¬ (l0=[]):=fun h_=>c2 (by rw[h_];rfl)
  by_cases c3:0 < (l0.length:Int)
  ·rw[if_pos c3] at H;have c3b0:decide (0 < (l0.length:Int))=true:=decide_eq_true c3;have c3b1:decide (0 < l0.length)=true:=decide_eq_true bA;clear c3;obtain rfl:=Option.some.inj H
   have p185:0≤(0:Int):=bA
   have q185:0 < (l0.length:Int):=bQ;obtain ⟨ad185,e185,hx185_0⟩:=Kd.at_string HR0.out 0 p185 q185;cases e185;have qi185:(0 < l0.length)=True:=eq_true bA
   (try rw[show ((0:Int)).toNat=0 from rfl] at hx185_0)
   (try rw[Addr.add_zero'] at hx185_0)
   replace p185:=eq_true p185;replace q185:=eq_true q185;go_enter Tryz.func23,Tryz.ntmps23;go_wp2;go_ret;exact ⟨cZ,dA⟩
  ·rw[if_neg c3] at H;exact absurd H bI
def laws_rooted.f (a0:ByteArray):Option (ByteArray):=if a0.toList=([]:List UInt8) then (some (⟨#[47]⟩:ByteArray)) else (some a0)
set_option maxHeartbeats 8000000 in
set_option maxRecDepth 100000 in
theorem laws_rooted.calls (a0:ByteArray) (r:ByteArray) (w:World) (h:laws_rooted.f a0=some r) :
 Calls Tryz.prog 25 #[.string a0] w fun e w'=>e = .returned (.string r)∧Drawn0 w w':=by
 have H:(if a0.toList=([]:List UInt8) then (some (⟨#[47]⟩:ByteArray)) else (some a0))=some r:=h;clear h
 by_cases c2:a0.toList=([]:List UInt8)
 ·rw[if_pos c2] at H;have c2b0:(a0.toList==([]:List UInt8))=true:=beq_iff_eq.mpr c2;have c2b1:(a0.toList != ([]:List UInt8))=false:=bne_eq_false_iff_eq.mpr c2;clear c2;obtain rfl:=Option.some.inj H;go_enter Tryz.func25,Tryz.ntmps25;go_wp2;go_ret;exact ⟨cZ,dA⟩
 ·rw[if_neg c2] at H;have c2b0:(a0.toList==([]:List UInt8))=false:=beq_eq_false_iff_ne.mpr c2;have c2b1:(a0.toList != ([]:List UInt8))=true:=bne_iff_ne.mpr c2;obtain rfl:=Option.some.inj H;go_enter Tryz.func25,Tryz.ntmps25;go_wp2;go_ret;exact ⟨cZ,dA⟩
end Go.Proofs.YtmgdbpjidkdegaaGreatDoor.PCore
