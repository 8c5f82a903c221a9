/- Texts that the law leans on: PCorex9, PCorex10, PCorex, Find, Count. Condition: as told at each. -/
import Derived.Deep.LoopGhost
import Derived.Test.YtbkobfoaphcamaaGreatDoorQa
import Derived.Test.YtbkobfoaphcamaaGreatDoorQ12
import Derived.Test.YtbkobfoaphcamaaGreatDoorQ13
set_option linter.unusedVariables false
set_option linter.unusedSimpArgs false
namespace Go.Proofs.YtbkobfoaphcamaaGreatDoor.PCore
open Go.RowKit Go.Proofs.YtbkobfoaphcamaaGreatDoorW.PrintWords Go.Proofs.YtbkobfoaphcamaaGreatDoorW.PrintLast Go.Proofs.YtbkobfoaphcamaaGreatDoorW.PrintMore
attribute [local go_sem] kX kZ lR lS kF kG kY lA   -- for this text's walks alone
def gL.j0:Nat→Bool→ByteArray→ByteArray→ByteArray→Int→List ByteArray→List ByteArray→List ByteArray→ByteArray→ByteArray→ByteArray→ByteArray→ByteArray→ByteArray→Bool→Int→Option (ByteArray)
 | 0,_,_,_,_,_,_,_,_,_,_,_,_,_,_,_,_=>none
 | k+1,x4,x202000,x202001,x202002,x202003,x202004,x202005,x202006,x202007,x202008,x202009,x202010,x202011,x202012,x202013,x202014=>if x4=true then (some (⟨#[]⟩:ByteArray)) else (if (x202004.length:Int)=0 then (some x202001) else ((iQ.f x202014).bind fun t202=>(if t202=true then ((kO.f k x202001).bind fun t203=>(if t203.toList=([47]:List UInt8) then (some (⟨#[]⟩:ByteArray)) else (some t203))) else (if x202014=2 then ((gG.f x202000 x202001 x202002 x202003 x202004 x202005 x202006 x202007 x202008 x202009 x202010 x202011 x202012 x202013 x202014).bind fun t204=>(some t204)) else (if (x202004.length:Int)=1 then (some x202001) else ((gG.f x202000 x202001 x202002 x202003 x202004 x202005 x202006 x202007 x202008 x202009 x202010 x202011 x202012 x202013 x202014).bind fun t205=>(if t205.size+1≤9223372036854775807 then (if (t205++(⟨#[46]⟩:ByteArray)).size+x202007.size≤9223372036854775807 then (some ((t205++(⟨#[46]⟩:ByteArray))++x202007)) else (none)) else (none))))))))
def gL.f (k:Nat) (a0_0:ByteArray) (a0_1:ByteArray) (a0_2:ByteArray) (a0_3:Int) (l0_4:List ByteArray) (l0_5:List ByteArray) (l0_6:List ByteArray) (a0_7:ByteArray) (a0_8:ByteArray) (a0_9:ByteArray) (a0_10:ByteArray) (a0_11:ByteArray) (a0_12:ByteArray) (a0_13:Bool) (a0_14:Int):Option (ByteArray):=if (l0_4.length:Int)=0 then (if a0_1.toList=([47]:List UInt8) then (if a0_14≥2 then (gL.j0 k (decide (a0_14≤5)) a0_0 a0_1 a0_2 a0_3 l0_4 l0_5 l0_6 a0_7 a0_8 a0_9 a0_10 a0_11 a0_12 a0_13 a0_14) else (gL.j0 k false a0_0 a0_1 a0_2 a0_3 l0_4 l0_5 l0_6 a0_7 a0_8 a0_9 a0_10 a0_11 a0_12 a0_13 a0_14)) else (gL.j0 k false a0_0 a0_1 a0_2 a0_3 l0_4 l0_5 l0_6 a0_7 a0_8 a0_9 a0_10 a0_11 a0_12 a0_13 a0_14)) else (gL.j0 k false a0_0 a0_1 a0_2 a0_3 l0_4 l0_5 l0_6 a0_7 a0_8 a0_9 a0_10 a0_11 a0_12 a0_13 a0_14)
theorem gL.mono_l:∀ k,(∀ y0 y1 y2 y3 y4 y5 y6 y7 y8 y9 y10 y11 y12 y13 y14 y15,LeO (gL.j0 k y0 y1 y2 y3 y4 y5 y6 y7 y8 y9 y10 y11 y12 y13 y14 y15) (gL.j0 (k+1) y0 y1 y2 y3 y4 y5 y6 y7 y8 y9 y10 y11 y12 y13 y14 y15))
 | 0=>fun _ _ _ _ _ _ _ _ _ _ _ _ _ _ _ _ r h=>by simp[gL.j0] at h
 | k+1=>by
  have ih0:=gL.mono_l k
  intro y0 y1 y2 y3 y4 y5 y6 y7 y8 y9 y10 y11 y12 y13 y14 y15;unfold gL.j0
  exact dN
theorem gL.mono:∀ a0 a1 a2 a3 a4 a5 a6 a7 a8 a9 a10 a11 a12 a13 a14 k,LeO (gL.f k a0 a1 a2 a3 a4 a5 a6 a7 a8 a9 a10 a11 a12 a13 a14) (gL.f (k+1) a0 a1 a2 a3 a4 a5 a6 a7 a8 a9 a10 a11 a12 a13 a14):=by
 intro a0 a1 a2 a3 a4 a5 a6 a7 a8 a9 a10 a11 a12 a13 a14 k;have ih0:=gL.mono_l k;unfold gL.f
 exact dN
set_option maxHeartbeats 8000000 in
set_option maxRecDepth 100000 in
theorem gL.calls (k:Nat) (a0_0:ByteArray) (a0_1:ByteArray) (a0_2:ByteArray) (a0_3:Int) (A0_4:Option Addr) (c0_4:Nat) (l0_4:List ByteArray) (A0_5:Option Addr) (c0_5:Nat) (l0_5:List ByteArray) (A0_6:Option Addr) (c0_6:Nat) (l0_6:List ByteArray) (a0_7:ByteArray) (a0_8:ByteArray) (a0_9:ByteArray) (a0_10:ByteArray) (a0_11:ByteArray) (a0_12:ByteArray) (a0_13:Bool) (a0_14:Int) (r:ByteArray) (w:World) (hr0_4:Kd.C Kd.string w A0_4 l0_4.length l0_4) (hc0_4:l0_4.length≤c0_4) (hr0_5:Kd.C Kd.string w A0_5 l0_5.length l0_5) (hc0_5:l0_5.length≤c0_5) (hr0_6:Kd.C Kd.string w A0_6 l0_6.length l0_6) (hc0_6:l0_6.length≤c0_6) (h:gL.f k a0_0 a0_1 a0_2 a0_3 l0_4 l0_5 l0_6 a0_7 a0_8 a0_9 a0_10 a0_11 a0_12 a0_13 a0_14=some r) :
 Calls Tryz.prog 89 #[.agg #[.string a0_0,.string a0_1,.string a0_2,.int .i64 a0_3,.slice A0_4 l0_4.length c0_4,.slice A0_5 l0_5.length c0_5,.slice A0_6 l0_6.length c0_6,.string a0_7,.string a0_8,.string a0_9,.string a0_10,.string a0_11,.string a0_12,.bool a0_13,.int .i64 a0_14]] w fun e w'=>e = .returned (.string r)∧Below w.heap.size w w':=by
 have hu50:=Tryz.underlying50;have HR0_4:=cD hr0_4;have HC0_4:=cD hc0_4;clear hr0_4 hc0_4;have HR0_5:=cD hr0_5;have HC0_5:=cD hc0_5;clear hr0_5 hc0_5;have HR0_6:=cD hr0_6;have HC0_6:=cD hc0_6;clear hr0_6 hc0_6;have HB:=cD (Below.refl w.heap.size w);have H:(if (l0_4.length:Int)=0 then (if a0_1.toList=([47]:List UInt8) then (if a0_14≥2 then (gL.j0 k (decide (a0_14≤5)) a0_0 a0_1 a0_2 a0_3 l0_4 l0_5 l0_6 a0_7 a0_8 a0_9 a0_10 a0_11 a0_12 a0_13 a0_14) else (gL.j0 k false a0_0 a0_1 a0_2 a0_3 l0_4 l0_5 l0_6 a0_7 a0_8 a0_9 a0_10 a0_11 a0_12 a0_13 a0_14)) else (gL.j0 k false a0_0 a0_1 a0_2 a0_3 l0_4 l0_5 l0_6 a0_7 a0_8 a0_9 a0_10 a0_11 a0_12 a0_13 a0_14)) else (gL.j0 k false a0_0 a0_1 a0_2 a0_3 l0_4 l0_5 l0_6 a0_7 a0_8 a0_9 a0_10 a0_11 a0_12 a0_13 a0_14))=some r:=h;clear h
 have HC2:=cD H;clear H;go_enter Tryz.func89,Tryz.ntmps89
 go_upto_region 1 with (first | ((with_reducible refine gZ (N:=1) rfl ?_);refine gS ?hg (N:=1) ?hd (cs:=#[.string a0_0,.string a0_1,.string a0_2,.int .i64 a0_3,.slice A0_4 l0_4.length c0_4,.slice A0_5 l0_5.length c0_5,.slice A0_6 l0_6.length c0_6,.string a0_7,.string a0_8,.string a0_9,.string a0_10,.string a0_11,.string a0_12,.bool a0_13,.int .i64 a0_14]) (t:=50) ?hr ?_;(case hd=>rfl);(case hg=>rfl);(case hr=>exact cI);intro gb201 hg w3 hbox hb;have BK201:=cD (hbox);have GW201:=cD ((by rw[hg];exact (eT bC):w.heap.size≤gb201));have GE201:=cD ((by rw[hg];exact (eT bC):w.heap.size≤gb201));replace HB:=cD (eH bC hb);clear hb hbox hg))
 (try simp only[Act.put,List.setIfInBounds_toArray,List.set_cons_zero,List.set_cons_succ])
 go_cut [4] (fun v4 wc=>∃ (kq:Nat) (x4_1:Bool),v4 = .bool x4_1∧Aside0 (gL.j0 kq x4_1 a0_0 a0_1 a0_2 a0_3 l0_4 l0_5 l0_6 a0_7 a0_8 a0_9 a0_10 a0_11 a0_12 a0_13 a0_14=some r)∧Aside0 (kq≤k)∧Aside0 (wc.heap[gb201]? = some (.cells #[.string a0_0,.string a0_1,.string a0_2,.int .i64 a0_3,(.slice A0_4 l0_4.length c0_4),(.slice A0_5 l0_5.length c0_5),(.slice A0_6 l0_6.length c0_6),.string a0_7,.string a0_8,.string a0_9,.string a0_10,.string a0_11,.string a0_12,.bool a0_13,.int .i64 a0_14] 50 (0,0)))∧Aside0 (Below w.heap.size w wc))
 case first =>
  have H:=HC2.out;clear HC2
  by_cases c4:(l0_4.length:Int)=0
  ·rw[if_pos c4] at H;have c4b0:=beq_iff_eq.mpr c4;have c4b1:=bne_eq_false_iff_eq.mpr c4;clear c4
   (first | rw[c4b0] | (simp only[fE,fI];rw[c4b0]) | skip)
   by_cases c5:a0_1.toList=([47]:List UInt8)
   ·rw[if_pos c5] at H;have c5b0:=beq_iff_eq.mpr c5;have c5b1:=bne_eq_false_iff_eq.mpr c5;clear c5
    by_cases c6:a0_14≥2
    ·rw[if_pos c6] at H;have c6b0:=decide_eq_true c6;clear c6;have H':=cD H;clear H;have hcz7_1:w3.cell? ⟨gb201,1,none⟩=some (.string a0_1):=(eG BK201.out 1).trans rfl;have hcz7_4:w3.cell? ⟨gb201,4,none⟩=some (.slice A0_4 l0_4.length c0_4):=(eG BK201.out 4).trans rfl
     have hcz7_7:w3.cell? ⟨gb201,7,none⟩=some (.string a0_7):=(eG BK201.out 7).trans rfl;have hcz7_14:w3.cell? ⟨gb201,14,none⟩=some (.int .i64 a0_14):=(eG BK201.out 14).trans rfl
     go_wp2
     go_meet
     case rel=>exact ⟨_,(decide (a0_14≤5)),bE,H',⟨dP⟩,⟨aY⟩,⟨aE⟩⟩
    rw[if_neg c6] at H;have c6b0:=decide_eq_false c6;clear c6;have H':=cD H;clear H;have hcz8_1:w3.cell? ⟨gb201,1,none⟩=some (.string a0_1):=(eG BK201.out 1).trans rfl;have hcz8_4:w3.cell? ⟨gb201,4,none⟩=some (.slice A0_4 l0_4.length c0_4):=(eG BK201.out 4).trans rfl
    have hcz8_7:w3.cell? ⟨gb201,7,none⟩=some (.string a0_7):=(eG BK201.out 7).trans rfl;have hcz8_14:w3.cell? ⟨gb201,14,none⟩=some (.int .i64 a0_14):=(eG BK201.out 14).trans rfl
    go_wp2
    go_meet
    case rel=>exact ⟨_,(false),bE,H',⟨dP⟩,⟨aY⟩,⟨aE⟩⟩
   rw[if_neg c5] at H;have c5b0:=beq_eq_false_iff_ne.mpr c5;have c5b1:=bne_iff_ne.mpr c5;have H':=cD H;clear H;have hcz9_1:w3.cell? ⟨gb201,1,none⟩=some (.string a0_1):=(eG BK201.out 1).trans rfl;have hcz9_4:w3.cell? ⟨gb201,4,none⟩=some (.slice A0_4 l0_4.length c0_4):=(eG BK201.out 4).trans rfl
   have hcz9_7:w3.cell? ⟨gb201,7,none⟩=some (.string a0_7):=(eG BK201.out 7).trans rfl
   have hcz9_14:w3.cell? ⟨gb201,14,none⟩=some (.int .i64 a0_14):=(eG BK201.out 14).trans rfl;go_wp2
   go_meet
   case rel=>exact ⟨_,(false),bE,H',⟨dP⟩,⟨aY⟩,⟨aE⟩⟩
  rw[if_neg c4] at H;have c4b0:=beq_eq_false_iff_ne.mpr c4;have c4b1:=bne_iff_ne.mpr c4;have c4b2:¬ (l0_4=[]):=fun h_=>c4 (by rw[h_];rfl)
  (first | rw[c4b0] | (simp only[fE,fI];rw[c4b0]) | skip)
  have H':=cD H;clear H;have hcz10_1:w3.cell? ⟨gb201,1,none⟩=some (.string a0_1):=(eG BK201.out 1).trans rfl;have hcz10_4:w3.cell? ⟨gb201,4,none⟩=some (.slice A0_4 l0_4.length c0_4):=(eG BK201.out 4).trans rfl
  have hcz10_7:w3.cell? ⟨gb201,7,none⟩=some (.string a0_7):=(eG BK201.out 7).trans rfl;have hcz10_14:w3.cell? ⟨gb201,14,none⟩=some (.int .i64 a0_14):=(eG BK201.out 14).trans rfl
  go_wp2
  go_meet
  case rel=>exact ⟨_,(false),bE,H',⟨dP⟩,⟨aY⟩,⟨aE⟩⟩
 clear HC2
 obtain ⟨kq,x4_1,rfl,HA,HJ1,BK201,HB⟩:=hcut
 cases kq with
 | zero=>exact absurd HA.out (by simp[gL.j0])
 | succ kj1 =>
  have H:=HA.out;clear HA;simp only[gL.j0] at H
  by_cases c11:x4_1=true
  ·subst c11;rw[if_pos rfl] at H;obtain rfl:=Option.some.inj H;go_wp2;go_ret;exact ⟨aC,aE⟩
  replace c11:=Bool.eq_false_iff.mpr c11;subst c11
  rw[if_neg (show ¬ (false=true) by decide)] at H
  by_cases c12:(l0_4.length:Int)=0
  ·rw[if_pos c12] at H;have c12b0:=beq_iff_eq.mpr c12;have c12b1:=bne_eq_false_iff_eq.mpr c12;clear c12;obtain rfl:=Option.some.inj H;have hcz13_1:wc.cell? ⟨gb201,1,none⟩=some (.string a0_1):=(eG BK201.out 1).trans rfl;have hcz13_4:wc.cell? ⟨gb201,4,none⟩=some (.slice A0_4 l0_4.length c0_4):=(eG BK201.out 4).trans rfl
   have hcz13_7:wc.cell? ⟨gb201,7,none⟩=some (.string a0_7):=(eG BK201.out 7).trans rfl
   have hcz13_14:wc.cell? ⟨gb201,14,none⟩=some (.int .i64 a0_14):=(eG BK201.out 14).trans rfl;go_wp2;go_ret
   exact ⟨aC,aE⟩
  rw[if_neg c12] at H;have c12b0:=beq_eq_false_iff_ne.mpr c12;have c12b1:=bne_iff_ne.mpr c12;have c12b2:¬ (l0_4=[]):=fun h_=>c12 (by rw[h_];rfl);replace H:=Option.bind_eq_some_iff.mp H;obtain ⟨t202,A140,H⟩:=H
  replace H:(if t202=true then ((kO.f kj1 a0_1).bind fun t203=>(if t203.toList=([47]:List UInt8) then (some (⟨#[]⟩:ByteArray)) else (some t203))) else (if a0_14=2 then ((gG.f a0_0 a0_1 a0_2 a0_3 l0_4 l0_5 l0_6 a0_7 a0_8 a0_9 a0_10 a0_11 a0_12 a0_13 a0_14).bind fun t204=>(some t204)) else (if (l0_4.length:Int)=1 then (some a0_1) else ((gG.f a0_0 a0_1 a0_2 a0_3 l0_4 l0_5 l0_6 a0_7 a0_8 a0_9 a0_10 a0_11 a0_12 a0_13 a0_14).bind fun t205=>(if t205.size+1≤9223372036854775807 then (if (t205++(⟨#[46]⟩:ByteArray)).size+a0_7.size≤9223372036854775807 then (some ((t205++(⟨#[46]⟩:ByteArray))++a0_7)) else (none)) else (none))))))=some r:=H;have A14:=cD A140;clear A140
  by_cases c15:t202=true
  ·subst c15;rw[if_pos rfl] at H;replace H:=Option.bind_eq_some_iff.mp H;obtain ⟨t203,A160,H⟩:=H;replace H:(if t203.toList=([47]:List UInt8) then (some (⟨#[]⟩:ByteArray)) else (some t203))=some r:=H;have A16:=cD A160;clear A160
   by_cases c17:t203.toList=([47]:List UInt8)
   ·rw[if_pos c17] at H;have c17b0:=beq_iff_eq.mpr c17;have c17b1:=bne_eq_false_iff_eq.mpr c17;clear c17;obtain rfl:=Option.some.inj H;have hcz18_0:wc.cell? ⟨gb201,0,none⟩=some (.string a0_0):=(eG BK201.out 0).trans rfl;have hcz18_1:wc.cell? ⟨gb201,1,none⟩=some (.string a0_1):=(eG BK201.out 1).trans rfl;have hcz18_2:wc.cell? ⟨gb201,2,none⟩=some (.string a0_2):=(eG BK201.out 2).trans rfl;have hcz18_3:wc.cell? ⟨gb201,3,none⟩=some (.int .i64 a0_3):=(eG BK201.out 3).trans rfl;have hcz18_4:wc.cell? ⟨gb201,4,none⟩=some (.slice A0_4 l0_4.length c0_4):=(eG BK201.out 4).trans rfl;have hcz18_5:wc.cell? ⟨gb201,5,none⟩=some (.slice A0_5 l0_5.length c0_5):=(eG BK201.out 5).trans rfl
    have hcz18_6:wc.cell? ⟨gb201,6,none⟩=some (.slice A0_6 l0_6.length c0_6):=(eG BK201.out 6).trans rfl;have hcz18_7:wc.cell? ⟨gb201,7,none⟩=some (.string a0_7):=(eG BK201.out 7).trans rfl;have hcz18_8:wc.cell? ⟨gb201,8,none⟩=some (.string a0_8):=(eG BK201.out 8).trans rfl;have hcz18_9:wc.cell? ⟨gb201,9,none⟩=some (.string a0_9):=(eG BK201.out 9).trans rfl;have hcz18_10:wc.cell? ⟨gb201,10,none⟩=some (.string a0_10):=(eG BK201.out 10).trans rfl;have hcz18_11:wc.cell? ⟨gb201,11,none⟩=some (.string a0_11):=(eG BK201.out 11).trans rfl;have hcz18_12:wc.cell? ⟨gb201,12,none⟩=some (.string a0_12):=(eG BK201.out 12).trans rfl;have hcz18_13:wc.cell? ⟨gb201,13,none⟩=some (.bool a0_13):=(eG BK201.out 13).trans rfl
    have hcz18_14:wc.cell? ⟨gb201,14,none⟩=some (.int .i64 a0_14):=(eG BK201.out 14).trans rfl
    go_wp2_with (first | ((with_reducible refine eZ (f:=86) rfl ?_);refine gE (some 34) rfl rfl Tryz.func86 bB rfl #[.int .i64 a0_14] rfl bD ?_;(with_reducible refine (iQ.calls a0_14 true _ A14.out).mono ?_);rintro e w' ⟨rfl,⟨nd,rfl⟩⟩;refine ⟨_,rfl,?_⟩) | ((with_reducible refine eZ (f:=82) rfl ?_);refine gE (some 37) rfl rfl Tryz.func82 bB rfl #[.string a0_1] rfl bD ?_;(with_reducible refine (kO.calls kj1 a0_1 t203 _ A16.out).mono ?_);rintro e w' ⟨rfl,⟨nd,rfl⟩⟩;refine ⟨_,rfl,?_⟩))
    go_ret;exact ⟨aC,aE⟩
   rw[if_neg c17] at H;have c17b0:=beq_eq_false_iff_ne.mpr c17;have c17b1:=bne_iff_ne.mpr c17;obtain rfl:=Option.some.inj H;have hcz19_0:wc.cell? ⟨gb201,0,none⟩=some (.string a0_0):=(eG BK201.out 0).trans rfl;have hcz19_1:wc.cell? ⟨gb201,1,none⟩=some (.string a0_1):=(eG BK201.out 1).trans rfl;have hcz19_2:wc.cell? ⟨gb201,2,none⟩=some (.string a0_2):=(eG BK201.out 2).trans rfl;have hcz19_3:wc.cell? ⟨gb201,3,none⟩=some (.int .i64 a0_3):=(eG BK201.out 3).trans rfl;have hcz19_4:wc.cell? ⟨gb201,4,none⟩=some (.slice A0_4 l0_4.length c0_4):=(eG BK201.out 4).trans rfl;have hcz19_5:wc.cell? ⟨gb201,5,none⟩=some (.slice A0_5 l0_5.length c0_5):=(eG BK201.out 5).trans rfl
   have hcz19_6:wc.cell? ⟨gb201,6,none⟩=some (.slice A0_6 l0_6.length c0_6):=(eG BK201.out 6).trans rfl;have hcz19_7:wc.cell? ⟨gb201,7,none⟩=some (.string a0_7):=(eG BK201.out 7).trans rfl;have hcz19_8:wc.cell? ⟨gb201,8,none⟩=some (.string a0_8):=(eG BK201.out 8).trans rfl;have hcz19_9:wc.cell? ⟨gb201,9,none⟩=some (.string a0_9):=(eG BK201.out 9).trans rfl;have hcz19_10:wc.cell? ⟨gb201,10,none⟩=some (.string a0_10):=(eG BK201.out 10).trans rfl;have hcz19_11:wc.cell? ⟨gb201,11,none⟩=some (.string a0_11):=(eG BK201.out 11).trans rfl;have hcz19_12:wc.cell? ⟨gb201,12,none⟩=some (.string a0_12):=(eG BK201.out 12).trans rfl;have hcz19_13:wc.cell? ⟨gb201,13,none⟩=some (.bool a0_13):=(eG BK201.out 13).trans rfl
   have hcz19_14:wc.cell? ⟨gb201,14,none⟩=some (.int .i64 a0_14):=(eG BK201.out 14).trans rfl
   go_wp2_with (first | ((with_reducible refine eZ (f:=86) rfl ?_);refine gE (some 34) rfl rfl Tryz.func86 bB rfl #[.int .i64 a0_14] rfl bD ?_;(with_reducible refine (iQ.calls a0_14 true _ A14.out).mono ?_);rintro e w' ⟨rfl,⟨nd,rfl⟩⟩;refine ⟨_,rfl,?_⟩) | ((with_reducible refine eZ (f:=82) rfl ?_);refine gE (some 37) rfl rfl Tryz.func82 bB rfl #[.string a0_1] rfl bD ?_;(with_reducible refine (kO.calls kj1 a0_1 t203 _ A16.out).mono ?_);rintro e w' ⟨rfl,⟨nd,rfl⟩⟩;refine ⟨_,rfl,?_⟩))
   go_ret;exact ⟨aC,aE⟩
  replace c15:=Bool.eq_false_iff.mpr c15;subst c15;rw[if_neg (show ¬ (false=true) by decide)] at H
  by_cases c20:a0_14=2
  ·rw[if_pos c20] at H;have c20b0:=beq_iff_eq.mpr c20;have c20b1:=bne_eq_false_iff_eq.mpr c20;clear c20;replace H:=Option.bind_eq_some_iff.mp H;obtain ⟨t204,A210,H⟩:=H;replace H:(some t204)=some r:=H;have A21:=cD A210;clear A210;obtain rfl:=Option.some.inj H;have hcz22_0:wc.cell? ⟨gb201,0,none⟩=some (.string a0_0):=(eG BK201.out 0).trans rfl;have hcz22_1:wc.cell? ⟨gb201,1,none⟩=some (.string a0_1):=(eG BK201.out 1).trans rfl;have hcz22_2:wc.cell? ⟨gb201,2,none⟩=some (.string a0_2):=(eG BK201.out 2).trans rfl;have hcz22_3:wc.cell? ⟨gb201,3,none⟩=some (.int .i64 a0_3):=(eG BK201.out 3).trans rfl;have hcz22_4:wc.cell? ⟨gb201,4,none⟩=some (.slice A0_4 l0_4.length c0_4):=(eG BK201.out 4).trans rfl
   have hcz22_5:wc.cell? ⟨gb201,5,none⟩=some (.slice A0_5 l0_5.length c0_5):=(eG BK201.out 5).trans rfl;have hcz22_6:wc.cell? ⟨gb201,6,none⟩=some (.slice A0_6 l0_6.length c0_6):=(eG BK201.out 6).trans rfl;have hcz22_7:wc.cell? ⟨gb201,7,none⟩=some (.string a0_7):=(eG BK201.out 7).trans rfl;have hcz22_8:wc.cell? ⟨gb201,8,none⟩=some (.string a0_8):=(eG BK201.out 8).trans rfl;have hcz22_9:wc.cell? ⟨gb201,9,none⟩=some (.string a0_9):=(eG BK201.out 9).trans rfl;have hcz22_10:wc.cell? ⟨gb201,10,none⟩=some (.string a0_10):=(eG BK201.out 10).trans rfl;have hcz22_11:wc.cell? ⟨gb201,11,none⟩=some (.string a0_11):=(eG BK201.out 11).trans rfl;have hcz22_12:wc.cell? ⟨gb201,12,none⟩=some (.string a0_12):=(eG BK201.out 12).trans rfl
   have hcz22_13:wc.cell? ⟨gb201,13,none⟩=some (.bool a0_13):=(eG BK201.out 13).trans rfl;have hcz22_14:wc.cell? ⟨gb201,14,none⟩=some (.int .i64 a0_14):=(eG BK201.out 14).trans rfl
   go_wp2_with (first | ((with_reducible refine eZ (f:=86) rfl ?_);refine gE (some 34) rfl rfl Tryz.func86 bB rfl #[.int .i64 a0_14] rfl bD ?_;(with_reducible refine (iQ.calls a0_14 false _ A14.out).mono ?_);rintro e w' ⟨rfl,⟨nd,rfl⟩⟩;refine ⟨_,rfl,?_⟩) | ((with_reducible refine eZ (f:=88) rfl ?_);refine gE (some 46) rfl rfl Tryz.func88 bB rfl #[.agg #[.string a0_0,.string a0_1,.string a0_2,.int .i64 a0_3,.slice A0_4 l0_4.length c0_4,.slice A0_5 l0_5.length c0_5,.slice A0_6 l0_6.length c0_6,.string a0_7,.string a0_8,.string a0_9,.string a0_10,.string a0_11,.string a0_12,.bool a0_13,.int .i64 a0_14]] rfl bD ?_;(with_reducible refine (gG.calls a0_0 a0_1 a0_2 a0_3 _ _ l0_4 _ _ l0_5 _ _ l0_6 a0_7 a0_8 a0_9 a0_10 a0_11 a0_12 a0_13 a0_14 t204 _ ?side1 ?side2 ?side3 ?side4 ?side5 ?side6 A21.out).mono ?_);(case side1=>repeat (first | exact (Kd.C_below HR0_4.out (by repeat (first | (with_reducible first | exact HB.out | apply fL | apply fB | apply fQ | refine gD ?_ GE201.out) | exact HB.out))) | (with_reducible refine Kd.C_alloc ?_ _) | (with_reducible refine Kd.C_drewN ?_ _) | (with_reducible refine Kd.C_drew ?_)));(case side2=>exact HC0_4.out);(case side3=>repeat (first | exact (Kd.C_below HR0_5.out (by repeat (first | (with_reducible first | exact HB.out | apply fL | apply fB | apply fQ | refine gD ?_ GE201.out) | exact HB.out))) | (with_reducible refine Kd.C_alloc ?_ _) | (with_reducible refine Kd.C_drewN ?_ _) | (with_reducible refine Kd.C_drew ?_)));(case side4=>exact HC0_5.out);(case side5=>repeat (first | exact (Kd.C_below HR0_6.out (by repeat (first | (with_reducible first | exact HB.out | apply fL | apply fB | apply fQ | refine gD ?_ GE201.out) | exact HB.out))) | (with_reducible refine Kd.C_alloc ?_ _) | (with_reducible refine Kd.C_drewN ?_ _) | (with_reducible refine Kd.C_drew ?_)));(case side6=>exact HC0_6.out);rintro e w23 ⟨rfl,hb⟩;refine ⟨_,rfl,?_⟩;replace BK201:=cD (iF (g:=gb201) (o:=.cells #[.string a0_0,.string a0_1,.string a0_2,.int .i64 a0_3,.slice A0_4 l0_4.length c0_4,.slice A0_5 l0_5.length c0_5,.slice A0_6 l0_6.length c0_6,.string a0_7,.string a0_8,.string a0_9,.string a0_10,.string a0_11,.string a0_12,.bool a0_13,.int .i64 a0_14] 50 (0,0)) (by (with_reducible repeat (first | refine gI ?_ _ | refine gM ?_ | refine gH ?_ _));exact BK201.out) hb);replace HB:=cD (eH (by repeat (first | (with_reducible first | exact HB.out | apply fL | apply fB | apply fQ | refine gD ?_ GE201.out) | exact HB.out)) hb);(try clear hb);(try clear hb2);(try clear hk);(try clear hi)))
   go_ret;exact ⟨aC,aE⟩
  rw[if_neg c20] at H;have c20b0:=beq_eq_false_iff_ne.mpr c20;have c20b1:=bne_iff_ne.mpr c20
  by_cases c24:(l0_4.length:Int)=1
  ·rw[if_pos c24] at H;have c24b0:=beq_iff_eq.mpr c24;have c24b1:=bne_eq_false_iff_eq.mpr c24;clear c24;obtain rfl:=Option.some.inj H;have hcz25_0:wc.cell? ⟨gb201,0,none⟩=some (.string a0_0):=(eG BK201.out 0).trans rfl;have hcz25_1:wc.cell? ⟨gb201,1,none⟩=some (.string a0_1):=(eG BK201.out 1).trans rfl;have hcz25_2:wc.cell? ⟨gb201,2,none⟩=some (.string a0_2):=(eG BK201.out 2).trans rfl;have hcz25_3:wc.cell? ⟨gb201,3,none⟩=some (.int .i64 a0_3):=(eG BK201.out 3).trans rfl;have hcz25_4:wc.cell? ⟨gb201,4,none⟩=some (.slice A0_4 l0_4.length c0_4):=(eG BK201.out 4).trans rfl;have hcz25_5:wc.cell? ⟨gb201,5,none⟩=some (.slice A0_5 l0_5.length c0_5):=(eG BK201.out 5).trans rfl
   have hcz25_6:wc.cell? ⟨gb201,6,none⟩=some (.slice A0_6 l0_6.length c0_6):=(eG BK201.out 6).trans rfl;have hcz25_7:wc.cell? ⟨gb201,7,none⟩=some (.string a0_7):=(eG BK201.out 7).trans rfl;have hcz25_8:wc.cell? ⟨gb201,8,none⟩=some (.string a0_8):=(eG BK201.out 8).trans rfl;have hcz25_9:wc.cell? ⟨gb201,9,none⟩=some (.string a0_9):=(eG BK201.out 9).trans rfl;have hcz25_10:wc.cell? ⟨gb201,10,none⟩=some (.string a0_10):=(eG BK201.out 10).trans rfl;have hcz25_11:wc.cell? ⟨gb201,11,none⟩=some (.string a0_11):=(eG BK201.out 11).trans rfl;have hcz25_12:wc.cell? ⟨gb201,12,none⟩=some (.string a0_12):=(eG BK201.out 12).trans rfl;have hcz25_13:wc.cell? ⟨gb201,13,none⟩=some (.bool a0_13):=(eG BK201.out 13).trans rfl
   have hcz25_14:wc.cell? ⟨gb201,14,none⟩=some (.int .i64 a0_14):=(eG BK201.out 14).trans rfl
   go_wp2_with (first | ((with_reducible refine eZ (f:=86) rfl ?_);refine gE (some 34) rfl rfl Tryz.func86 bB rfl #[.int .i64 a0_14] rfl bD ?_;(with_reducible refine (iQ.calls a0_14 false _ A14.out).mono ?_);rintro e w' ⟨rfl,⟨nd,rfl⟩⟩;refine ⟨_,rfl,?_⟩))
   go_ret;exact ⟨aC,aE⟩
  rw[if_neg c24] at H;have c24b0:=beq_eq_false_iff_ne.mpr c24;have c24b1:=bne_iff_ne.mpr c24;replace H:=Option.bind_eq_some_iff.mp H;obtain ⟨t205,A260,H⟩:=H;replace H:(if t205.size+1≤9223372036854775807 then (if (t205++(⟨#[46]⟩:ByteArray)).size+a0_7.size≤9223372036854775807 then (some ((t205++(⟨#[46]⟩:ByteArray))++a0_7)) else (none)) else (none))=some r:=H;have A26:=cD A260;clear A260
  by_cases c27:t205.size+1≤9223372036854775807
  ·rw[if_pos c27] at H;have c27b0:=eq_true c27;have c27b1:=decide_eq_true c27
   try have c27b2:(9223372036854775807 < t205.size+1)=False:=eq_false (Nat.not_lt.2 c27)
   by_cases c28:(t205++(⟨#[46]⟩:ByteArray)).size+a0_7.size≤9223372036854775807
   ·rw[if_pos c28] at H;have c28b0:=eq_true c28;have c28b1:=decide_eq_true c28
    try have c28b2:(9223372036854775807 < (t205++(⟨#[46]⟩:ByteArray)).size+a0_7.size)=False:=eq_false (Nat.not_lt.2 c28)
    try have c28b3:(9223372036854775807 < t205.size+1+a0_7.size)=False:=eq_false (by have l_:=of_decide_eq_true c28b1;have d_:(⟨#[46]⟩:ByteArray).size=1:=rfl;simp only[ByteArray.size_append] at l_;omega)
    obtain rfl:=Option.some.inj H;have hcz29_0:wc.cell? ⟨gb201,0,none⟩=some (.string a0_0):=(eG BK201.out 0).trans rfl;have hcz29_1:wc.cell? ⟨gb201,1,none⟩=some (.string a0_1):=(eG BK201.out 1).trans rfl;have hcz29_2:wc.cell? ⟨gb201,2,none⟩=some (.string a0_2):=(eG BK201.out 2).trans rfl;have hcz29_3:wc.cell? ⟨gb201,3,none⟩=some (.int .i64 a0_3):=(eG BK201.out 3).trans rfl;have hcz29_4:wc.cell? ⟨gb201,4,none⟩=some (.slice A0_4 l0_4.length c0_4):=(eG BK201.out 4).trans rfl;have hcz29_5:wc.cell? ⟨gb201,5,none⟩=some (.slice A0_5 l0_5.length c0_5):=(eG BK201.out 5).trans rfl;have hcz29_6:wc.cell? ⟨gb201,6,none⟩=some (.slice A0_6 l0_6.length c0_6):=(eG BK201.out 6).trans rfl
    have hcz29_7:wc.cell? ⟨gb201,7,none⟩=some (.string a0_7):=(eG BK201.out 7).trans rfl;have hcz29_8:wc.cell? ⟨gb201,8,none⟩=some (.string a0_8):=(eG BK201.out 8).trans rfl;have hcz29_9:wc.cell? ⟨gb201,9,none⟩=some (.string a0_9):=(eG BK201.out 9).trans rfl;have hcz29_10:wc.cell? ⟨gb201,10,none⟩=some (.string a0_10):=(eG BK201.out 10).trans rfl;have hcz29_11:wc.cell? ⟨gb201,11,none⟩=some (.string a0_11):=(eG BK201.out 11).trans rfl;have hcz29_12:wc.cell? ⟨gb201,12,none⟩=some (.string a0_12):=(eG BK201.out 12).trans rfl;have hcz29_13:wc.cell? ⟨gb201,13,none⟩=some (.bool a0_13):=(eG BK201.out 13).trans rfl;have hcz29_14:wc.cell? ⟨gb201,14,none⟩=some (.int .i64 a0_14):=(eG BK201.out 14).trans rfl
    try go_wp2_with (first | ((with_reducible refine eZ (f:=86) rfl ?_);refine gE (some 34) rfl rfl Tryz.func86 bB rfl #[.int .i64 a0_14] rfl bD ?_;(with_reducible refine (iQ.calls a0_14 false _ A14.out).mono ?_);rintro e w' ⟨rfl,⟨nd,rfl⟩⟩;refine ⟨_,rfl,?_⟩))
    (try (rw[aEk wc];generalize hq_:World.drewN wc _=wc;have n0_:Aside0 (wc.heap[gb201]? = some (.cells #[.string a0_0,.string a0_1,.string a0_2,.int .i64 a0_3,.slice A0_4 l0_4.length c0_4,.slice A0_5 l0_5.length c0_5,.slice A0_6 l0_6.length c0_6,.string a0_7,.string a0_8,.string a0_9,.string a0_10,.string a0_11,.string a0_12,.bool a0_13,.int .i64 a0_14] 50 (0,0))):=⟨by rw[← hq_];exact (by (with_reducible repeat (first | refine gI ?_ _ | refine gM ?_ | refine gH ?_ _));exact BK201.out)⟩;have n1_:Aside0 (Below w.heap.size w wc):=⟨by rw[← hq_];exact (by repeat (first | (with_reducible first | exact HB.out | apply fL | apply fB | apply fQ | refine gD ?_ GE201.out) | exact HB.out))⟩;clear BK201 HB hq_;have BK201:=n0_;have HB:=n1_;clear n0_ n1_))
    replace BK201:=cD (gM BK201.out);replace HB:=cD (fQ HB.out)
    refine iH (n:=7) (S:=fun w'=>w'.cell? ⟨gb201,0,none⟩=some (.string a0_0)∧w'.cell? ⟨gb201,1,none⟩=some (.string a0_1)∧w'.cell? ⟨gb201,2,none⟩=some (.string a0_2)∧w'.cell? ⟨gb201,3,none⟩=some (.int .i64 a0_3)∧w'.cell? ⟨gb201,4,none⟩=some (.slice A0_4 l0_4.length c0_4)∧w'.cell? ⟨gb201,5,none⟩=some (.slice A0_5 l0_5.length c0_5)∧w'.cell? ⟨gb201,6,none⟩=some (.slice A0_6 l0_6.length c0_6)∧w'.cell? ⟨gb201,7,none⟩=some (.string a0_7)∧w'.cell? ⟨gb201,8,none⟩=some (.string a0_8)∧w'.cell? ⟨gb201,9,none⟩=some (.string a0_9)∧w'.cell? ⟨gb201,10,none⟩=some (.string a0_10)∧w'.cell? ⟨gb201,11,none⟩=some (.string a0_11)∧w'.cell? ⟨gb201,12,none⟩=some (.string a0_12)∧w'.cell? ⟨gb201,13,none⟩=some (.bool a0_13)∧w'.cell? ⟨gb201,14,none⟩=some (.int .i64 a0_14)) (ds:=[]) #[false,false,false,false,false,false,false] bB rfl rfl ⟨(eG BK201.out 0).trans rfl,(eG BK201.out 1).trans rfl,(eG BK201.out 2).trans rfl,(eG BK201.out 3).trans rfl,(eG BK201.out 4).trans rfl,(eG BK201.out 5).trans rfl,(eG BK201.out 6).trans rfl,(eG BK201.out 7).trans rfl,(eG BK201.out 8).trans rfl,(eG BK201.out 9).trans rfl,(eG BK201.out 10).trans rfl,(eG BK201.out 11).trans rfl,(eG BK201.out 12).trans rfl,(eG BK201.out 13).trans rfl,(eG BK201.out 14).trans rfl⟩ (fun hHeld=>?_)
    generalize wc.drew=w30 at BK201 HB hHeld ⊢;refine sA1 3 (some 57) sB1 ?_
    refine sC1 0 (some 54) sH1 ?_
    refine sC1 4 (some 58) sH1 ?_
    refine hL (i:=1) (N:=some 55) #[true,true,false,true,true,false,false] rfl rfl bB bF (fun K hK=>?_);refine lE Tryz.func88 bB rfl #[.agg #[.string a0_0,.string a0_1,.string a0_2,.int .i64 a0_3,.slice A0_4 l0_4.length c0_4,.slice A0_5 l0_5.length c0_5,.slice A0_6 l0_6.length c0_6,.string a0_7,.string a0_8,.string a0_9,.string a0_10,.string a0_11,.string a0_12,.bool a0_13,.int .i64 a0_14]] bH rfl rfl bD ?_
    with_reducible refine (gG.calls a0_0 a0_1 a0_2 a0_3 _ _ l0_4 _ _ l0_5 _ _ l0_6 a0_7 a0_8 a0_9 a0_10 a0_11 a0_12 a0_13 a0_14 t205 _ ?side1 ?side2 ?side3 ?side4 ?side5 ?side6 A26.out).mono ?_
    (case side1=>exact cY)
    (case side2=>exact HC0_4.out)
    (case side3=>exact cZ)
    (case side4=>exact HC0_5.out)
    (case side5=>exact dA)
    (case side6=>exact HC0_6.out)
    rintro e w31 ⟨rfl,hb⟩;refine ⟨_,rfl,?_⟩;replace BK201:=cD (iF (g:=gb201) (o:=.cells #[.string a0_0,.string a0_1,.string a0_2,.int .i64 a0_3,.slice A0_4 l0_4.length c0_4,.slice A0_5 l0_5.length c0_5,.slice A0_6 l0_6.length c0_6,.string a0_7,.string a0_8,.string a0_9,.string a0_10,.string a0_11,.string a0_12,.bool a0_13,.int .i64 a0_14] 50 (0,0)) (by (with_reducible repeat (first | refine gI ?_ _ | refine gM ?_ | refine gH ?_ _));exact BK201.out) hb);replace HB:=cD (eH (by repeat (first | (with_reducible first | exact HB.out | apply fL | apply fB | apply fQ | refine gD ?_ GE201.out) | exact HB.out)) hb)
    (try clear hb)
    (try clear hb2)
    (try clear hk)
    (try clear hi)
    refine hK.out _ _ ⟨(eG BK201.out 0).trans rfl,(eG BK201.out 1).trans rfl,(eG BK201.out 2).trans rfl,(eG BK201.out 3).trans rfl,(eG BK201.out 4).trans rfl,(eG BK201.out 5).trans rfl,(eG BK201.out 6).trans rfl,(eG BK201.out 7).trans rfl,(eG BK201.out 8).trans rfl,(eG BK201.out 9).trans rfl,(eG BK201.out 10).trans rfl,(eG BK201.out 11).trans rfl,(eG BK201.out 12).trans rfl,(eG BK201.out 13).trans rfl,(eG BK201.out 14).trans rfl⟩ (fun hHeld=>?_);clear hK K;refine gO (a':=?_) ?_ ?_;rotate_left
    ·show Act.put _ (some 55) _=_;simp only[Act.put,cE,cG,cH,fE,fI];rfl
    refine sA1 2 (some 56) sB1 ?_
    refine sA1 5 (some 59) sB1 ?_
    refine sA1 6 (some 2) sB1 ?_
    refine iT bB ?_
    try go_wp2
    go_ret;exact ⟨aC,aE⟩
   rw[if_neg c28] at H;exact absurd H bL
  rw[if_neg c27] at H;exact absurd H bL
end Go.Proofs.YtbkobfoaphcamaaGreatDoor.PCore
namespace Go.Proofs.YtbkobfoaphcamaaGreatDoor.PCore
open Go.RowKit Go.Proofs.YtbkobfoaphcamaaGreatDoorW.PrintWords Go.Proofs.YtbkobfoaphcamaaGreatDoorW.PrintLast Go.Proofs.YtbkobfoaphcamaaGreatDoorW.PrintMore
attribute [local go_sem] kX kZ lR lS kF kG kY lA   -- for this text's walks alone
def jP.f (a0_0:ByteArray) (a0_1:ByteArray) (a0_2:ByteArray) (a0_3:Int) (l0_4:List ByteArray) (l0_5:List ByteArray) (l0_6:List ByteArray) (a0_7:ByteArray) (a0_8:ByteArray) (a0_9:ByteArray) (a0_10:ByteArray) (a0_11:ByteArray) (a0_12:ByteArray) (a0_13:Bool) (a0_14:Int):Option (ByteArray):=if a0_11.toList=([]:List UInt8) then (some a0_1) else ((lJ.f a0_0 a0_1 a0_2 a0_3 l0_4 l0_5 l0_6 a0_7 a0_8 a0_9 a0_10 a0_11 a0_12 a0_13 a0_14).bind fun t207=>(if 0≤a0_3 then (if a0_3≤(a0_2.size:Int) then (if t207.size+(a0_2.extract 0 (a0_3:Int).toNat).size≤9223372036854775807 then (if (t207++(a0_2.extract 0 (a0_3:Int).toNat)).size+1≤9223372036854775807 then (if ((t207++(a0_2.extract 0 (a0_3:Int).toNat))++(⟨#[46]⟩:ByteArray)).size+a0_7.size≤9223372036854775807 then (some (((t207++(a0_2.extract 0 (a0_3:Int).toNat))++(⟨#[46]⟩:ByteArray))++a0_7)) else (none)) else (none)) else (none)) else (none)) else (none)))
def jP.T3:Bool×List (List Nat×List Nat):=(true,[([],[]),([0],[0]),([],[]),([2],[2]),([],[]),([4],[4]),([3,5],[3,5]),([1,6],[1,6]),([7],[7]),([],[]),([9],[9]),([8,10],[8,10]),([11,1,0,1,2,3,4,5,6,7,8,9,10,11],[11])])
def jP.B3:List Nat:=[0,1,0,4,0,16,60,127,255,0,512,2047,4095]
theorem jP.tab3:mU .any (opsOf Tryz.f87 3)=jP.T3:=by kernel_rfl
theorem jP.bits3:rG jP.T3.2 jP.B3=true:=by kernel_rfl
set_option maxHeartbeats 8000000 in
set_option maxRecDepth 100000 in
theorem jP.calls (a0_0:ByteArray) (a0_1:ByteArray) (a0_2:ByteArray) (a0_3:Int) (A0_4:Option Addr) (c0_4:Nat) (l0_4:List ByteArray) (A0_5:Option Addr) (c0_5:Nat) (l0_5:List ByteArray) (A0_6:Option Addr) (c0_6:Nat) (l0_6:List ByteArray) (a0_7:ByteArray) (a0_8:ByteArray) (a0_9:ByteArray) (a0_10:ByteArray) (a0_11:ByteArray) (a0_12:ByteArray) (a0_13:Bool) (a0_14:Int) (r:ByteArray) (w:World) (hr0_4:Kd.C Kd.string w A0_4 l0_4.length l0_4) (hc0_4:l0_4.length≤c0_4) (hr0_5:Kd.C Kd.string w A0_5 l0_5.length l0_5) (hc0_5:l0_5.length≤c0_5) (hr0_6:Kd.C Kd.string w A0_6 l0_6.length l0_6) (hc0_6:l0_6.length≤c0_6) (h:jP.f a0_0 a0_1 a0_2 a0_3 l0_4 l0_5 l0_6 a0_7 a0_8 a0_9 a0_10 a0_11 a0_12 a0_13 a0_14=some r) :
 Calls Tryz.prog 87 #[.agg #[.string a0_0,.string a0_1,.string a0_2,.int .i64 a0_3,.slice A0_4 l0_4.length c0_4,.slice A0_5 l0_5.length c0_5,.slice A0_6 l0_6.length c0_6,.string a0_7,.string a0_8,.string a0_9,.string a0_10,.string a0_11,.string a0_12,.bool a0_13,.int .i64 a0_14]] w fun e w'=>e = .returned (.string r)∧Below w.heap.size w w':=by
 have hu50:=Tryz.underlying50;have HR0_4:=cD hr0_4;have HC0_4:=cD hc0_4;clear hr0_4 hc0_4;have HR0_5:=cD hr0_5;have HC0_5:=cD hc0_5;clear hr0_5 hc0_5;have HR0_6:=cD hr0_6;have HC0_6:=cD hc0_6;clear hr0_6 hc0_6;have HB:=cD (Below.refl w.heap.size w)
 have H:(if a0_11.toList=([]:List UInt8) then (some a0_1) else ((lJ.f a0_0 a0_1 a0_2 a0_3 l0_4 l0_5 l0_6 a0_7 a0_8 a0_9 a0_10 a0_11 a0_12 a0_13 a0_14).bind fun t207=>(if 0≤a0_3 then (if a0_3≤(a0_2.size:Int) then (if t207.size+(a0_2.extract 0 (a0_3:Int).toNat).size≤9223372036854775807 then (if (t207++(a0_2.extract 0 (a0_3:Int).toNat)).size+1≤9223372036854775807 then (if ((t207++(a0_2.extract 0 (a0_3:Int).toNat))++(⟨#[46]⟩:ByteArray)).size+a0_7.size≤9223372036854775807 then (some (((t207++(a0_2.extract 0 (a0_3:Int).toNat))++(⟨#[46]⟩:ByteArray))++a0_7)) else (none)) else (none)) else (none)) else (none)) else (none))))=some r:=h;clear h
 by_cases c2:a0_11.toList=([]:List UInt8)
 ·rw[if_pos c2] at H;have c2b0:=beq_iff_eq.mpr c2;have c2b1:=bne_eq_false_iff_eq.mpr c2;clear c2;obtain rfl:=Option.some.inj H;go_enter Tryz.func87,Tryz.ntmps87
  go_wp2_with (first | ((with_reducible refine gZ (N:=1) rfl ?_);refine gS ?hg (N:=1) ?hd (cs:=#[.string a0_0,.string a0_1,.string a0_2,.int .i64 a0_3,.slice A0_4 l0_4.length c0_4,.slice A0_5 l0_5.length c0_5,.slice A0_6 l0_6.length c0_6,.string a0_7,.string a0_8,.string a0_9,.string a0_10,.string a0_11,.string a0_12,.bool a0_13,.int .i64 a0_14]) (t:=50) ?hr ?_;(case hd=>rfl);(case hg=>rfl);(case hr=>exact cI);intro gb206 hg w3 hbox hb;have BK206:=cD (hbox);have GW206:=cD ((by rw[hg];exact (eT bC):w.heap.size≤gb206));have GE206:=cD ((by rw[hg];exact (eT bC):w.heap.size≤gb206));replace HB:=cD (eH bC hb);clear hb hbox hg;have hcz4_1:w3.cell? ⟨gb206,1,none⟩=some (.string a0_1):=(eG BK206.out 1).trans rfl;have hcz4_2:w3.cell? ⟨gb206,2,none⟩=some (.string a0_2):=(eG BK206.out 2).trans rfl;have hcz4_3:w3.cell? ⟨gb206,3,none⟩=some (.int .i64 a0_3):=(eG BK206.out 3).trans rfl;have hcz4_7:w3.cell? ⟨gb206,7,none⟩=some (.string a0_7):=(eG BK206.out 7).trans rfl;have hcz4_11:w3.cell? ⟨gb206,11,none⟩=some (.string a0_11):=(eG BK206.out 11).trans rfl))
  go_ret;exact ⟨aC,dS⟩
 rw[if_neg c2] at H;have c2b0:=beq_eq_false_iff_ne.mpr c2;have c2b1:=bne_iff_ne.mpr c2;replace H:=Option.bind_eq_some_iff.mp H;obtain ⟨t207,A50,H⟩:=H;replace H:(if 0≤a0_3 then (if a0_3≤(a0_2.size:Int) then (if t207.size+(a0_2.extract 0 (a0_3:Int).toNat).size≤9223372036854775807 then (if (t207++(a0_2.extract 0 (a0_3:Int).toNat)).size+1≤9223372036854775807 then (if ((t207++(a0_2.extract 0 (a0_3:Int).toNat))++(⟨#[46]⟩:ByteArray)).size+a0_7.size≤9223372036854775807 then (some (((t207++(a0_2.extract 0 (a0_3:Int).toNat))++(⟨#[46]⟩:ByteArray))++a0_7)) else (none)) else (none)) else (none)) else (none)) else (none))=some r:=H;have A5:=cD A50;clear A50
 by_cases c6:0≤a0_3
 ·rw[if_pos c6] at H;have c6b0:=eq_true c6;have c6b1:=decide_eq_true c6;clear c6
  by_cases c7:a0_3≤(a0_2.size:Int)
  ·rw[if_pos c7] at H;have c7b0:=eq_true c7;have c7b1:=decide_eq_true c7;clear c7
   by_cases c8:t207.size+(a0_2.extract 0 (a0_3:Int).toNat).size≤9223372036854775807
   ·rw[if_pos c8] at H;have c8b0:=eq_true c8;have c8b1:=decide_eq_true c8
    try have c8b2:(9223372036854775807 < t207.size+(a0_2.extract 0 (a0_3:Int).toNat).size)=False:=eq_false (Nat.not_lt.2 c8)
    try have c8b3:(9223372036854775807 < t207.size+a0_3.toNat)=False:=eq_false (by have e_:(a0_2.extract 0 (a0_3:Int).toNat).size=a0_3.toNat:=(by have h_:a0_3≤(a0_2.size:Int):=of_decide_eq_true (by assumption);rw[ByteArray.size_extract];omega);have l_:=of_decide_eq_true c8b1;omega)
    by_cases c9:(t207++(a0_2.extract 0 (a0_3:Int).toNat)).size+1≤9223372036854775807
    ·rw[if_pos c9] at H;have c9b0:=eq_true c9;have c9b1:=decide_eq_true c9
     try have c9b2:(9223372036854775807 < (t207++(a0_2.extract 0 (a0_3:Int).toNat)).size+1)=False:=eq_false (Nat.not_lt.2 c9)
     try have c9b3:(9223372036854775807 < t207.size+a0_3.toNat+1)=False:=eq_false (by have e_:(a0_2.extract 0 (a0_3:Int).toNat).size=a0_3.toNat:=(by have h_:a0_3≤(a0_2.size:Int):=of_decide_eq_true (by assumption);rw[ByteArray.size_extract];omega);have l_:=of_decide_eq_true c9b1;simp only[ByteArray.size_append] at l_;omega)
     by_cases c10:((t207++(a0_2.extract 0 (a0_3:Int).toNat))++(⟨#[46]⟩:ByteArray)).size+a0_7.size≤9223372036854775807
     ·rw[if_pos c10] at H;have c10b0:=eq_true c10;have c10b1:=decide_eq_true c10
      try have c10b2:(9223372036854775807 < ((t207++(a0_2.extract 0 (a0_3:Int).toNat))++(⟨#[46]⟩:ByteArray)).size+a0_7.size)=False:=eq_false (Nat.not_lt.2 c10)
      try have c10b3:(9223372036854775807 < t207.size+a0_3.toNat+1+a0_7.size)=False:=eq_false (by have e_:(a0_2.extract 0 (a0_3:Int).toNat).size=a0_3.toNat:=(by have h_:a0_3≤(a0_2.size:Int):=of_decide_eq_true (by assumption);rw[ByteArray.size_extract];omega);have l_:=of_decide_eq_true c10b1;have d_:(⟨#[46]⟩:ByteArray).size=1:=rfl;simp only[ByteArray.size_append] at l_;omega)
      obtain rfl:=Option.some.inj H;go_enter Tryz.func87,Tryz.ntmps87
      try go_wp2_with (first | ((with_reducible refine gZ (N:=1) rfl ?_);refine gS ?hg (N:=1) ?hd (cs:=#[.string a0_0,.string a0_1,.string a0_2,.int .i64 a0_3,.slice A0_4 l0_4.length c0_4,.slice A0_5 l0_5.length c0_5,.slice A0_6 l0_6.length c0_6,.string a0_7,.string a0_8,.string a0_9,.string a0_10,.string a0_11,.string a0_12,.bool a0_13,.int .i64 a0_14]) (t:=50) ?hr ?_;(case hd=>rfl);(case hg=>rfl);(case hr=>exact cI);intro gb206 hg w11 hbox hb;have BK206:=cD (hbox);have GW206:=cD ((by rw[hg];exact (eT bC):w.heap.size≤gb206));have GE206:=cD ((by rw[hg];exact (eT bC):w.heap.size≤gb206));replace HB:=cD (eH bC hb);clear hb hbox hg;have hcz12_0:w11.cell? ⟨gb206,0,none⟩=some (.string a0_0):=(eG BK206.out 0).trans rfl;have hcz12_1:w11.cell? ⟨gb206,1,none⟩=some (.string a0_1):=(eG BK206.out 1).trans rfl;have hcz12_2:w11.cell? ⟨gb206,2,none⟩=some (.string a0_2):=(eG BK206.out 2).trans rfl;have hcz12_3:w11.cell? ⟨gb206,3,none⟩=some (.int .i64 a0_3):=(eG BK206.out 3).trans rfl;have hcz12_4:w11.cell? ⟨gb206,4,none⟩=some (.slice A0_4 l0_4.length c0_4):=(eG BK206.out 4).trans rfl;have hcz12_5:w11.cell? ⟨gb206,5,none⟩=some (.slice A0_5 l0_5.length c0_5):=(eG BK206.out 5).trans rfl;have hcz12_6:w11.cell? ⟨gb206,6,none⟩=some (.slice A0_6 l0_6.length c0_6):=(eG BK206.out 6).trans rfl;have hcz12_7:w11.cell? ⟨gb206,7,none⟩=some (.string a0_7):=(eG BK206.out 7).trans rfl;have hcz12_8:w11.cell? ⟨gb206,8,none⟩=some (.string a0_8):=(eG BK206.out 8).trans rfl;have hcz12_9:w11.cell? ⟨gb206,9,none⟩=some (.string a0_9):=(eG BK206.out 9).trans rfl;have hcz12_10:w11.cell? ⟨gb206,10,none⟩=some (.string a0_10):=(eG BK206.out 10).trans rfl;have hcz12_11:w11.cell? ⟨gb206,11,none⟩=some (.string a0_11):=(eG BK206.out 11).trans rfl;have hcz12_12:w11.cell? ⟨gb206,12,none⟩=some (.string a0_12):=(eG BK206.out 12).trans rfl;have hcz12_13:w11.cell? ⟨gb206,13,none⟩=some (.bool a0_13):=(eG BK206.out 13).trans rfl;have hcz12_14:w11.cell? ⟨gb206,14,none⟩=some (.int .i64 a0_14):=(eG BK206.out 14).trans rfl))
      replace BK206:=cD (gM BK206.out);replace HB:=cD (fQ HB.out)
      refine iH (n:=13) (S:=fun w'=>w'.cell? ⟨gb206,0,none⟩=some (.string a0_0)∧w'.cell? ⟨gb206,1,none⟩=some (.string a0_1)∧w'.cell? ⟨gb206,2,none⟩=some (.string a0_2)∧w'.cell? ⟨gb206,3,none⟩=some (.int .i64 a0_3)∧w'.cell? ⟨gb206,4,none⟩=some (.slice A0_4 l0_4.length c0_4)∧w'.cell? ⟨gb206,5,none⟩=some (.slice A0_5 l0_5.length c0_5)∧w'.cell? ⟨gb206,6,none⟩=some (.slice A0_6 l0_6.length c0_6)∧w'.cell? ⟨gb206,7,none⟩=some (.string a0_7)∧w'.cell? ⟨gb206,8,none⟩=some (.string a0_8)∧w'.cell? ⟨gb206,9,none⟩=some (.string a0_9)∧w'.cell? ⟨gb206,10,none⟩=some (.string a0_10)∧w'.cell? ⟨gb206,11,none⟩=some (.string a0_11)∧w'.cell? ⟨gb206,12,none⟩=some (.string a0_12)∧w'.cell? ⟨gb206,13,none⟩=some (.bool a0_13)∧w'.cell? ⟨gb206,14,none⟩=some (.int .i64 a0_14)) (ds:=[]) #[false,false,false,false,false,false,false,false,false,false,false,false,false] bB rfl rfl ⟨(eG BK206.out 0).trans rfl,(eG BK206.out 1).trans rfl,(eG BK206.out 2).trans rfl,(eG BK206.out 3).trans rfl,(eG BK206.out 4).trans rfl,(eG BK206.out 5).trans rfl,(eG BK206.out 6).trans rfl,(eG BK206.out 7).trans rfl,(eG BK206.out 8).trans rfl,(eG BK206.out 9).trans rfl,(eG BK206.out 10).trans rfl,(eG BK206.out 11).trans rfl,(eG BK206.out 12).trans rfl,(eG BK206.out 13).trans rfl,(eG BK206.out 14).trans rfl⟩ (fun hHeld=>?_);refine aAi jP.tab3 jP.bits3 (fun HT_ HW_=>?_)
      generalize w11.drew=w13 at BK206 HB hHeld ⊢;refine nW (i:=2) (N:=some 10) (v:=?_) (a':=?_) #[false,false,true,false,false,false,false,false,false,false,false,false,false] rfl rfl (nN HT_.out bB) (fun _ _ _ h=>h) (Or.inl ⟨by rfl,?_⟩) ?_ ?_;rotate_left
      ·intro w';go_simp
       with_reducible rfl
      rotate_left
      ·simp only[Act.put,cE,cG,cH,fE,fI];rfl
      refine nW (i:=4) (N:=some 12) (v:=?_) (a':=?_) #[false,false,true,false,true,false,false,false,false,false,false,false,false] rfl rfl (nN HT_.out bB) (fun _ _ _ h=>h) (Or.inl ⟨by rfl,?_⟩) ?_ ?_;rotate_left
      ·intro w';go_simp
       with_reducible rfl
      rotate_left
      ·simp only[Act.put,cE,cG,cH,fE,fI];rfl
      refine nW (i:=9) (N:=some 17) (v:=?_) (a':=?_) #[false,false,true,false,true,false,false,false,false,true,false,false,false] rfl rfl (nN HT_.out bB) (fun _ _ _ h=>h) (Or.inl ⟨by rfl,?_⟩) ?_ ?_;rotate_left
      ·intro w';go_simp
       with_reducible rfl
      rotate_left
      ·simp only[Act.put,cE,cG,cH,fE,fI];rfl
      refine take_ (i:=0) (N:=some 8) (v:=?_) (a':=?_) #[true,false,true,false,true,false,false,false,false,true,false,false,false] rfl rfl (pI HT_.out HW_.out bB) (fun _ _ _ h=>h) (Or.inl ⟨by rfl,?_⟩) hHeld ?_ ?_;rotate_left
      ·rintro w' ⟨s0,s1,s2,s3,s4,s5,s6,s7,s8,s9,s10,s11,s12,s13,s14⟩;go_simp
       with_reducible rfl
      rotate_left
      ·simp only[Act.put,cE,cG,cH,fE,fI];rfl
      refine take_ (i:=3) (N:=some 11) (v:=?_) (a':=?_) #[true,false,true,true,true,false,false,false,false,true,false,false,false] rfl rfl (pI HT_.out HW_.out bB) (fun _ _ _ h=>h) (Or.inl ⟨by rfl,?_⟩) hHeld ?_ ?_;rotate_left
      ·rintro w' ⟨s0,s1,s2,s3,s4,s5,s6,s7,s8,s9,s10,s11,s12,s13,s14⟩;go_simp
       with_reducible rfl
      rotate_left
      ·simp only[Act.put,cE,cG,cH,fE,fI];rfl
      refine take_ (i:=5) (N:=some 13) (v:=?_) (a':=?_) #[true,false,true,true,true,true,false,false,false,true,false,false,false] rfl rfl (pI HT_.out HW_.out bB) (fun _ _ _ h=>h) (Or.inl ⟨by rfl,?_⟩) hHeld ?_ ?_;rotate_left
      ·rintro w' ⟨s0,s1,s2,s3,s4,s5,s6,s7,s8,s9,s10,s11,s12,s13,s14⟩;go_simp
       with_reducible rfl
      rotate_left
      ·simp only[Act.put,cE,cG,cH,fE,fI];rfl
      refine nW (i:=6) (N:=some 14) (v:=?_) (a':=?_) #[true,false,true,true,true,true,true,false,false,true,false,false,false] rfl rfl (nN HT_.out bB) (fun _ _ _ h=>h) (Or.inl ⟨by rfl,?_⟩) ?_ ?_;rotate_left
      ·intro w';go_simp
       with_reducible rfl
      rotate_left
      ·simp only[Act.put,cE,cG,cH,fE,fI];rfl
      refine take_ (i:=10) (N:=some 18) (v:=?_) (a':=?_) #[true,false,true,true,true,true,true,false,false,true,true,false,false] rfl rfl (pI HT_.out HW_.out bB) (fun _ _ _ h=>h) (Or.inl ⟨by rfl,?_⟩) hHeld ?_ ?_;rotate_left
      ·rintro w' ⟨s0,s1,s2,s3,s4,s5,s6,s7,s8,s9,s10,s11,s12,s13,s14⟩;go_simp
       with_reducible rfl
      rotate_left
      ·simp only[Act.put,cE,cG,cH,fE,fI];rfl
      refine hL (i:=1) (N:=some 9) #[true,true,true,true,true,true,true,false,false,true,true,false,false] rfl rfl (aF6 HT_.out bB) bF (fun K hK=>?_);refine lE Tryz.func109 bB rfl #[.agg #[.string a0_0,.string a0_1,.string a0_2,.int .i64 a0_3,.slice A0_4 l0_4.length c0_4,.slice A0_5 l0_5.length c0_5,.slice A0_6 l0_6.length c0_6,.string a0_7,.string a0_8,.string a0_9,.string a0_10,.string a0_11,.string a0_12,.bool a0_13,.int .i64 a0_14]] bH rfl rfl bD ?_
      with_reducible refine (lJ.calls a0_0 a0_1 a0_2 a0_3 _ _ l0_4 _ _ l0_5 _ _ l0_6 a0_7 a0_8 a0_9 a0_10 a0_11 a0_12 a0_13 a0_14 t207 _ ?side1 ?side2 ?side3 ?side4 ?side5 ?side6 A5.out).mono ?_
      (case side1=>exact cY)
      (case side2=>exact HC0_4.out)
      (case side3=>exact cZ)
      (case side4=>exact HC0_5.out)
      (case side5=>exact dA)
      (case side6=>exact HC0_6.out)
      rintro e w14 ⟨rfl,hb⟩;refine ⟨_,rfl,?_⟩;replace BK206:=cD (iF (g:=gb206) (o:=.cells #[.string a0_0,.string a0_1,.string a0_2,.int .i64 a0_3,.slice A0_4 l0_4.length c0_4,.slice A0_5 l0_5.length c0_5,.slice A0_6 l0_6.length c0_6,.string a0_7,.string a0_8,.string a0_9,.string a0_10,.string a0_11,.string a0_12,.bool a0_13,.int .i64 a0_14] 50 (0,0)) (by (with_reducible repeat (first | refine gI ?_ _ | refine gM ?_ | refine gH ?_ _));exact BK206.out) hb);replace HB:=cD (eH (by repeat (first | (with_reducible first | exact HB.out | apply fL | apply fB | apply fQ | refine gD ?_ GE206.out) | exact HB.out)) hb)
      (try clear hb)
      (try clear hb2)
      (try clear hk)
      (try clear hi)
      refine hK.out _ _ ⟨(eG BK206.out 0).trans rfl,(eG BK206.out 1).trans rfl,(eG BK206.out 2).trans rfl,(eG BK206.out 3).trans rfl,(eG BK206.out 4).trans rfl,(eG BK206.out 5).trans rfl,(eG BK206.out 6).trans rfl,(eG BK206.out 7).trans rfl,(eG BK206.out 8).trans rfl,(eG BK206.out 9).trans rfl,(eG BK206.out 10).trans rfl,(eG BK206.out 11).trans rfl,(eG BK206.out 12).trans rfl,(eG BK206.out 13).trans rfl,(eG BK206.out 14).trans rfl⟩ (fun hHeld=>?_);clear hK K;refine gO (a':=?_) ?_ ?_;rotate_left
      ·show Act.put _ (some 9) _=_;simp only[Act.put,cE,cG,cH,fE,fI];rfl
      refine nW (i:=7) (N:=some 15) (v:=?_) (a':=?_) #[true,true,true,true,true,true,true,true,false,true,true,false,false] rfl rfl (nN HT_.out bB) (fun _ _ _ h=>h) (Or.inl ⟨by rfl,?_⟩) ?_ ?_;rotate_left
      ·intro w';go_simp
       with_reducible rfl
      rotate_left
      ·simp only[Act.put,cE,cG,cH,fE,fI];rfl
      refine nW (i:=8) (N:=some 16) (v:=?_) (a':=?_) #[true,true,true,true,true,true,true,true,true,true,true,false,false] rfl rfl (nN HT_.out bB) (fun _ _ _ h=>h) (Or.inl ⟨by rfl,?_⟩) ?_ ?_;rotate_left
      ·intro w';go_simp
       with_reducible rfl
      rotate_left
      ·simp only[Act.put,cE,cG,cH,fE,fI];rfl
      refine nW (i:=11) (N:=some 19) (v:=?_) (a':=?_) #[true,true,true,true,true,true,true,true,true,true,true,true,false] rfl rfl (nN HT_.out bB) (fun _ _ _ h=>h) (Or.inl ⟨by rfl,?_⟩) ?_ ?_;rotate_left
      ·intro w';go_simp
       with_reducible rfl
      rotate_left
      ·simp only[Act.put,cE,cG,cH,fE,fI];rfl
      refine nW (i:=12) (N:=some 2) (v:=?_) (a':=?_) #[true,true,true,true,true,true,true,true,true,true,true,true,true] rfl rfl (nN HT_.out bB) (fun _ _ _ h=>h) (Or.inl ⟨by rfl,?_⟩) ?_ ?_;rotate_left
      ·intro w';go_simp
       with_reducible rfl
      rotate_left
      ·simp only[Act.put,cE,cG,cH,fE,fI];rfl
      refine iT (aD0 HT_.out bB) ?_
      try go_wp2
      go_ret;exact ⟨aC,dS⟩
     rw[if_neg c10] at H;exact absurd H bL
    rw[if_neg c9] at H;exact absurd H bL
   rw[if_neg c8] at H;exact absurd H bL
  rw[if_neg c7] at H;exact absurd H bL
 rw[if_neg c6] at H;exact absurd H bL
def nQ.f (a0_0:ByteArray) (a0_1:ByteArray) (a0_2:ByteArray) (a0_3:Int) (l0_4:List ByteArray) (l0_5:List ByteArray) (l0_6:List ByteArray) (a0_7:ByteArray) (a0_8:ByteArray) (a0_9:ByteArray) (a0_10:ByteArray) (a0_11:ByteArray) (a0_12:ByteArray) (a0_13:Bool) (a0_14:Int) (a1:ByteArray):Option (ByteArray):=if (l0_4.length:Int)=0 then (some a1) else (if 0≤(wrap64 ((wrap64 ((a1.size:Int) - (a0_7.size:Int))) - 1)) then (if (wrap64 ((wrap64 ((a1.size:Int) - (a0_7.size:Int))) - 1))≤(a1.size:Int) then (some (a1.extract 0 ((wrap64 ((wrap64 ((a1.size:Int) - (a0_7.size:Int))) - 1)):Int).toNat)) else (none)) else (none))
set_option maxHeartbeats 8000000 in
set_option maxRecDepth 100000 in
theorem nQ.calls (a0_0:ByteArray) (a0_1:ByteArray) (a0_2:ByteArray) (a0_3:Int) (A0_4:Option Addr) (c0_4:Nat) (l0_4:List ByteArray) (A0_5:Option Addr) (c0_5:Nat) (l0_5:List ByteArray) (A0_6:Option Addr) (c0_6:Nat) (l0_6:List ByteArray) (a0_7:ByteArray) (a0_8:ByteArray) (a0_9:ByteArray) (a0_10:ByteArray) (a0_11:ByteArray) (a0_12:ByteArray) (a0_13:Bool) (a0_14:Int) (a1:ByteArray) (r:ByteArray) (w:World) (hr0_4:Kd.C Kd.string w A0_4 l0_4.length l0_4) (hc0_4:l0_4.length≤c0_4) (hr0_5:Kd.C Kd.string w A0_5 l0_5.length l0_5) (hc0_5:l0_5.length≤c0_5) (hr0_6:Kd.C Kd.string w A0_6 l0_6.length l0_6) (hc0_6:l0_6.length≤c0_6) (h:nQ.f a0_0 a0_1 a0_2 a0_3 l0_4 l0_5 l0_6 a0_7 a0_8 a0_9 a0_10 a0_11 a0_12 a0_13 a0_14 a1=some r) :
 Calls Tryz.prog 85 #[.agg #[.string a0_0,.string a0_1,.string a0_2,.int .i64 a0_3,.slice A0_4 l0_4.length c0_4,.slice A0_5 l0_5.length c0_5,.slice A0_6 l0_6.length c0_6,.string a0_7,.string a0_8,.string a0_9,.string a0_10,.string a0_11,.string a0_12,.bool a0_13,.int .i64 a0_14],.string a1] w fun e w'=>e = .returned (.string r)∧Below w.heap.size w w':=by
 have hu50:=Tryz.underlying50;have HR0_4:=cD hr0_4;have HC0_4:=cD hc0_4;clear hr0_4 hc0_4;have HR0_5:=cD hr0_5;have HC0_5:=cD hc0_5;clear hr0_5 hc0_5;have HR0_6:=cD hr0_6;have HC0_6:=cD hc0_6;clear hr0_6 hc0_6;have HB:=cD (Below.refl w.heap.size w);have H:(if (l0_4.length:Int)=0 then (some a1) else (if 0≤(wrap64 ((wrap64 ((a1.size:Int) - (a0_7.size:Int))) - 1)) then (if (wrap64 ((wrap64 ((a1.size:Int) - (a0_7.size:Int))) - 1))≤(a1.size:Int) then (some (a1.extract 0 ((wrap64 ((wrap64 ((a1.size:Int) - (a0_7.size:Int))) - 1)):Int).toNat)) else (none)) else (none)))=some r:=h;clear h
 by_cases c3:(l0_4.length:Int)=0
 ·rw[if_pos c3] at H;have c3b0:=beq_iff_eq.mpr c3;have c3b1:=bne_eq_false_iff_eq.mpr c3;clear c3;obtain rfl:=Option.some.inj H;go_enter Tryz.func85,Tryz.ntmps85
  go_wp2_with (first | ((with_reducible refine gZ (N:=2) rfl ?_);refine gS ?hg (N:=2) ?hd (cs:=#[.string a0_0,.string a0_1,.string a0_2,.int .i64 a0_3,.slice A0_4 l0_4.length c0_4,.slice A0_5 l0_5.length c0_5,.slice A0_6 l0_6.length c0_6,.string a0_7,.string a0_8,.string a0_9,.string a0_10,.string a0_11,.string a0_12,.bool a0_13,.int .i64 a0_14]) (t:=50) ?hr ?_;(case hd=>rfl);(case hg=>rfl);(case hr=>exact cI);intro gb208 hg w4 hbox hb;have BK208:=cD (hbox);have GW208:=cD ((by rw[hg];exact (eT bC):w.heap.size≤gb208));have GE208:=cD ((by rw[hg];exact (eT bC):w.heap.size≤gb208));replace HB:=cD (eH bC hb);clear hb hbox hg;have hcz5_4:w4.cell? ⟨gb208,4,none⟩=some (.slice A0_4 l0_4.length c0_4):=(eG BK208.out 4).trans rfl;have hcz5_7:w4.cell? ⟨gb208,7,none⟩=some (.string a0_7):=(eG BK208.out 7).trans rfl))
  go_ret;exact ⟨aC,dT⟩
 rw[if_neg c3] at H;have c3b0:=beq_eq_false_iff_ne.mpr c3;have c3b1:=bne_iff_ne.mpr c3;have c3b2:¬ (l0_4=[]):=fun h_=>c3 (by rw[h_];rfl)
 obtain ⟨ji6,hji6⟩:∃ j_:Int,(wrap64 ((wrap64 ((a1.size:Int) - (a0_7.size:Int))) - 1))=j_:=⟨_,rfl⟩
 replace H:(if 0≤(ji6) then (if (ji6)≤(a1.size:Int) then (some (a1.extract 0 ((ji6):Int).toNat)) else (none)) else (none))=some r:=by first | (rw[hji6] at H;exact H) | (simp only[hji6] at H ⊢;exact H)
 have hji6w:(IntKind.i64.wrap ((wrap64 ((a1.size:Int) - (a0_7.size:Int))) - 1))=ji6:=(fE _).trans hji6
 by_cases c7:0≤(ji6)
 ·rw[if_pos c7] at H;have c7b0:=eq_true c7;have c7b1:=decide_eq_true c7;clear c7
  by_cases c8:(ji6)≤(a1.size:Int)
  ·rw[if_pos c8] at H;have c8b0:=eq_true c8;have c8b1:=decide_eq_true c8;clear c8;obtain rfl:=Option.some.inj H;go_enter Tryz.func85,Tryz.ntmps85
   go_wp2_with (first | ((with_reducible refine gZ (N:=2) rfl ?_);refine gS ?hg (N:=2) ?hd (cs:=#[.string a0_0,.string a0_1,.string a0_2,.int .i64 a0_3,.slice A0_4 l0_4.length c0_4,.slice A0_5 l0_5.length c0_5,.slice A0_6 l0_6.length c0_6,.string a0_7,.string a0_8,.string a0_9,.string a0_10,.string a0_11,.string a0_12,.bool a0_13,.int .i64 a0_14]) (t:=50) ?hr ?_;(case hd=>rfl);(case hg=>rfl);(case hr=>exact cI);intro gb208 hg w9 hbox hb;have BK208:=cD (hbox);have GW208:=cD ((by rw[hg];exact (eT bC):w.heap.size≤gb208));have GE208:=cD ((by rw[hg];exact (eT bC):w.heap.size≤gb208));replace HB:=cD (eH bC hb);clear hb hbox hg;have hcz10_4:w9.cell? ⟨gb208,4,none⟩=some (.slice A0_4 l0_4.length c0_4):=(eG BK208.out 4).trans rfl;have hcz10_7:w9.cell? ⟨gb208,7,none⟩=some (.string a0_7):=(eG BK208.out 7).trans rfl))
   go_ret;exact ⟨by first | rfl | (simp[oC,oD] <;> rfl) | (simp only[← hji6];first | rfl | (simp[oC,oD] <;> rfl)) | (simp[*,oC,oD] <;> rfl),dT⟩
  rw[if_neg c8] at H;exact absurd H bL
 rw[if_neg c7] at H;exact absurd H bL
end Go.Proofs.YtbkobfoaphcamaaGreatDoor.PCore
namespace Go.Proofs.YtbkobfoaphcamaaGreatDoor.PCore
open Go.RowKit Go.Proofs.YtbkobfoaphcamaaGreatDoorW.PrintWords Go.Proofs.YtbkobfoaphcamaaGreatDoorW.PrintLast Go.Proofs.YtbkobfoaphcamaaGreatDoorW.PrintMore
attribute [local go_sem] kX kZ lR lS kF kG kY lA   -- for this text's walks alone
end Go.Proofs.YtbkobfoaphcamaaGreatDoor.PCore
namespace Go.Proofs.YtbkobfoaphcamaaGreatDoor.Path
open Go.RowKit Go.Proofs.YtbkobfoaphcamaaGreatDoorW.PrintWords Go.Proofs.YtbkobfoaphcamaaGreatDoor.Base Go.Proofs.YtbkobfoaphcamaaGreatDoor.PCore
theorem mE (s:ByteArray) (i:Nat) (hi:i < s.size) (n:Int) (c:UInt8) (hn:(c.toNat:Int)=n):(bt s (i:Int)=n)↔(L s)[i]? = some c:=by
 have h:i < (L s).length:=by rw[eN];exact hi
 rw[sM s i h,List.getElem?_eq_getElem h,← hn];constructor
 ·intro e;have e' : ((L s)[i]'h).toNat=c.toNat:=by omega
  rw[UInt8.toNat_inj.1 e']
 intro e;injection e with e
 rw[e]
def ints (l:List Nat):List Int:=l.map fun (n:Nat)=>(n:Int)
section
variable (s:ByteArray) (hs:s.size≤1000000)
include hs
theorem aI1 (R:List Int) (e:Nat) (he:e < s.size):∀ (n a:Nat) (acc:List Int),e - a=n→a≤e→acc.length≤a→Ev (fun k=>eF.l0 k s (acc++ints (kE (L s) a (e - a))) ((e+1:Nat):Int)) R→Ev (fun k=>eF.l2 k s acc (e:Int) (a:Int)) R:=by
 intro n
 induction n with
 | zero =>
  intro a acc h1 h2 h3 h;have e1:e=a:=by omega
  subst e1;have e2:acc++ints (kE (L s) e (e - e))=acc:=by simp[kE,ints]
  rw[e2] at h;refine Ev.step (fun k=>?_) h;simp only[eF.l2];rw[if_neg bA,w64 bA bA];rfl
 | succ n ih =>
  intro a acc h1 h2 h3 h;have hb:=mE s a bA 46 46 bF
  have hd:kE (L s) a (e - a)=(if (L s)[a]? = some 46 then [a] else [])++kE (L s) (a+1) (e - (a+1)):=by
   have e3:e - a=(e - (a+1))+1:=by omega
   unfold kE;rw[e3,List.range'_succ,List.filter_cons]
   by_cases c:(L s)[a]? = some 46
   ·simp[c]
   simp[c]
  by_cases c:(L s)[a]? = some 46
  ·have c':=hb.2 c
   have hh:=ih (a+1) (acc++[(a:Int)]) bA bA (by simp;omega) (by
    rw[hd,if_pos c] at h
    simpa [ints] using h)
   refine Ev.step (fun k=>?_) hh;simp only[eF.l2];rw[if_pos bA,if_pos bA,if_pos bA,if_pos c',if_pos bA,w64 bA bA];rfl
  have c' : ¬ (bt s (a:Int)=46):=fun x=>c (hb.1 x)
  have hh:=ih (a+1) acc bA bA bA (by
   rw[hd,if_neg c] at h
   simpa [ints] using h)
  refine Ev.step (fun k=>?_) hh;simp only[eF.l2];rw[if_pos bA,if_pos bA,if_pos bA,if_neg c',w64 bA bA];rfl
def aHm:Option Nat→Int
 | none=>-1
 | some e=>e
omit hs in
theorem qD (l:List UInt8):∀ (g k e:Nat),lH l g k=some e→k≤e∧e < l.length
 | 0,_,_,h=>by cases h
 | g+1,k,e,h=>by
  unfold lH at h;split at h
  ·cases h
  split at h
  ·rename_i h1 h2
   cases h;exact ⟨Nat.le_refl _,(List.getElem?_eq_some_iff.1 h2.1).1⟩
  have:=qD l g (k+1) e h;omega
theorem aI0 (R:List Int) (i:Nat) (acc:List Int):∀ (n p:Nat),s.size - p=n→p≤s.size→Ev (fun k=>eF.j3 k s acc (i:Int) (aHm (lH (L s) n p))) R→Ev (fun k=>eF.l1 k s acc (i:Int) (-1) (p:Int)) R:=by
 have hl:=eN s;intro n
 induction n with
 | zero =>
  intro p h1 h2 h;refine Ev.step (fun k=>?_) h;simp only[eF.l1];rw[if_neg bA];rfl
 | succ n ih =>
  intro p h1 h2 h;have hb1:=mE s p bA 47 47 bF;have hb2:=mE s p bA 95 95 bF;unfold lH at h
  by_cases c1:(L s)[p]? = some 47
  ·rw[if_pos c1] at h;refine Ev.step (fun k=>?_) h;simp only[eF.l1];rw[if_pos bA,if_pos bA,if_pos (hb1.2 c1)];rfl
  rw[if_neg c1] at h;have c1' : ¬ (bt s (p:Int)=47):=fun x=>c1 (hb1.1 x)
  by_cases c2:(L s)[p]? = some 95
  ·have c2':=hb2.2 c2
   by_cases c3:s.size≤p+1
   ·rw[if_pos ⟨c2,.inl bA⟩] at h;refine Ev.step (fun k=>?_) h;simp only[eF.l1];rw[if_pos bA,if_pos bA,if_neg c1',if_pos c2',w64 bA bA,if_pos bA];rfl
   have hb3:=mE s (p+1) bA 46 46 bF;have ep:((p+1:Nat):Int)=(p:Int)+1:=by omega
   by_cases c4:(L s)[p+1]? = some 46
   ·rw[if_pos ⟨c2,.inr c4⟩] at h;refine Ev.step (fun k=>?_) h;simp only[eF.l1];rw[if_pos bA,if_pos bA,if_neg c1',if_pos c2',w64 bA bA,if_neg bA,if_pos bA,if_pos bA,if_pos (by rw[← ep];exact hb3.2 c4)];rfl
   rw[if_neg (by rintro ⟨_,x | x⟩ <;> first | omega | exact c4 x)] at h;refine Ev.step (fun k=>?_) (ih (p+1) bA bA h);simp only[eF.l1];rw[if_pos bA,if_pos bA,if_neg c1',if_pos c2',w64 bA bA,if_neg bA,if_pos bA,if_pos bA,if_neg (by rw[← ep];exact fun x=>c4 (hb3.1 x))];rfl
  rw[if_neg (fun x=>c2 x.1)] at h;refine Ev.step (fun k=>?_) (ih (p+1) bA bA h);simp only[eF.l1];rw[if_pos bA,if_pos bA,if_neg c1',if_neg (fun x=>c2 (hb2.1 x)),w64 bA bA];rfl
theorem aIz:∀ (g i:Nat) (acc:List Int),s.size - i≤g→acc.length≤i→i≤1000001→Ev (fun k=>eF.l0 k s acc (i:Int)) (acc++ints (skF (L s) g i)):=by
 have hl:=eN s;intro g
 induction g with
 | zero =>
  intro i acc h1 h2 h3;have e:acc++ints (skF (L s) 0 i)=acc:=by simp[skF,ints]
  rw[e];refine Ev.step (f:=fun _=>some acc) (fun k=>?_) (Ev.now _);simp only[eF.l0];rw[if_neg bA]
 | succ g ih =>
  intro i acc h1 h2 h3;unfold skF
  by_cases c0:s.size≤i
  ·rw[if_pos bA];have e:acc++ints []=acc:=by simp[ints]
   rw[e];refine Ev.step (f:=fun _=>some acc) (fun k=>?_) (Ev.now _);simp only[eF.l0];rw[if_neg bA]
  rw[if_neg bA]
  -- to j1
  have hj:Ev (fun k=>eF.j1 k s acc (i:Int) (opens (L s) i)) (acc++ints (if opens (L s) i=true then (match qC (L s) (i+2) with | some e=>kE (L s) (i+2) (e - (i+2))++skF (L s) g (e+1) | none=>skF (L s) g (i+1)) else skF (L s) g (i+1))):=by
   have next:Ev (fun k=>eF.l0 k s acc ((i+1:Nat):Int)) (acc++ints (skF (L s) g (i+1))):=ih (i+1) acc bA bA bA
   cases ho:opens (L s) i with
   | false =>
    simp only[Bool.false_eq_true,if_false];refine Ev.step (fun k=>?_) next;simp only[eF.j1,Bool.false_eq_true,if_false];rw[w64 bA bA];rfl
   | true =>
    have ho2:i+2 < s.size:=by
     unfold opens at ho;simp only[Bool.and_eq_true,decide_eq_true_eq] at ho;omega
    simp only[if_true];refine Ev.step (f:=fun k=>eF.l1 k s acc (i:Int) (-1) ((i+2:Nat):Int)) (fun k=>?_) (aI0 s hs _ i acc (s.size - (i+2)) (i+2) rfl bA ?_)
    ·simp only[eF.j1,if_true];rw[w64 bA bA];rfl
    have hw:qC (L s) (i+2)=lH (L s) (s.size - (i+2)) (i+2):=by unfold qC;rw[hl]
    rw[hw]
    cases he:lH (L s) (s.size - (i+2)) (i+2) with
    | none =>
     refine Ev.step (fun k=>?_) next;simp only[eF.j3,aHm,if_true];rw[w64 bA bA];rfl
    | some e =>
     obtain ⟨q1,q2⟩:=qD _ _ _ _ he
     have hh:=ih (e+1) (acc++ints (kE (L s) (i+2) (e - (i+2)))) bA (by
      have:(kE (L s) (i+2) (e - (i+2))).length≤e - (i+2):=by unfold kE;refine Nat.le_trans (List.length_filter_le _ _) ?_;simp
      simp[ints];omega) bA
     have e5:acc++ints (kE (L s) (i+2) (e - (i+2))++skF (L s) g (e+1))=(acc++ints (kE (L s) (i+2) (e - (i+2))))++ints (skF (L s) g (e+1)):=by simp[ints]
     rw[e5];refine Ev.step (f:=fun k=>eF.l2 k s acc (e:Int) ((i+2:Nat):Int)) (fun k=>?_) (aI1 s hs _ e bA (e - (i+2)) (i+2) acc rfl bA bA hh);simp only[eF.j3];rw[if_neg (show ¬ aHm (some e) = -1 by show ¬ (e:Int) = -1;omega),w64 bA bA];rfl
  have hb1:=mE s i bA 46 46 bF;refine Ev.step (fun k=>?_) hj;simp only[eF.l0];rw[if_pos bA,w64 (n:=(i:Int)+2) bA bA];unfold opens
  by_cases c1:i+2 < s.size
  ·have hb2:=mE s (i+1) bA 95 95 bF;have ep:((i+1:Nat):Int)=(i:Int)+1:=by omega
   rw[if_pos bA,if_pos bA]
   by_cases c2:(L s)[i]? = some 46
   ·rw[if_pos (hb1.2 c2),w64 (n:=(i:Int)+1) bA bA,if_pos bA,if_pos bA]
    have e6:(bt s ((i:Int)+1)==95)=((L s)[i+1]? == some 95):=by
     rw[← ep,Bool.eq_iff_iff,beq_iff_eq,beq_iff_eq];exact hb2
    rw[e6,c2,decide_eq_true bA]
    simp
   rw[if_neg (fun x=>c2 (hb1.1 x))];have:((L s)[i]? == some 46)=false:=by simpa using c2
   rw[this]
   simp
  rw[if_neg bA,decide_eq_false bA]
  simp
omit hs in
theorem last_slash (h:∃ j:Nat,(L s)[j]? = some 47):∃ j:Nat,Go.Lib.lastIndexByte s 47=(j:Int)∧behind (L s)=j+1∧(L s)[j]? = some 47∧∀ k,j < k→(L s)[k]?≠some 47:=by
 have hl:=eN s;have hd:s.data.size=s.size:=rfl;have es:(⟨(L s).toArray⟩:ByteArray)=s:=L_inj (kR _)
 have at_:∀ k,k < s.size→(((s.data[k]!).toNat:Int)=47↔(L s)[k]? = some 47):=by
  intro k hk;have h1:k < s.data.size:=hk;rw[getElem!_pos s.data k h1];have e:(L s)[k]? = some s.data[k]:=by unfold L;simp
  rw[e];constructor
  ·intro e2;have:(s.data[k]).toNat=(47:UInt8).toNat:=by have:(47:UInt8).toNat=47:=rfl;omega
   rw[UInt8.toNat_inj.1 this]
  intro e2;injection e2 with e2
  rw[e2];rfl
 rcases Go.Lib.lastIdx_spec s 47 s.size with ⟨_,h2⟩ | ⟨i,h1,h2,h3,h4⟩
 ·obtain ⟨j,hj⟩:=h;have:j < s.size:=by rw[← hl];exact (List.getElem?_eq_some_iff.1 hj).1
  exact absurd ((at_ j this).2 hj) (h2 j this)
 refine ⟨i,h2,?_,(at_ i h1).1 h3,fun k hk e=>?_⟩
 ·unfold behind;rw[es];show (Go.Lib.lastIdx s 47 s.size+1).toNat=i+1;rw[h2];omega
 have:k < s.size:=by rw[← hl];exact (List.getElem?_eq_some_iff.1 e).1
 exact h4 k hk this ((at_ k this).2 e)
theorem aHy (h:∃ j:Nat,(L s)[j]? = some 47):Ev (fun k=>eF.f k s) (ints (lV (L s))):=by
 have hl:=eN s;obtain ⟨j,h1,h2,h3,_⟩:=last_slash s h;have hj:j < s.size:=by rw[← hl];exact (List.getElem?_eq_some_iff.1 h3).1
 have e:=aIz s hs (L s).length j [] bA bL bA;have e9:[]++ints (skF (L s) (L s).length j)=ints (lV (L s)):=by unfold lV;rw[h2];rfl
 rw[e9] at e;refine Ev.congr (fun k=>?_) e;show ((strings_LastIndex.f s ⟨#[47]⟩).bind fun t=>if t = -1 then some ([]:List Int) else eF.l0 k s [] t)=_;unfold strings_LastIndex.f;rw[if_pos ⟨by rw[L_toList];rfl,aR⟩,h1];have hne:¬ ((j:Int) = -1):=by omega
 show (if (j:Int) = -1 then some ([]:List Int) else eF.l0 k s [] (j:Int))=eF.l0 k s [] (j:Int);rw[if_neg hne]
end
theorem aHz (i:Nat):∀ (n j:Nat) (l:List Nat),l.length - j=n→j≤l.length→l.length≤1000000→Ev (fun k=>fA.l0 k (i:Int) (ints l) (l.length:Int) (j:Int)) (kS (l.drop j) i):=by
 intro n
 induction n with
 | zero =>
  intro j l h1 h2 h3;have e:l.drop j=[]:=List.drop_of_length_le bA;rw[e];refine Ev.step (f:=fun _=>some false) (fun k=>?_) (Ev.now _);simp only[fA.l0];rw[if_neg bA]
 | succ n ih =>
  intro j l h1 h2 h3;have hj:j < l.length:=by omega
  have e:l.drop j=l[j]::l.drop (j+1):=List.drop_eq_getElem_cons hj
  have hr:rd (ints l) (j:Int)=(l[j]:Int):=by
   unfold rd
   simp[ints,hj]
  rw[e];have hz:(ints l).length=l.length:=by simp[ints]
  by_cases c1:l[j]=i
  ·have e2:kS (l[j]::l.drop (j+1)) i=true:=by unfold kS;rw[if_pos c1]
   rw[e2];refine Ev.step (f:=fun _=>some true) (fun k=>?_) (Ev.now _);simp only[fA.l0];rw[if_pos bA,if_pos bA,if_pos bA,hr,if_pos bA]
  by_cases c2:i < l[j]
  ·have e2:kS (l[j]::l.drop (j+1)) i=false:=by unfold kS;rw[if_neg c1,if_pos c2]
   rw[e2];refine Ev.step (f:=fun _=>some false) (fun k=>?_) (Ev.now _);simp only[fA.l0];rw[if_pos bA,if_pos bA,if_pos bA,hr,if_neg bA,if_pos bA]
  have e2:kS (l[j]::l.drop (j+1)) i=kS (l.drop (j+1)) i:=by rw[kS,if_neg c1,if_neg c2]
  rw[e2];refine Ev.step (fun k=>?_) (ih (j+1) l bA bA h3);simp only[fA.l0];rw[if_pos bA,if_pos bA,if_pos bA,hr,if_neg bA,if_neg bA,w64 bA bA];rfl
theorem aEl (i:Nat) (l:List Nat) (h:l.length≤1000000):Ev (fun k=>fA.f k (ints l) (i:Int)) (kS l i):=by
 have e:=aHz i l.length 0 l bA bA h;refine Ev.congr (fun k=>?_) e;show fA.l0 k (i:Int) (ints l) ((ints l).length:Int) 0=_;rw[show (ints l).length=l.length by simp[ints]];rfl
theorem aGs (s t:ByteArray) (hs:s.size≤1000000) (ht:t.size≤1000000):∀ (g i:Nat),s.size+1 - i≤g→i≤s.size+1→∃ r:Int,Ev (fun k=>fJ.l0 k s t (i:Int)) r∧decide (r≥0)=wU (L s) (L t) g i:=by
 have hl:=eN s;have hlt:=eN t;intro g
 induction g with
 | zero =>
  intro i h1 h2;refine ⟨-1,Ev.step (f:=fun _=>some (-1)) (fun k=>?_) (Ev.now _),by simp[wU]⟩;simp only[fJ.l0];rw[if_neg (by rw[w64 bA bA];omega)]
 | succ g ih =>
  intro i h1 h2;unfold wU
  by_cases c:s.size < i+t.size
  ·rw[if_pos bA];refine ⟨-1,Ev.step (f:=fun _=>some (-1)) (fun k=>?_) (Ev.now _),eB⟩;simp only[fJ.l0];rw[if_neg (by rw[w64 bA bA];omega)]
  rw[if_neg bA];have hx:(s.extract i (i+t.size)).toList=((L s).drop i).take (L t).length:=by rw[L_toList,eX,hlt];congr 1;omega
  by_cases h:((L s).drop i).take (L t).length=L t
  ·refine ⟨i,Ev.step (f:=fun _=>some (i:Int)) (fun k=>?_) (Ev.now _),by rw[h];simp⟩;simp only[fJ.l0];rw[w64 (n:=(i:Int)+t.size) bA bA,if_pos bA,if_pos bA,if_pos bA,if_pos ?_];rw[Int.toNat_natCast,show ((i:Int)+(t.size:Int)).toNat=i+t.size by omega,hx,h,L_toList]
  obtain ⟨r,h3,h4⟩:=ih (i+1) bA bA;refine ⟨r,Ev.step (fun k=>?_) h3,?_⟩
  ·simp only[fJ.l0];rw[w64 (n:=(i:Int)+t.size) bA bA,if_pos bA,if_pos bA,if_pos bA,if_neg ?_,w64 bA bA]
   ·rfl
   rw[Int.toNat_natCast,show ((i:Int)+(t.size:Int)).toNat=i+t.size by omega,hx,L_toList];exact h
  rw[h4];have:(((L s).drop i).take (L t).length==L t)=false:=by simpa using h
  rw[this,Bool.false_or]
theorem sI (s t:ByteArray) (hs:s.size≤1000000) (ht:t.size≤1000000):Ev (fun k=>iC.f k s t) (fH (L s) (L t)):=by
 obtain ⟨r,h1,h2⟩:=aGs s t hs ht (s.size+1) 0 bA bA;have e:fH (L s) (L t)=decide (r≥0):=by unfold fH;rw[eN,h2]
 rw[e];refine Ev.bind (g:=fun k=>fJ.f k s t) (f:=fun _ r=>some (decide (r≥0))) h1 (Ev.now _)
end Go.Proofs.YtbkobfoaphcamaaGreatDoor.Path
namespace Go.Proofs.YtbkobfoaphcamaaGreatDoor.Path
open Go.RowKit Go.Proofs.YtbkobfoaphcamaaGreatDoorW.PrintWords Go.Proofs.YtbkobfoaphcamaaGreatDoor.Base
theorem uJ (l:List UInt8):iN l≤l.length:=by unfold iN;exact List.length_filter_le _ _
theorem yY (l:List UInt8) (k:Nat) (h:k < l.length):iN (l.take (k+1))=iN (l.take k)+if l[k]=46 then 1 else 0:=by
 unfold iN;rw[List.take_succ_eq_append_getElem h,List.filter_append,List.length_append]
 by_cases c:l[k]=46
 ·simp[c]
 simp[c]
set_option maxRecDepth 100000 in
set_option maxHeartbeats 1600000 in
theorem aCy (s:ByteArray) (hs:s.size≤1000000) (w:World) :
 Calls Tryz.prog 120 #[.string s,.string ⟨#[46]⟩] w fun e w'=>e = .returned (.int .i64 (iN (L s)))∧w'=w:=by
 have hl:=eN s
 obtain ⟨n,hn⟩:∃ n,s.size=n:=⟨_,rfl⟩
 have HN:=cD hn;rw[hn] at hs;go_enter Tryz.func120,Tryz.ntmps120;go_wp2_with fail
 go_loopg [5,6] n (fun g c i wr=>∃ k:Nat,k≤n∧g=n - k∧i = .int .i64 k∧c = .int .i64 (iN ((L s).take k))∧wr=w)
 case atStart=>exact ⟨0,Nat.zero_le _,rfl,rfl,rfl,rfl⟩
 case round =>
  obtain ⟨k,hk,hg,rfl,rfl,rfl⟩:=hrel;have hsz:ByteArray.size ⟨#[46]⟩=1:=rfl;have hc0:=uJ ((L s).take k);have hc1:((L s).take k).length≤n:=by simp;omega
  have d0:IntKind.i64.wrap ((k:Int)+1)=((k+1:Nat):Int):=by rw[IntWalk.i64_in _ bA];omega
  by_cases hlt:k < n
  ·have hkl:k < (L s).length:=by omega
   have hst:=yY (L s) k hkl;have d1:decide (((k+1:Nat):Int)≤(n:Int))=true:=decide_eq_true bA;have d2:((k+1:Nat):Int)≤(n:Int):=by omega
   have d3:(k:Int)≤((k+1:Nat):Int):=by omega
   have d4:(0:Int)≤(k:Int):=by omega
   have e1:(k:Int)+1≤(n:Int):=by omega
   have e2:(k:Int)≤(k:Int)+1:=by omega
   have e3:((k:Int)+1).toNat=k+1:=by omega
   have e4:decide ((k:Int)+1≤(n:Int))=true:=decide_eq_true e1
   obtain ⟨m,hm⟩:∃ m,iN ((L s).take k)=m:=⟨_,rfl⟩
   rw[hm] at hst hc0 ⊢;have d5:IntKind.i64.wrap ((m:Int)+1)=((m+1:Nat):Int):=by rw[IntWalk.i64_in _ bA];omega
   have hx:((s.extract k (k+1)).toList==(⟨#[46]⟩:ByteArray).toList)=decide ((L s)[k]=46):=by
    rw[L_toList,eX,L_toList,List.drop_eq_getElem_cons hkl];have:k+1 - k=1:=by omega
    rw[this,Bool.eq_iff_iff,beq_iff_eq,decide_eq_true_iff]
    simp[L]
   obtain ⟨b,hb⟩:∃ b,decide ((L s)[k]=46)=b:=⟨_,rfl⟩
   rw[hb] at hx;have HB:=cD hb;have HST:=cD hst;clear hst hb;rw[show (⟨#[46]⟩:ByteArray).toList=[46] by rw[L_toList];rfl] at hx;cases b
   ·have hc:¬ (L s)[k]=46:=of_decide_eq_false HB.out;have hst2:=HST.out;rw[if_neg hc] at hst2;clear hc;go_wp2_with fail
    go_roundg (n - (k+1))
    case rel=>exact ⟨k+1,aR,rfl,aZ,by rw[hst2];rfl,rfl⟩
    case measure=>omega
   have hc:(L s)[k]=46:=of_decide_eq_true HB.out;have hst2:=HST.out;rw[if_pos hc] at hst2;clear hc;go_wp2_with fail
   go_roundg (n - (k+1))
   case rel=>exact ⟨k+1,aR,rfl,aZ,by rw[hst2];go_num,rfl⟩
   case measure=>omega
  have:k=n:=by omega
  subst this;have d1:decide (((k+1:Nat):Int)≤(k:Int))=false:=decide_eq_false bA;have d2:¬ (((k+1:Nat):Int)≤(k:Int)):=by omega
  have e4:decide ((k:Int)+1≤(k:Int))=false:=decide_eq_false bA;have e:(L s).take k=L s:=List.take_of_length_le bA;rw[e];go_wp2_with fail
  go_ret;exact ⟨rfl,rfl⟩
end Go.Proofs.YtbkobfoaphcamaaGreatDoor.Path
