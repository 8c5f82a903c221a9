/- Texts that the law leans on: PCorex9, PCorex10, PCorex11, PCorex12, PCorex, Find, Count, Do3. Condition: as told at each. -/
import Derived.Deep.LoopGhost
import Derived.Test.YtcdgldnphhidlaaGreatDoorVa
import Derived.Test.YtcdgldnphhidlaaGreatDoorV12
set_option linter.unusedVariables false
set_option linter.unusedSimpArgs false
set_option maxRecDepth 100000
set_option maxHeartbeats 16000000
namespace Go.Proofs.YtcdgldnphhidlaaGreatDoor.PCore
open Go.RowKit Go.ZW.PrintWords Go.ZW.PrintLast Go.ZW.PrintMore
attribute [local go_sem] kF kH lE lF jR jS kG kI   -- for this text's walks alone
def lJ.f (k:Nat) (l0_0:List ByteArray) (l0_1:List ByteArray) (l0_2:List (S46)) (l0_3:List ByteArray) (a1:Int):Option (ByteArray):=if a1 < 0 then (some (⟨#[]⟩:ByteArray)) else (if a1≥(l0_0.length:Int) then (some (⟨#[]⟩:ByteArray)) else (if 0≤a1 then (if a1 < (l0_0.length:Int) then ((fF.f k (gE ByteArray.empty l0_0 a1)).bind fun t188=>(if t188=true then (some (gE ByteArray.empty l0_0 a1)) else (some (⟨#[]⟩:ByteArray)))) else (none)) else (none)))
theorem lJ.mono:∀ a0 a1 a2 a3 a4 k,LeO (lJ.f k a0 a1 a2 a3 a4) (lJ.f (k+1) a0 a1 a2 a3 a4):=by
 intro a0 a1 a2 a3 a4 k;unfold lJ.f
 exact dK
theorem lJ.calls (k:Nat) (A0_0:Option Addr) (c0_0:Nat) (l0_0:List ByteArray) (A0_1:Option Addr) (c0_1:Nat) (l0_1:List ByteArray) (A0_2:Option Addr) (c0_2:Nat) (l0_2:List (S46)) (A0_3:Option Addr) (c0_3:Nat) (l0_3:List ByteArray) (a1:Int) (r:ByteArray) (w:World) (hr0_0:Kd.C Kd.string w A0_0 l0_0.length l0_0) (hc0_0:l0_0.length≤c0_0) (hr0_1:Kd.C Kd.string w A0_1 l0_1.length l0_1) (hc0_1:l0_1.length≤c0_1) (hr0_2:Kd.C k46 w A0_2 l0_2.length l0_2) (hc0_2:l0_2.length≤c0_2) (hr0_3:Kd.C Kd.string w A0_3 l0_3.length l0_3) (hc0_3:l0_3.length≤c0_3) (h:lJ.f k l0_0 l0_1 l0_2 l0_3 a1=some r) :
 Calls Tryz.prog 24 #[.agg #[.slice A0_0 l0_0.length c0_0,.slice A0_1 l0_1.length c0_1,.slice A0_2 l0_2.length c0_2,.slice A0_3 l0_3.length c0_3],.int .i64 a1] w fun e w'=>e = .returned (.string r)∧Below w.heap.size w w':=by
 have hu25:=Tryz.underlying25;have HR0_0:=cH hr0_0;have HC0_0:=cH hc0_0;clear hr0_0 hc0_0;have HR0_1:=cH hr0_1;have HC0_1:=cH hc0_1;clear hr0_1 hc0_1;have HR0_2:=cH hr0_2;have HC0_2:=cH hc0_2;clear hr0_2 hc0_2;have HR0_3:=cH hr0_3;have HC0_3:=cH hc0_3;clear hr0_3 hc0_3;have HB:=cH (Below.refl w.heap.size w);unfold lJ.f at h;have H:=h;clear h
 by_cases c3:a1 < 0
 ·rw[if_pos c3] at H;have c3b0:=decide_eq_true c3;clear c3;obtain rfl:=Option.some.inj H;go_enter Tryz.func24,Tryz.ntmps24
  go_wp2_with (first | ((with_reducible refine gN (N:=2) rfl ?_);(try (refine iF bK ?_;dsimp only));refine gH ?hg (N:=2) ?hd (cs:=#[.slice A0_0 l0_0.length c0_0,.slice A0_1 l0_1.length c0_1,.slice A0_2 l0_2.length c0_2,.slice A0_3 l0_3.length c0_3]) (t:=25) ?hr ?_;(case hd=>rfl);(case hg=>rfl);(case hr=>exact cL);intro gb186 hg w4 hbox hb;have BK186:=cH (hbox);have GW186:=cH ((by rw[hg];exact (eP bC):w.heap.size≤gb186));have GE186:=cH ((by rw[hg];exact (eP bC):w.heap.size≤gb186));replace HB:=cH (eB bC hb);clear hb hbox hg))
  go_ret;exact ⟨aC,aU⟩
 rw[if_neg c3] at H;have c3b0:=decide_eq_false c3;clear c3
 by_cases c5:a1≥(l0_0.length:Int)
 ·rw[if_pos c5] at H;have c5b0:=decide_eq_true c5;clear c5;obtain rfl:=Option.some.inj H;go_enter Tryz.func24,Tryz.ntmps24
  go_wp2_with (first | ((with_reducible refine gN (N:=2) rfl ?_);(try (refine iF bK ?_;dsimp only));refine gH ?hg (N:=2) ?hd (cs:=#[.slice A0_0 l0_0.length c0_0,.slice A0_1 l0_1.length c0_1,.slice A0_2 l0_2.length c0_2,.slice A0_3 l0_3.length c0_3]) (t:=25) ?hr ?_;(case hd=>rfl);(case hg=>rfl);(case hr=>exact cL);intro gb186 hg w6 hbox hb;have BK186:=cH (hbox);have GW186:=cH ((by rw[hg];exact (eP bC):w.heap.size≤gb186));have GE186:=cH ((by rw[hg];exact (eP bC):w.heap.size≤gb186));replace HB:=cH (eB bC hb);clear hb hbox hg;have hcz7_0:w6.cell? ⟨gb186,0,none⟩=some (.slice A0_0 l0_0.length c0_0):=(eG BK186.out 0).trans rfl;have hcz7_1:w6.cell? ⟨gb186,1,none⟩=some (.slice A0_1 l0_1.length c0_1):=(eG BK186.out 1).trans rfl;have hcz7_2:w6.cell? ⟨gb186,2,none⟩=some (.slice A0_2 l0_2.length c0_2):=(eG BK186.out 2).trans rfl;have hcz7_3:w6.cell? ⟨gb186,3,none⟩=some (.slice A0_3 l0_3.length c0_3):=(eG BK186.out 3).trans rfl;have hfz7_0:=eD BK186.out 0;have hfz7_1:=eD BK186.out 1;have hfz7_2:=eD BK186.out 2;have hfz7_3:=eD BK186.out 3))
  go_ret;exact ⟨aC,aU⟩
 rw[if_neg c5] at H;have c5b0:=decide_eq_false c5;clear c5
 by_cases c8:0≤a1
 ·rw[if_pos c8] at H;have c8b0:=decide_eq_true c8;clear c8
  by_cases c9:a1 < (l0_0.length:Int)
  ·rw[if_pos c9] at H;have c9b0:=decide_eq_true c9;clear c9;replace H:=Option.bind_eq_some_iff.mp H;obtain ⟨t188,A100,H⟩:=H;have A10:=cH A100;clear A100
   by_cases c11:t188=true
   ·subst c11;rw[if_pos rfl] at H;obtain rfl:=Option.some.inj H;go_enter Tryz.func24,Tryz.ntmps24
    go_wp2_with (first | ((with_reducible refine gN (N:=2) rfl ?_);(try (refine iF bK ?_;dsimp only));refine gH ?hg (N:=2) ?hd (cs:=#[.slice A0_0 l0_0.length c0_0,.slice A0_1 l0_1.length c0_1,.slice A0_2 l0_2.length c0_2,.slice A0_3 l0_3.length c0_3]) (t:=25) ?hr ?_;(case hd=>rfl);(case hg=>rfl);(case hr=>exact cL);intro gb186 hg w12 hbox hb;have BK186:=cH (hbox);have GW186:=cH ((by rw[hg];exact (eP bC):w.heap.size≤gb186));have GE186:=cH ((by rw[hg];exact (eP bC):w.heap.size≤gb186));replace HB:=cH (eB bC hb);clear hb hbox hg;have hcz13_0:w12.cell? ⟨gb186,0,none⟩=some (.slice A0_0 l0_0.length c0_0):=(eG BK186.out 0).trans rfl;have hcz13_1:w12.cell? ⟨gb186,1,none⟩=some (.slice A0_1 l0_1.length c0_1):=(eG BK186.out 1).trans rfl;have hcz13_2:w12.cell? ⟨gb186,2,none⟩=some (.slice A0_2 l0_2.length c0_2):=(eG BK186.out 2).trans rfl;have hcz13_3:w12.cell? ⟨gb186,3,none⟩=some (.slice A0_3 l0_3.length c0_3):=(eG BK186.out 3).trans rfl;have hfz13_0:=eD BK186.out 0;have hfz13_1:=eD BK186.out 1;have hfz13_2:=eD BK186.out 2;have hfz13_3:=eD BK186.out 3;have p187:0≤(a1:Int):=cG;have q187:a1 < (l0_0.length:Int):=cG;obtain ⟨ad187,e187,hx187_0⟩:=Kd.at_string HR0_0.out a1 p187 q187;cases e187;replace hx187_0:=(HB.out.cell (World.block_lt_of_cell? w _ hx187_0)).trans hx187_0;replace p187:=eq_true p187;replace q187:=eq_true q187) | (go_at_call 33;(with_reducible refine (fF.calls k (gE ByteArray.empty l0_0 a1) true _ A10.out).mono ?_);rintro e w14 ⟨rfl,hb⟩;replace BK186:=cH (gX (g:=gb186) (o:=.cells #[.slice (some ad187) l0_0.length c0_0,.slice A0_1 l0_1.length c0_1,.slice A0_2 l0_2.length c0_2,.slice A0_3 l0_3.length c0_3] 25 (0,0)) (by (with_reducible repeat (first | refine fO ?_ _ | refine fX ?_ | refine fN ?_ _));exact BK186.out) hb);replace HB:=cH (eB (by repeat (first | (with_reducible first | exact HB.out | apply fJ | apply fA | apply fM | refine gA ?_ GE186.out) | exact HB.out)) hb);(try clear hb);(try clear hb2);(try clear hk);(try clear hi);have hcz15_0:w14.cell? ⟨gb186,0,none⟩=some (.slice (some ad187) l0_0.length c0_0):=(eG BK186.out 0).trans rfl;have hcz15_1:w14.cell? ⟨gb186,1,none⟩=some (.slice A0_1 l0_1.length c0_1):=(eG BK186.out 1).trans rfl;have hcz15_2:w14.cell? ⟨gb186,2,none⟩=some (.slice A0_2 l0_2.length c0_2):=(eG BK186.out 2).trans rfl;have hcz15_3:w14.cell? ⟨gb186,3,none⟩=some (.slice A0_3 l0_3.length c0_3):=(eG BK186.out 3).trans rfl;have hfz15_0:=eD BK186.out 0;have hfz15_1:=eD BK186.out 1;have hfz15_2:=eD BK186.out 2;have hfz15_3:=eD BK186.out 3;have p189:0≤(a1:Int):=cG;have q189:a1 < (l0_0.length:Int):=cG;obtain ⟨ad189,e189,hx189_0⟩:=Kd.at_string HR0_0.out a1 p189 q189;obtain rfl:ad187=ad189:=(by injection e189);replace hx189_0:=(HB.out.cell (World.block_lt_of_cell? w _ hx189_0)).trans hx189_0;replace p189:=eq_true p189;replace q189:=eq_true q189))
    go_ret;exact ⟨aC,aU⟩
   replace c11:=Bool.eq_false_iff.mpr c11;subst c11;rw[if_neg (show ¬ (false=true) by decide)] at H;obtain rfl:=Option.some.inj H;go_enter Tryz.func24,Tryz.ntmps24
   go_wp2_with (first | ((with_reducible refine gN (N:=2) rfl ?_);(try (refine iF bK ?_;dsimp only));refine gH ?hg (N:=2) ?hd (cs:=#[.slice A0_0 l0_0.length c0_0,.slice A0_1 l0_1.length c0_1,.slice A0_2 l0_2.length c0_2,.slice A0_3 l0_3.length c0_3]) (t:=25) ?hr ?_;(case hd=>rfl);(case hg=>rfl);(case hr=>exact cL);intro gb186 hg w16 hbox hb;have BK186:=cH (hbox);have GW186:=cH ((by rw[hg];exact (eP bC):w.heap.size≤gb186));have GE186:=cH ((by rw[hg];exact (eP bC):w.heap.size≤gb186));replace HB:=cH (eB bC hb);clear hb hbox hg;have hcz17_0:w16.cell? ⟨gb186,0,none⟩=some (.slice A0_0 l0_0.length c0_0):=(eG BK186.out 0).trans rfl;have hcz17_1:w16.cell? ⟨gb186,1,none⟩=some (.slice A0_1 l0_1.length c0_1):=(eG BK186.out 1).trans rfl;have hcz17_2:w16.cell? ⟨gb186,2,none⟩=some (.slice A0_2 l0_2.length c0_2):=(eG BK186.out 2).trans rfl;have hcz17_3:w16.cell? ⟨gb186,3,none⟩=some (.slice A0_3 l0_3.length c0_3):=(eG BK186.out 3).trans rfl;have hfz17_0:=eD BK186.out 0;have hfz17_1:=eD BK186.out 1;have hfz17_2:=eD BK186.out 2;have hfz17_3:=eD BK186.out 3;have p187:0≤(a1:Int):=cG;have q187:a1 < (l0_0.length:Int):=cG;obtain ⟨ad187,e187,hx187_0⟩:=Kd.at_string HR0_0.out a1 p187 q187;cases e187;replace hx187_0:=(HB.out.cell (World.block_lt_of_cell? w _ hx187_0)).trans hx187_0;replace p187:=eq_true p187;replace q187:=eq_true q187) | (go_at_call 33;(with_reducible refine (fF.calls k (gE ByteArray.empty l0_0 a1) false _ A10.out).mono ?_);rintro e w18 ⟨rfl,hb⟩;replace BK186:=cH (gX (g:=gb186) (o:=.cells #[.slice (some ad187) l0_0.length c0_0,.slice A0_1 l0_1.length c0_1,.slice A0_2 l0_2.length c0_2,.slice A0_3 l0_3.length c0_3] 25 (0,0)) (by (with_reducible repeat (first | refine fO ?_ _ | refine fX ?_ | refine fN ?_ _));exact BK186.out) hb);replace HB:=cH (eB (by repeat (first | (with_reducible first | exact HB.out | apply fJ | apply fA | apply fM | refine gA ?_ GE186.out) | exact HB.out)) hb);(try clear hb);(try clear hb2);(try clear hk);(try clear hi)))
   go_ret;exact ⟨aC,aU⟩
  rw[if_neg c9] at H;exact absurd H bJ
 rw[if_neg c8] at H;exact absurd H bJ
def kW.f (k:Nat) (l0_0:List ByteArray) (l0_1:List ByteArray) (l0_2:List (S46)) (l0_3:List ByteArray) (a1:Int):Option (ByteArray):=if a1 < 0 then (some (⟨#[]⟩:ByteArray)) else (if a1≥(l0_3.length:Int) then (some (⟨#[]⟩:ByteArray)) else (if 0≤a1 then (if a1 < (l0_3.length:Int) then ((fF.f k (gE ByteArray.empty l0_3 a1)).bind fun t192=>(if t192=true then (some (gE ByteArray.empty l0_3 a1)) else (some (⟨#[]⟩:ByteArray)))) else (none)) else (none)))
theorem kW.mono:∀ a0 a1 a2 a3 a4 k,LeO (kW.f k a0 a1 a2 a3 a4) (kW.f (k+1) a0 a1 a2 a3 a4):=by
 intro a0 a1 a2 a3 a4 k;unfold kW.f
 exact dK
theorem kW.calls (k:Nat) (A0_0:Option Addr) (c0_0:Nat) (l0_0:List ByteArray) (A0_1:Option Addr) (c0_1:Nat) (l0_1:List ByteArray) (A0_2:Option Addr) (c0_2:Nat) (l0_2:List (S46)) (A0_3:Option Addr) (c0_3:Nat) (l0_3:List ByteArray) (a1:Int) (r:ByteArray) (w:World) (hr0_0:Kd.C Kd.string w A0_0 l0_0.length l0_0) (hc0_0:l0_0.length≤c0_0) (hr0_1:Kd.C Kd.string w A0_1 l0_1.length l0_1) (hc0_1:l0_1.length≤c0_1) (hr0_2:Kd.C k46 w A0_2 l0_2.length l0_2) (hc0_2:l0_2.length≤c0_2) (hr0_3:Kd.C Kd.string w A0_3 l0_3.length l0_3) (hc0_3:l0_3.length≤c0_3) (h:kW.f k l0_0 l0_1 l0_2 l0_3 a1=some r) :
 Calls Tryz.prog 25 #[.agg #[.slice A0_0 l0_0.length c0_0,.slice A0_1 l0_1.length c0_1,.slice A0_2 l0_2.length c0_2,.slice A0_3 l0_3.length c0_3],.int .i64 a1] w fun e w'=>e = .returned (.string r)∧Below w.heap.size w w':=by
 have hu25:=Tryz.underlying25;have HR0_0:=cH hr0_0;have HC0_0:=cH hc0_0;clear hr0_0 hc0_0;have HR0_1:=cH hr0_1;have HC0_1:=cH hc0_1;clear hr0_1 hc0_1;have HR0_2:=cH hr0_2;have HC0_2:=cH hc0_2;clear hr0_2 hc0_2;have HR0_3:=cH hr0_3;have HC0_3:=cH hc0_3;clear hr0_3 hc0_3;have HB:=cH (Below.refl w.heap.size w);unfold kW.f at h;have H:=h;clear h
 by_cases c3:a1 < 0
 ·rw[if_pos c3] at H;have c3b0:=decide_eq_true c3;clear c3;obtain rfl:=Option.some.inj H;go_enter Tryz.func25,Tryz.ntmps25
  go_wp2_with (first | ((with_reducible refine gN (N:=2) rfl ?_);(try (refine iF bK ?_;dsimp only));refine gH ?hg (N:=2) ?hd (cs:=#[.slice A0_0 l0_0.length c0_0,.slice A0_1 l0_1.length c0_1,.slice A0_2 l0_2.length c0_2,.slice A0_3 l0_3.length c0_3]) (t:=25) ?hr ?_;(case hd=>rfl);(case hg=>rfl);(case hr=>exact cL);intro gb190 hg w4 hbox hb;have BK190:=cH (hbox);have GW190:=cH ((by rw[hg];exact (eP bC):w.heap.size≤gb190));have GE190:=cH ((by rw[hg];exact (eP bC):w.heap.size≤gb190));replace HB:=cH (eB bC hb);clear hb hbox hg))
  go_ret;exact ⟨aC,aV⟩
 rw[if_neg c3] at H;have c3b0:=decide_eq_false c3;clear c3
 by_cases c5:a1≥(l0_3.length:Int)
 ·rw[if_pos c5] at H;have c5b0:=decide_eq_true c5;clear c5;obtain rfl:=Option.some.inj H;go_enter Tryz.func25,Tryz.ntmps25
  go_wp2_with (first | ((with_reducible refine gN (N:=2) rfl ?_);(try (refine iF bK ?_;dsimp only));refine gH ?hg (N:=2) ?hd (cs:=#[.slice A0_0 l0_0.length c0_0,.slice A0_1 l0_1.length c0_1,.slice A0_2 l0_2.length c0_2,.slice A0_3 l0_3.length c0_3]) (t:=25) ?hr ?_;(case hd=>rfl);(case hg=>rfl);(case hr=>exact cL);intro gb190 hg w6 hbox hb;have BK190:=cH (hbox);have GW190:=cH ((by rw[hg];exact (eP bC):w.heap.size≤gb190));have GE190:=cH ((by rw[hg];exact (eP bC):w.heap.size≤gb190));replace HB:=cH (eB bC hb);clear hb hbox hg;have hcz7_0:w6.cell? ⟨gb190,0,none⟩=some (.slice A0_0 l0_0.length c0_0):=(eG BK190.out 0).trans rfl;have hcz7_1:w6.cell? ⟨gb190,1,none⟩=some (.slice A0_1 l0_1.length c0_1):=(eG BK190.out 1).trans rfl;have hcz7_2:w6.cell? ⟨gb190,2,none⟩=some (.slice A0_2 l0_2.length c0_2):=(eG BK190.out 2).trans rfl;have hcz7_3:w6.cell? ⟨gb190,3,none⟩=some (.slice A0_3 l0_3.length c0_3):=(eG BK190.out 3).trans rfl;have hfz7_0:=eD BK190.out 0;have hfz7_1:=eD BK190.out 1;have hfz7_2:=eD BK190.out 2;have hfz7_3:=eD BK190.out 3))
  go_ret;exact ⟨aC,aV⟩
 rw[if_neg c5] at H;have c5b0:=decide_eq_false c5;clear c5
 by_cases c8:0≤a1
 ·rw[if_pos c8] at H;have c8b0:=decide_eq_true c8;clear c8
  by_cases c9:a1 < (l0_3.length:Int)
  ·rw[if_pos c9] at H;have c9b0:=decide_eq_true c9;clear c9;replace H:=Option.bind_eq_some_iff.mp H;obtain ⟨t192,A100,H⟩:=H;have A10:=cH A100;clear A100
   by_cases c11:t192=true
   ·subst c11;rw[if_pos rfl] at H;obtain rfl:=Option.some.inj H;go_enter Tryz.func25,Tryz.ntmps25
    go_wp2_with (first | ((with_reducible refine gN (N:=2) rfl ?_);(try (refine iF bK ?_;dsimp only));refine gH ?hg (N:=2) ?hd (cs:=#[.slice A0_0 l0_0.length c0_0,.slice A0_1 l0_1.length c0_1,.slice A0_2 l0_2.length c0_2,.slice A0_3 l0_3.length c0_3]) (t:=25) ?hr ?_;(case hd=>rfl);(case hg=>rfl);(case hr=>exact cL);intro gb190 hg w12 hbox hb;have BK190:=cH (hbox);have GW190:=cH ((by rw[hg];exact (eP bC):w.heap.size≤gb190));have GE190:=cH ((by rw[hg];exact (eP bC):w.heap.size≤gb190));replace HB:=cH (eB bC hb);clear hb hbox hg;have hcz13_0:w12.cell? ⟨gb190,0,none⟩=some (.slice A0_0 l0_0.length c0_0):=(eG BK190.out 0).trans rfl;have hcz13_1:w12.cell? ⟨gb190,1,none⟩=some (.slice A0_1 l0_1.length c0_1):=(eG BK190.out 1).trans rfl;have hcz13_2:w12.cell? ⟨gb190,2,none⟩=some (.slice A0_2 l0_2.length c0_2):=(eG BK190.out 2).trans rfl;have hcz13_3:w12.cell? ⟨gb190,3,none⟩=some (.slice A0_3 l0_3.length c0_3):=(eG BK190.out 3).trans rfl;have hfz13_0:=eD BK190.out 0;have hfz13_1:=eD BK190.out 1;have hfz13_2:=eD BK190.out 2;have hfz13_3:=eD BK190.out 3;have p191:0≤(a1:Int):=cG;have q191:a1 < (l0_3.length:Int):=cG;obtain ⟨ad191,e191,hx191_0⟩:=Kd.at_string HR0_3.out a1 p191 q191;cases e191;replace hx191_0:=(HB.out.cell (World.block_lt_of_cell? w _ hx191_0)).trans hx191_0;replace p191:=eq_true p191;replace q191:=eq_true q191) | (go_at_call 33;(with_reducible refine (fF.calls k (gE ByteArray.empty l0_3 a1) true _ A10.out).mono ?_);rintro e w14 ⟨rfl,hb⟩;replace BK190:=cH (gX (g:=gb190) (o:=.cells #[.slice A0_0 l0_0.length c0_0,.slice A0_1 l0_1.length c0_1,.slice A0_2 l0_2.length c0_2,.slice (some ad191) l0_3.length c0_3] 25 (0,0)) (by (with_reducible repeat (first | refine fO ?_ _ | refine fX ?_ | refine fN ?_ _));exact BK190.out) hb);replace HB:=cH (eB (by repeat (first | (with_reducible first | exact HB.out | apply fJ | apply fA | apply fM | refine gA ?_ GE190.out) | exact HB.out)) hb);(try clear hb);(try clear hb2);(try clear hk);(try clear hi);have hcz15_0:w14.cell? ⟨gb190,0,none⟩=some (.slice A0_0 l0_0.length c0_0):=(eG BK190.out 0).trans rfl;have hcz15_1:w14.cell? ⟨gb190,1,none⟩=some (.slice A0_1 l0_1.length c0_1):=(eG BK190.out 1).trans rfl;have hcz15_2:w14.cell? ⟨gb190,2,none⟩=some (.slice A0_2 l0_2.length c0_2):=(eG BK190.out 2).trans rfl;have hcz15_3:w14.cell? ⟨gb190,3,none⟩=some (.slice (some ad191) l0_3.length c0_3):=(eG BK190.out 3).trans rfl;have hfz15_0:=eD BK190.out 0;have hfz15_1:=eD BK190.out 1;have hfz15_2:=eD BK190.out 2;have hfz15_3:=eD BK190.out 3;have p193:0≤(a1:Int):=cG;have q193:a1 < (l0_3.length:Int):=cG;obtain ⟨ad193,e193,hx193_0⟩:=Kd.at_string HR0_3.out a1 p193 q193;obtain rfl:ad191=ad193:=(by injection e193);replace hx193_0:=(HB.out.cell (World.block_lt_of_cell? w _ hx193_0)).trans hx193_0;replace p193:=eq_true p193;replace q193:=eq_true q193))
    go_ret;exact ⟨aC,aV⟩
   replace c11:=Bool.eq_false_iff.mpr c11;subst c11;rw[if_neg (show ¬ (false=true) by decide)] at H;obtain rfl:=Option.some.inj H;go_enter Tryz.func25,Tryz.ntmps25
   go_wp2_with (first | ((with_reducible refine gN (N:=2) rfl ?_);(try (refine iF bK ?_;dsimp only));refine gH ?hg (N:=2) ?hd (cs:=#[.slice A0_0 l0_0.length c0_0,.slice A0_1 l0_1.length c0_1,.slice A0_2 l0_2.length c0_2,.slice A0_3 l0_3.length c0_3]) (t:=25) ?hr ?_;(case hd=>rfl);(case hg=>rfl);(case hr=>exact cL);intro gb190 hg w16 hbox hb;have BK190:=cH (hbox);have GW190:=cH ((by rw[hg];exact (eP bC):w.heap.size≤gb190));have GE190:=cH ((by rw[hg];exact (eP bC):w.heap.size≤gb190));replace HB:=cH (eB bC hb);clear hb hbox hg;have hcz17_0:w16.cell? ⟨gb190,0,none⟩=some (.slice A0_0 l0_0.length c0_0):=(eG BK190.out 0).trans rfl;have hcz17_1:w16.cell? ⟨gb190,1,none⟩=some (.slice A0_1 l0_1.length c0_1):=(eG BK190.out 1).trans rfl;have hcz17_2:w16.cell? ⟨gb190,2,none⟩=some (.slice A0_2 l0_2.length c0_2):=(eG BK190.out 2).trans rfl;have hcz17_3:w16.cell? ⟨gb190,3,none⟩=some (.slice A0_3 l0_3.length c0_3):=(eG BK190.out 3).trans rfl;have hfz17_0:=eD BK190.out 0;have hfz17_1:=eD BK190.out 1;have hfz17_2:=eD BK190.out 2;have hfz17_3:=eD BK190.out 3;have p191:0≤(a1:Int):=cG;have q191:a1 < (l0_3.length:Int):=cG;obtain ⟨ad191,e191,hx191_0⟩:=Kd.at_string HR0_3.out a1 p191 q191;cases e191;replace hx191_0:=(HB.out.cell (World.block_lt_of_cell? w _ hx191_0)).trans hx191_0;replace p191:=eq_true p191;replace q191:=eq_true q191) | (go_at_call 33;(with_reducible refine (fF.calls k (gE ByteArray.empty l0_3 a1) false _ A10.out).mono ?_);rintro e w18 ⟨rfl,hb⟩;replace BK190:=cH (gX (g:=gb190) (o:=.cells #[.slice A0_0 l0_0.length c0_0,.slice A0_1 l0_1.length c0_1,.slice A0_2 l0_2.length c0_2,.slice (some ad191) l0_3.length c0_3] 25 (0,0)) (by (with_reducible repeat (first | refine fO ?_ _ | refine fX ?_ | refine fN ?_ _));exact BK190.out) hb);replace HB:=cH (eB (by repeat (first | (with_reducible first | exact HB.out | apply fJ | apply fA | apply fM | refine gA ?_ GE190.out) | exact HB.out)) hb);(try clear hb);(try clear hb2);(try clear hk);(try clear hi)))
   go_ret;exact ⟨aC,aV⟩
  rw[if_neg c9] at H;exact absurd H bJ
 rw[if_neg c8] at H;exact absurd H bJ
def gI.l0:Nat→ByteArray→List (S46)→Int→Int→List ByteArray→List ByteArray→List (S46)→List ByteArray→Option (Bool)
 | 0,_,_,_,_,_,_,_,_=>none
 | k+1,x1,x8,x9,x10,x195000,x195001,x195002,x195003=>if x10 < x9 then (if 0≤x10 then (if x10 < (x8.length:Int) then (if ((hJ x8 x10).f0).toList=x1.toList then (some true) else (gI.l0 k x1 x8 x9 (wrap64 (x10+1)) x195000 x195001 x195002 x195003)) else (none)) else (none)) else ((fU.f k x195000 x1).bind fun t197=>(if t197=true then (some true) else ((fU.f k x195001 x1).bind fun t198=>(some t198))))
def gI.f (k:Nat) (l0_0:List ByteArray) (l0_1:List ByteArray) (l0_2:List (S46)) (l0_3:List ByteArray) (a1:ByteArray):Option (Bool):=gI.l0 k a1 l0_2 (l0_2.length:Int) 0 l0_0 l0_1 l0_2 l0_3
theorem gI.mono_l:∀ k,(∀ y0 y1 y2 y3 y4 y5 y6 y7,LeO (gI.l0 k y0 y1 y2 y3 y4 y5 y6 y7) (gI.l0 (k+1) y0 y1 y2 y3 y4 y5 y6 y7))
 | 0=>fun _ _ _ _ _ _ _ _ r h=>by simp[gI.l0] at h
 | k+1=>by
  have ih0:=gI.mono_l k
  intro y0 y1 y2 y3 y4 y5 y6 y7;unfold gI.l0
  exact dL
theorem gI.mono:∀ a0 a1 a2 a3 a4 k,LeO (gI.f k a0 a1 a2 a3 a4) (gI.f (k+1) a0 a1 a2 a3 a4):=by
 intro a0 a1 a2 a3 a4 k;have ih0:=gI.mono_l k;unfold gI.f
 exact dL
theorem gI.calls (k:Nat) (A0_0:Option Addr) (c0_0:Nat) (l0_0:List ByteArray) (A0_1:Option Addr) (c0_1:Nat) (l0_1:List ByteArray) (A0_2:Option Addr) (c0_2:Nat) (l0_2:List (S46)) (A0_3:Option Addr) (c0_3:Nat) (l0_3:List ByteArray) (a1:ByteArray) (r:Bool) (w:World) (hr0_0:Kd.C Kd.string w A0_0 l0_0.length l0_0) (hc0_0:l0_0.length≤c0_0) (hr0_1:Kd.C Kd.string w A0_1 l0_1.length l0_1) (hc0_1:l0_1.length≤c0_1) (hr0_2:Kd.C k46 w A0_2 l0_2.length l0_2) (hc0_2:l0_2.length≤c0_2) (hr0_3:Kd.C Kd.string w A0_3 l0_3.length l0_3) (hc0_3:l0_3.length≤c0_3) (h:gI.f k l0_0 l0_1 l0_2 l0_3 a1=some r) :
 Calls Tryz.prog 27 #[.agg #[.slice A0_0 l0_0.length c0_0,.slice A0_1 l0_1.length c0_1,.slice A0_2 l0_2.length c0_2,.slice A0_3 l0_3.length c0_3],.string a1] w fun e w'=>e = .returned (.bool r)∧Below w.heap.size w w':=by
 have hu25:=Tryz.underlying25;have hu46:=Tryz.underlying46;have HR0_0:=cH hr0_0;have HC0_0:=cH hc0_0;clear hr0_0 hc0_0;have HR0_1:=cH hr0_1;have HC0_1:=cH hc0_1;clear hr0_1 hc0_1;have HR0_2:=cH hr0_2;have HC0_2:=cH hc0_2;clear hr0_2 hc0_2;have HR0_3:=cH hr0_3;have HC0_3:=cH hc0_3;clear hr0_3 hc0_3;have HB:=cH (Below.refl w.heap.size w);unfold gI.f at h;have H:=h;clear h;have H':=cH H;clear H;go_enter Tryz.func27,Tryz.ntmps27
 go_wp2_with (first | ((with_reducible refine gN (N:=2) rfl ?_);refine gH ?hg (N:=2) ?hd (cs:=#[.slice A0_0 l0_0.length c0_0,.slice A0_1 l0_1.length c0_1,.slice A0_2 l0_2.length c0_2,.slice A0_3 l0_3.length c0_3]) (t:=25) ?hr ?_;(case hd=>rfl);(case hg=>rfl);(case hr=>exact cL);intro gb194 hg w3 hbox hb;have BK194:=cH (hbox);have GW194:=cH ((by rw[hg];exact (eP bC):w.heap.size≤gb194));have GE194:=cH ((by rw[hg];exact (eP bC):w.heap.size≤gb194));replace HB:=cH (eB bC hb);clear hb hbox hg;have hcz4_0:w3.cell? ⟨gb194,0,none⟩=some (.slice A0_0 l0_0.length c0_0):=(eG BK194.out 0).trans rfl;have hcz4_1:w3.cell? ⟨gb194,1,none⟩=some (.slice A0_1 l0_1.length c0_1):=(eG BK194.out 1).trans rfl;have hcz4_2:w3.cell? ⟨gb194,2,none⟩=some (.slice A0_2 l0_2.length c0_2):=(eG BK194.out 2).trans rfl;have hcz4_3:w3.cell? ⟨gb194,3,none⟩=some (.slice A0_3 l0_3.length c0_3):=(eG BK194.out 3).trans rfl;have hfz4_0:=eD BK194.out 0;have hfz4_1:=eD BK194.out 1;have hfz4_2:=eD BK194.out 2;have hfz4_3:=eD BK194.out 3))
 go_loopg [10] k (fun kq v10 w'=>∃ (x10_1:Int),v10 = .int .i64 x10_1∧Aside0 (gI.l0 kq a1 l0_2 (l0_2.length:Int) x10_1 l0_0 l0_1 l0_2 l0_3=some r)∧Aside0 (kq≤k)∧Aside0 (w'.heap[gb194]? = some (.cells #[(.slice A0_0 l0_0.length c0_0),(.slice A0_1 l0_1.length c0_1),(.slice A0_2 l0_2.length c0_2),(.slice A0_3 l0_3.length c0_3)] 25 (0,0)))∧Aside0 (Below w.heap.size w w'))
 case atStart=>exact ⟨(0),bE,H',⟨Nat.le_refl _⟩,⟨by (with_reducible repeat (first | refine fO ?_ _ | refine fX ?_ | refine fN ?_ _));exact BK194.out⟩,⟨aY⟩⟩
 case round =>
  clear H'
  (try clear hcz4_0);(try clear hcz4_1);(try clear hcz4_2);(try clear hcz4_3);(try clear hfz4_0);(try clear hfz4_1);(try clear hfz4_2);(try clear hfz4_3)
  obtain ⟨x10_1,rfl,HA,HK1,BK194,HB⟩:=hrel
  cases gk with
  | zero=>exact absurd HA.out (by simp[gI.l0])
  | succ k1 =>
   have H:=HA.out;clear HA;simp only[gI.l0] at H
   by_cases c5:x10_1 < (l0_2.length:Int)
   ·rw[if_pos c5] at H;have c5b0:=decide_eq_true c5;clear c5
    by_cases c6:0≤x10_1
    ·rw[if_pos c6] at H;have c6b0:=decide_eq_true c6;clear c6
     by_cases c7:x10_1 < (l0_2.length:Int)
     ·rw[if_pos c7] at H;have c7b0:=decide_eq_true c7;clear c7
      by_cases c8:((hJ l0_2 x10_1).f0).toList=a1.toList
      ·rw[if_pos c8] at H;have c8b0:=beq_iff_eq.mpr c8;have c8b1:=bne_eq_false_iff_eq.mpr c8;clear c8;obtain rfl:=Option.some.inj H;have p195:0≤(x10_1:Int):=cG;have q195:x10_1 < (l0_2.length:Int):=cG;obtain ⟨ad195,e195,hx195_0,hx195_1⟩:=nG HR0_2.out x10_1 p195 q195;cases e195;replace hx195_0:=(HB.out.cell (World.block_lt_of_cell? w _ hx195_0)).trans hx195_0;replace hx195_1:=(HB.out.cell (World.block_lt_of_cell? w _ hx195_1)).trans hx195_1;replace p195:=eq_true p195;replace q195:=eq_true q195
       go_wp2_with (first | ((with_reducible refine gN (N:=6) rfl ?_);refine gH ?hg (N:=6) ?hd (cs:=#[.string (⟨#[]⟩:ByteArray),.string (⟨#[]⟩:ByteArray)]) (t:=46) ?hr ?_;(case hd=>rfl);(case hg=>rfl);(case hr=>exact cL);intro gb196 hg w9 hbox hb;have n0_:=cH (gX (g:=gb194) (o:=.cells #[.slice A0_0 l0_0.length c0_0,.slice A0_1 l0_1.length c0_1,.slice (some ad195) l0_2.length c0_2,.slice A0_3 l0_3.length c0_3] 25 (0,0)) (by (with_reducible repeat (first | refine fO ?_ _ | refine fX ?_ | refine fN ?_ _));exact BK194.out) hb);have n1_:=cH (eB (by repeat (first | (with_reducible first | exact HB.out | apply fJ | apply fA | apply fM | refine gA ?_ GE194.out) | exact HB.out)) hb);have n2_:=cH (hbox);have n3_:=cH ((by rw[hg];exact (eP (by repeat (first | (with_reducible first | exact HB.out | apply fJ | apply fA | apply fM | refine gA ?_ GE194.out) | exact HB.out))):w.heap.size≤gb196));have n4_:=cH ((by rw[hg];exact (eP (by repeat (first | (with_reducible first | exact HB.out | apply fJ | apply fA | apply fM | refine gA ?_ GE194.out) | exact HB.out))):w.heap.size≤gb196));have n5_:=cH ((by rw[hg];exact Nat.ne_of_lt (pU (g:=gb194) (o:=.cells #[.slice A0_0 l0_0.length c0_0,.slice A0_1 l0_1.length c0_1,.slice (some ad195) l0_2.length c0_2,.slice A0_3 l0_3.length c0_3] 25 (0,0)) (by (with_reducible repeat (first | refine fO ?_ _ | refine fX ?_ | refine fN ?_ _));exact BK194.out)):gb194≠gb196));have n6_:=cH ((by rw[hg];exact Nat.ne_of_gt (pU (g:=gb194) (o:=.cells #[.slice A0_0 l0_0.length c0_0,.slice A0_1 l0_1.length c0_1,.slice (some ad195) l0_2.length c0_2,.slice A0_3 l0_3.length c0_3] 25 (0,0)) (by (with_reducible repeat (first | refine fO ?_ _ | refine fX ?_ | refine fN ?_ _));exact BK194.out)):gb196≠gb194));clear BK194;clear HB;have BK194:=n0_;have HB:=n1_;have BK196:=n2_;have GW196:=n3_;have GE196:=n4_;have NB194_196:=n5_;have NB196_194:=n6_;clear n0_ n1_ n2_ n3_ n4_ n5_ n6_;clear hb hbox hg;have hnb10:=NB196_194.out;have hnc10:=NB194_196.out;have hcz11_0:w9.cell? ⟨gb196,0,none⟩=some (.string (⟨#[]⟩:ByteArray)):=(eG BK196.out 0).trans rfl;have hcz11_1:w9.cell? ⟨gb196,1,none⟩=some (.string (⟨#[]⟩:ByteArray)):=(eG BK196.out 1).trans rfl;have hfz11_0:=eD BK196.out 0;have hfz11_1:=eD BK196.out 1))
       go_ret;exact ⟨aC,dN⟩
      rw[if_neg c8] at H;have c8b0:=beq_eq_false_iff_ne.mpr c8;have c8b1:=bne_iff_ne.mpr c8;have H':=cH H;clear H;have p195:0≤(x10_1:Int):=cG;have q195:x10_1 < (l0_2.length:Int):=cG;obtain ⟨ad195,e195,hx195_0,hx195_1⟩:=nG HR0_2.out x10_1 p195 q195;cases e195;replace hx195_0:=(HB.out.cell (World.block_lt_of_cell? w _ hx195_0)).trans hx195_0;replace hx195_1:=(HB.out.cell (World.block_lt_of_cell? w _ hx195_1)).trans hx195_1;replace p195:=eq_true p195;replace q195:=eq_true q195
      go_wp2_with (first | ((with_reducible refine gN (N:=6) rfl ?_);refine gH ?hg (N:=6) ?hd (cs:=#[.string (⟨#[]⟩:ByteArray),.string (⟨#[]⟩:ByteArray)]) (t:=46) ?hr ?_;(case hd=>rfl);(case hg=>rfl);(case hr=>exact cL);intro gb196 hg w12 hbox hb;have n0_:=cH (gX (g:=gb194) (o:=.cells #[.slice A0_0 l0_0.length c0_0,.slice A0_1 l0_1.length c0_1,.slice (some ad195) l0_2.length c0_2,.slice A0_3 l0_3.length c0_3] 25 (0,0)) (by (with_reducible repeat (first | refine fO ?_ _ | refine fX ?_ | refine fN ?_ _));exact BK194.out) hb);have n1_:=cH (eB (by repeat (first | (with_reducible first | exact HB.out | apply fJ | apply fA | apply fM | refine gA ?_ GE194.out) | exact HB.out)) hb);have n2_:=cH (hbox);have n3_:=cH ((by rw[hg];exact (eP (by repeat (first | (with_reducible first | exact HB.out | apply fJ | apply fA | apply fM | refine gA ?_ GE194.out) | exact HB.out))):w.heap.size≤gb196));have n4_:=cH ((by rw[hg];exact (eP (by repeat (first | (with_reducible first | exact HB.out | apply fJ | apply fA | apply fM | refine gA ?_ GE194.out) | exact HB.out))):w.heap.size≤gb196));have n5_:=cH ((by rw[hg];exact Nat.ne_of_lt (pU (g:=gb194) (o:=.cells #[.slice A0_0 l0_0.length c0_0,.slice A0_1 l0_1.length c0_1,.slice (some ad195) l0_2.length c0_2,.slice A0_3 l0_3.length c0_3] 25 (0,0)) (by (with_reducible repeat (first | refine fO ?_ _ | refine fX ?_ | refine fN ?_ _));exact BK194.out)):gb194≠gb196));have n6_:=cH ((by rw[hg];exact Nat.ne_of_gt (pU (g:=gb194) (o:=.cells #[.slice A0_0 l0_0.length c0_0,.slice A0_1 l0_1.length c0_1,.slice (some ad195) l0_2.length c0_2,.slice A0_3 l0_3.length c0_3] 25 (0,0)) (by (with_reducible repeat (first | refine fO ?_ _ | refine fX ?_ | refine fN ?_ _));exact BK194.out)):gb196≠gb194));clear BK194;clear HB;have BK194:=n0_;have HB:=n1_;have BK196:=n2_;have GW196:=n3_;have GE196:=n4_;have NB194_196:=n5_;have NB196_194:=n6_;clear n0_ n1_ n2_ n3_ n4_ n5_ n6_;clear hb hbox hg;have hnb13:=NB196_194.out;have hnc13:=NB194_196.out;have hcz14_0:w12.cell? ⟨gb196,0,none⟩=some (.string (⟨#[]⟩:ByteArray)):=(eG BK196.out 0).trans rfl;have hcz14_1:w12.cell? ⟨gb196,1,none⟩=some (.string (⟨#[]⟩:ByteArray)):=(eG BK196.out 1).trans rfl;have hfz14_0:=eD BK196.out 0;have hfz14_1:=eD BK196.out 1))
      go_roundg k1
      case measure=>have:=HK1.out;omega
      case rel=>exact ⟨(wrap64 (x10_1+1)),bE,H',⟨aT⟩,⟨by (with_reducible repeat (first | refine fO ?_ _ | refine fX ?_ | refine fN ?_ _));refine wG ?_ NB194_196.out _;(with_reducible repeat (first | refine fO ?_ _ | refine fX ?_ | refine fN ?_ _));refine wG ?_ NB194_196.out _;(with_reducible repeat (first | refine fO ?_ _ | refine fX ?_ | refine fN ?_ _));exact BK194.out⟩,⟨dN⟩⟩
     rw[if_neg c7] at H;exact absurd H bJ
    rw[if_neg c6] at H;exact absurd H bJ
   rw[if_neg c5] at H;have c5b0:=decide_eq_false c5;clear c5;replace H:=Option.bind_eq_some_iff.mp H;obtain ⟨t197,A150,H⟩:=H;have A15:=cH A150;clear A150
   by_cases c16:t197=true
   ·subst c16;rw[if_pos rfl] at H;obtain rfl:=Option.some.inj H;have hcz17_0:wr.cell? ⟨gb194,0,none⟩=some (.slice A0_0 l0_0.length c0_0):=(eG BK194.out 0).trans rfl;have hcz17_1:wr.cell? ⟨gb194,1,none⟩=some (.slice A0_1 l0_1.length c0_1):=(eG BK194.out 1).trans rfl;have hcz17_2:wr.cell? ⟨gb194,2,none⟩=some (.slice A0_2 l0_2.length c0_2):=(eG BK194.out 2).trans rfl;have hcz17_3:wr.cell? ⟨gb194,3,none⟩=some (.slice A0_3 l0_3.length c0_3):=(eG BK194.out 3).trans rfl;have hfz17_0:=eD BK194.out 0;have hfz17_1:=eD BK194.out 1;have hfz17_2:=eD BK194.out 2;have hfz17_3:=eD BK194.out 3
    go_wp2_with (first | ((with_reducible refine fE (f:=34) rfl ?_);refine gP (some 22) rfl rfl Tryz.func34 bB rfl #[.slice A0_0 l0_0.length c0_0,.string a1] rfl bD ?_;(with_reducible refine (fU.calls k1 _ _ l0_0 a1 true _ ?side1 ?side2 A15.out).mono ?_);(case side1=>exact cM);(case side2=>exact HC0_0.out);rintro e w' ⟨rfl,⟨nd,rfl⟩⟩;refine ⟨_,rfl,?_⟩))
    go_ret;exact ⟨aC,aY⟩
   replace c16:=Bool.eq_false_iff.mpr c16;subst c16;rw[if_neg (show ¬ (false=true) by decide)] at H;replace H:=Option.bind_eq_some_iff.mp H;obtain ⟨t198,A180,H⟩:=H;have A18:=cH A180;clear A180;obtain rfl:=Option.some.inj H;have hcz19_0:wr.cell? ⟨gb194,0,none⟩=some (.slice A0_0 l0_0.length c0_0):=(eG BK194.out 0).trans rfl;have hcz19_1:wr.cell? ⟨gb194,1,none⟩=some (.slice A0_1 l0_1.length c0_1):=(eG BK194.out 1).trans rfl;have hcz19_2:wr.cell? ⟨gb194,2,none⟩=some (.slice A0_2 l0_2.length c0_2):=(eG BK194.out 2).trans rfl;have hcz19_3:wr.cell? ⟨gb194,3,none⟩=some (.slice A0_3 l0_3.length c0_3):=(eG BK194.out 3).trans rfl;have hfz19_0:=eD BK194.out 0;have hfz19_1:=eD BK194.out 1;have hfz19_2:=eD BK194.out 2;have hfz19_3:=eD BK194.out 3
   go_wp2_with (first | ((with_reducible refine fE (f:=34) rfl ?_);refine gP (some 22) rfl rfl Tryz.func34 bB rfl #[.slice A0_0 l0_0.length c0_0,.string a1] rfl bD ?_;(with_reducible refine (fU.calls k1 _ _ l0_0 a1 false _ ?side1 ?side2 A15.out).mono ?_);(case side1=>exact cM);(case side2=>exact HC0_0.out);rintro e w' ⟨rfl,⟨nd,rfl⟩⟩;refine ⟨_,rfl,?_⟩) | (go_at_call 34;(with_reducible refine (fU.calls k1 _ _ l0_1 a1 t198 _ ?side1 ?side2 A18.out).mono ?_);(case side1=>repeat (first | exact (Kd.C_below HR0_1.out (by repeat (first | (with_reducible first | exact HB.out | apply fJ | apply fA | apply fM | refine gA ?_ GE194.out) | exact HB.out))) | (with_reducible refine Kd.C_alloc ?_ _) | (with_reducible refine Kd.C_drewN ?_ _) | (with_reducible refine Kd.C_drew ?_)));(case side2=>exact HC0_1.out);rintro e w' ⟨rfl,⟨nd,rfl⟩⟩))
   go_ret;exact ⟨aC,aY⟩
def lI.f (k:Nat) (l0_0:List ByteArray) (l0_1:List ByteArray) (l0_2:List (S46)) (l0_3:List ByteArray) (a1:ByteArray):Option (Bool):=(fF.f k a1).bind fun t200=>(if t200=true then ((gI.f k l0_0 l0_1 l0_2 l0_3 a1).bind fun t201=>(some (!t201))) else (some false))
theorem lI.mono:∀ a0 a1 a2 a3 a4 k,LeO (lI.f k a0 a1 a2 a3 a4) (lI.f (k+1) a0 a1 a2 a3 a4):=by
 intro a0 a1 a2 a3 a4 k;unfold lI.f
 repeat' first
  | (with_reducible exact gI.mono _ _ _ _ _ _)
  | (with_reducible exact fF.mono _ _)
  | (with_reducible exact LeO.refl _)
  | (with_reducible exact LeO.none _)
  | (with_reducible refine LeO.ite ?_ ?_)
  | (with_reducible refine LeO.bind ?_ (fun _=>?_))
  | exact gI.mono _ _ _ _ _ _
  | exact fF.mono _ _
  | exact LeO.none _
  | refine LeO.ite ?_ ?_
  | refine LeO.bind ?_ (fun _=>?_)
theorem lI.calls (k:Nat) (A0_0:Option Addr) (c0_0:Nat) (l0_0:List ByteArray) (A0_1:Option Addr) (c0_1:Nat) (l0_1:List ByteArray) (A0_2:Option Addr) (c0_2:Nat) (l0_2:List (S46)) (A0_3:Option Addr) (c0_3:Nat) (l0_3:List ByteArray) (a1:ByteArray) (r:Bool) (w:World) (hr0_0:Kd.C Kd.string w A0_0 l0_0.length l0_0) (hc0_0:l0_0.length≤c0_0) (hr0_1:Kd.C Kd.string w A0_1 l0_1.length l0_1) (hc0_1:l0_1.length≤c0_1) (hr0_2:Kd.C k46 w A0_2 l0_2.length l0_2) (hc0_2:l0_2.length≤c0_2) (hr0_3:Kd.C Kd.string w A0_3 l0_3.length l0_3) (hc0_3:l0_3.length≤c0_3) (h:lI.f k l0_0 l0_1 l0_2 l0_3 a1=some r) :
 Calls Tryz.prog 36 #[.agg #[.slice A0_0 l0_0.length c0_0,.slice A0_1 l0_1.length c0_1,.slice A0_2 l0_2.length c0_2,.slice A0_3 l0_3.length c0_3],.string a1] w fun e w'=>e = .returned (.bool r)∧Below w.heap.size w w':=by
 have hu25:=Tryz.underlying25;have HR0_0:=cH hr0_0;have HC0_0:=cH hc0_0;clear hr0_0 hc0_0;have HR0_1:=cH hr0_1;have HC0_1:=cH hc0_1;clear hr0_1 hc0_1;have HR0_2:=cH hr0_2;have HC0_2:=cH hc0_2;clear hr0_2 hc0_2;have HR0_3:=cH hr0_3;have HC0_3:=cH hc0_3;clear hr0_3 hc0_3;have HB:=cH (Below.refl w.heap.size w);unfold lI.f at h;have H:=h;clear h;replace H:=Option.bind_eq_some_iff.mp H;obtain ⟨t200,A30,H⟩:=H;have A3:=cH A30;clear A30
 by_cases c4:t200=true
 ·subst c4;rw[if_pos rfl] at H;replace H:=Option.bind_eq_some_iff.mp H;obtain ⟨t201,A50,H⟩:=H;have A5:=cH A50;clear A50;obtain rfl:=Option.some.inj H;go_enter Tryz.func36,Tryz.ntmps36
  go_wp2_with (first | ((with_reducible refine gN (N:=2) rfl ?_);refine gH ?hg (N:=2) ?hd (cs:=#[.slice A0_0 l0_0.length c0_0,.slice A0_1 l0_1.length c0_1,.slice A0_2 l0_2.length c0_2,.slice A0_3 l0_3.length c0_3]) (t:=25) ?hr ?_;(case hd=>rfl);(case hg=>rfl);(case hr=>exact cL);intro gb199 hg w6 hbox hb;have BK199:=cH (hbox);have GW199:=cH ((by rw[hg];exact (eP bC):w.heap.size≤gb199));have GE199:=cH ((by rw[hg];exact (eP bC):w.heap.size≤gb199));replace HB:=cH (eB bC hb);clear hb hbox hg) | ((with_reducible refine fE (f:=33) rfl ?_);refine gP (some 6) rfl rfl Tryz.func33 bB rfl #[.string a1] rfl bD ?_;(with_reducible refine (fF.calls k a1 true _ A3.out).mono ?_);rintro e w7 ⟨rfl,hb⟩;refine ⟨_,rfl,?_⟩;replace BK199:=cH (gX (g:=gb199) (o:=.cells #[.slice A0_0 l0_0.length c0_0,.slice A0_1 l0_1.length c0_1,.slice A0_2 l0_2.length c0_2,.slice A0_3 l0_3.length c0_3] 25 (0,0)) (by (with_reducible repeat (first | refine fO ?_ _ | refine fX ?_ | refine fN ?_ _));exact BK199.out) hb);replace HB:=cH (eB (by repeat (first | (with_reducible first | exact HB.out | apply fJ | apply fA | apply fM | refine gA ?_ GE199.out) | exact HB.out)) hb);(try clear hb);(try clear hb2);(try clear hk);(try clear hi);have hcz8_0:w7.cell? ⟨gb199,0,none⟩=some (.slice A0_0 l0_0.length c0_0):=(eG BK199.out 0).trans rfl;have hcz8_1:w7.cell? ⟨gb199,1,none⟩=some (.slice A0_1 l0_1.length c0_1):=(eG BK199.out 1).trans rfl;have hcz8_2:w7.cell? ⟨gb199,2,none⟩=some (.slice A0_2 l0_2.length c0_2):=(eG BK199.out 2).trans rfl;have hcz8_3:w7.cell? ⟨gb199,3,none⟩=some (.slice A0_3 l0_3.length c0_3):=(eG BK199.out 3).trans rfl;have hfz8_0:=eD BK199.out 0;have hfz8_1:=eD BK199.out 1;have hfz8_2:=eD BK199.out 2;have hfz8_3:=eD BK199.out 3) | (go_at_call 27;(with_reducible refine (gI.calls k _ _ l0_0 _ _ l0_1 _ _ l0_2 _ _ l0_3 a1 t201 _ ?side1 ?side2 ?side3 ?side4 ?side5 ?side6 ?side7 ?side8 A5.out).mono ?_);(case side1=>exact cM);(case side2=>exact HC0_0.out);(case side3=>exact cV);(case side4=>exact HC0_1.out);(case side5=>exact cW);(case side6=>exact HC0_2.out);(case side7=>exact cX);(case side8=>exact HC0_3.out);rintro e w9 ⟨rfl,hb⟩;replace BK199:=cH (gX (g:=gb199) (o:=.cells #[.slice A0_0 l0_0.length c0_0,.slice A0_1 l0_1.length c0_1,.slice A0_2 l0_2.length c0_2,.slice A0_3 l0_3.length c0_3] 25 (0,0)) (by (with_reducible repeat (first | refine fO ?_ _ | refine fX ?_ | refine fN ?_ _));exact BK199.out) hb);replace HB:=cH (eB (by repeat (first | (with_reducible first | exact HB.out | apply fJ | apply fA | apply fM | refine gA ?_ GE199.out) | exact HB.out)) hb);(try clear hb);(try clear hb2);(try clear hk);(try clear hi)))
  go_ret;exact ⟨aC,dP⟩
 replace c4:=Bool.eq_false_iff.mpr c4;subst c4;rw[if_neg (show ¬ (false=true) by decide)] at H;obtain rfl:=Option.some.inj H;go_enter Tryz.func36,Tryz.ntmps36
 go_wp2_with (first | ((with_reducible refine gN (N:=2) rfl ?_);refine gH ?hg (N:=2) ?hd (cs:=#[.slice A0_0 l0_0.length c0_0,.slice A0_1 l0_1.length c0_1,.slice A0_2 l0_2.length c0_2,.slice A0_3 l0_3.length c0_3]) (t:=25) ?hr ?_;(case hd=>rfl);(case hg=>rfl);(case hr=>exact cL);intro gb199 hg w10 hbox hb;have BK199:=cH (hbox);have GW199:=cH ((by rw[hg];exact (eP bC):w.heap.size≤gb199));have GE199:=cH ((by rw[hg];exact (eP bC):w.heap.size≤gb199));replace HB:=cH (eB bC hb);clear hb hbox hg) | ((with_reducible refine fE (f:=33) rfl ?_);refine gP (some 6) rfl rfl Tryz.func33 bB rfl #[.string a1] rfl bD ?_;(with_reducible refine (fF.calls k a1 false _ A3.out).mono ?_);rintro e w11 ⟨rfl,hb⟩;refine ⟨_,rfl,?_⟩;replace BK199:=cH (gX (g:=gb199) (o:=.cells #[.slice A0_0 l0_0.length c0_0,.slice A0_1 l0_1.length c0_1,.slice A0_2 l0_2.length c0_2,.slice A0_3 l0_3.length c0_3] 25 (0,0)) (by (with_reducible repeat (first | refine fO ?_ _ | refine fX ?_ | refine fN ?_ _));exact BK199.out) hb);replace HB:=cH (eB (by repeat (first | (with_reducible first | exact HB.out | apply fJ | apply fA | apply fM | refine gA ?_ GE199.out) | exact HB.out)) hb);(try clear hb);(try clear hb2);(try clear hk);(try clear hi)))
 go_ret;exact ⟨aC,dP⟩
end Go.Proofs.YtcdgldnphhidlaaGreatDoor.PCore
namespace Go.Proofs.YtcdgldnphhidlaaGreatDoor.PCore
open Go.RowKit Go.ZW.PrintWords Go.ZW.PrintLast Go.ZW.PrintMore
attribute [local go_sem] kF kH lE lF jR jS kG kI   -- for this text's walks alone
end Go.Proofs.YtcdgldnphhidlaaGreatDoor.PCore
namespace Go.Proofs.YtcdgldnphhidlaaGreatDoor.PCore
open Go.RowKit Go.ZW.PrintWords Go.ZW.PrintLast Go.ZW.PrintMore
attribute [local go_sem] kF kH lE lF jR jS kG kI   -- for this text's walks alone
end Go.Proofs.YtcdgldnphhidlaaGreatDoor.PCore
namespace Go.Proofs.YtcdgldnphhidlaaGreatDoor.PCore
open Go.RowKit Go.ZW.PrintWords Go.ZW.PrintLast Go.ZW.PrintMore
attribute [local go_sem] kF kH lE lF jR jS kG kI   -- for this text's walks alone
def iO.f (k:Nat) (l0_0:List ByteArray) (l0_1:List ByteArray) (l0_2:List (S46)) (l0_3:List ByteArray) (a1:ByteArray) (a2:ByteArray):Option (Bool):=(hU.f k l0_0 l0_1 l0_2 l0_3 a1 a2).bind fun t238=>(some t238)
theorem iO.mono:∀ a0 a1 a2 a3 a4 a5 k,LeO (iO.f k a0 a1 a2 a3 a4 a5) (iO.f (k+1) a0 a1 a2 a3 a4 a5):=by
 intro a0 a1 a2 a3 a4 a5 k;unfold iO.f
 repeat' first
  | (with_reducible exact hU.mono _ _ _ _ _ _ _)
  | (with_reducible exact LeO.refl _)
  | (with_reducible exact LeO.none _)
  | (with_reducible refine LeO.ite ?_ ?_)
  | (with_reducible refine LeO.bind ?_ (fun _=>?_))
  | exact hU.mono _ _ _ _ _ _ _
  | exact LeO.none _
  | refine LeO.ite ?_ ?_
  | refine LeO.bind ?_ (fun _=>?_)
theorem iO.calls (k:Nat) (A0_0:Option Addr) (c0_0:Nat) (l0_0:List ByteArray) (A0_1:Option Addr) (c0_1:Nat) (l0_1:List ByteArray) (A0_2:Option Addr) (c0_2:Nat) (l0_2:List (S46)) (A0_3:Option Addr) (c0_3:Nat) (l0_3:List ByteArray) (a1:ByteArray) (a2:ByteArray) (r:Bool) (w:World) (hr0_0:Kd.C Kd.string w A0_0 l0_0.length l0_0) (hc0_0:l0_0.length≤c0_0) (hr0_1:Kd.C Kd.string w A0_1 l0_1.length l0_1) (hc0_1:l0_1.length≤c0_1) (hr0_2:Kd.C k46 w A0_2 l0_2.length l0_2) (hc0_2:l0_2.length≤c0_2) (hr0_3:Kd.C Kd.string w A0_3 l0_3.length l0_3) (hc0_3:l0_3.length≤c0_3) (h:iO.f k l0_0 l0_1 l0_2 l0_3 a1 a2=some r) :
 Calls Tryz.prog 44 #[.agg #[.slice A0_0 l0_0.length c0_0,.slice A0_1 l0_1.length c0_1,.slice A0_2 l0_2.length c0_2,.slice A0_3 l0_3.length c0_3],.string a1,.string a2] w fun e w'=>e = .returned (.bool r)∧Below w.heap.size w w':=by
 have hu25:=Tryz.underlying25;have HR0_0:=cH hr0_0;have HC0_0:=cH hc0_0;clear hr0_0 hc0_0;have HR0_1:=cH hr0_1;have HC0_1:=cH hc0_1;clear hr0_1 hc0_1;have HR0_2:=cH hr0_2;have HC0_2:=cH hc0_2;clear hr0_2 hc0_2;have HR0_3:=cH hr0_3;have HC0_3:=cH hc0_3;clear hr0_3 hc0_3;have HB:=cH (Below.refl w.heap.size w);unfold iO.f at h;have H:=h;clear h;replace H:=Option.bind_eq_some_iff.mp H;obtain ⟨t238,A40,H⟩:=H;have A4:=cH A40;clear A40;obtain rfl:=Option.some.inj H;go_enter Tryz.func44,Tryz.ntmps44
 go_wp2_with (first | ((with_reducible refine gN (N:=3) rfl ?_);refine gH ?hg (N:=3) ?hd (cs:=#[.slice A0_0 l0_0.length c0_0,.slice A0_1 l0_1.length c0_1,.slice A0_2 l0_2.length c0_2,.slice A0_3 l0_3.length c0_3]) (t:=25) ?hr ?_;(case hd=>rfl);(case hg=>rfl);(case hr=>exact cL);intro gb237 hg w5 hbox hb;have BK237:=cH (hbox);have GW237:=cH ((by rw[hg];exact (eP bC):w.heap.size≤gb237));have GE237:=cH ((by rw[hg];exact (eP bC):w.heap.size≤gb237));replace HB:=cH (eB bC hb);clear hb hbox hg;have hcz6_0:w5.cell? ⟨gb237,0,none⟩=some (.slice A0_0 l0_0.length c0_0):=(eG BK237.out 0).trans rfl;have hcz6_1:w5.cell? ⟨gb237,1,none⟩=some (.slice A0_1 l0_1.length c0_1):=(eG BK237.out 1).trans rfl;have hcz6_2:w5.cell? ⟨gb237,2,none⟩=some (.slice A0_2 l0_2.length c0_2):=(eG BK237.out 2).trans rfl;have hcz6_3:w5.cell? ⟨gb237,3,none⟩=some (.slice A0_3 l0_3.length c0_3):=(eG BK237.out 3).trans rfl;have hfz6_0:=eD BK237.out 0;have hfz6_1:=eD BK237.out 1;have hfz6_2:=eD BK237.out 2;have hfz6_3:=eD BK237.out 3) | ((with_reducible refine fE (f:=38) rfl ?_);refine gP (some 10) rfl rfl Tryz.func38 bB rfl #[.agg #[.slice A0_0 l0_0.length c0_0,.slice A0_1 l0_1.length c0_1,.slice A0_2 l0_2.length c0_2,.slice A0_3 l0_3.length c0_3],.string a1,.string a2] rfl bD ?_;(with_reducible refine (hU.calls k _ _ l0_0 _ _ l0_1 _ _ l0_2 _ _ l0_3 a1 a2 t238 _ ?side1 ?side2 ?side3 ?side4 ?side5 ?side6 ?side7 ?side8 A4.out).mono ?_);(case side1=>exact cM);(case side2=>exact HC0_0.out);(case side3=>exact cV);(case side4=>exact HC0_1.out);(case side5=>exact cW);(case side6=>exact HC0_2.out);(case side7=>exact cX);(case side8=>exact HC0_3.out);rintro e w7 ⟨rfl,hb⟩;refine ⟨_,rfl,?_⟩;replace BK237:=cH (gX (g:=gb237) (o:=.cells #[.slice A0_0 l0_0.length c0_0,.slice A0_1 l0_1.length c0_1,.slice A0_2 l0_2.length c0_2,.slice A0_3 l0_3.length c0_3] 25 (0,0)) (by (with_reducible repeat (first | refine fO ?_ _ | refine fX ?_ | refine fN ?_ _));exact BK237.out) hb);replace HB:=cH (eB (by repeat (first | (with_reducible first | exact HB.out | apply fJ | apply fA | apply fM | refine gA ?_ GE237.out) | exact HB.out)) hb);(try clear hb);(try clear hb2);(try clear hk);(try clear hi)))
 go_ret;exact ⟨aC,by repeat (first | (with_reducible first | exact HB.out | apply fJ | apply fA | apply fM | refine gA ?_ GE237.out) | exact HB.out)⟩
end Go.Proofs.YtcdgldnphhidlaaGreatDoor.PCore
namespace Go.Proofs.YtcdgldnphhidlaaGreatDoor.PCore
open Go.RowKit Go.ZW.PrintWords Go.ZW.PrintLast Go.ZW.PrintMore
attribute [local go_sem] kF kH lE lF jR jS kG kI   -- for this text's walks alone
end Go.Proofs.YtcdgldnphhidlaaGreatDoor.PCore
namespace Go.Proofs.YtcdgldnphhidlaaGreatDoor.Path
open Go.RowKit Go.ZW.PrintWords Go.Proofs.YtcdgldnphhidlaaGreatDoor.Base Go.Proofs.YtcdgldnphhidlaaGreatDoor.PCore
theorem mI (s:ByteArray) (i:Nat) (hi:i < s.size) (n:Int) (c:UInt8) (hn:(c.toNat:Int)=n):(bt s (i:Int)=n)↔(L s)[i]? = some c:=by
 have h:i < (L s).length:=by rw[eK];exact hi
 rw[tF s i h,List.getElem?_eq_getElem h,← hn];constructor
 ·intro e;have e' : ((L s)[i]'h).toNat=c.toNat:=by omega
  rw[UInt8.toNat_inj.1 e']
 intro e;injection e with e
 rw[e]
def ints (l:List Nat):List Int:=l.map fun (n:Nat)=>(n:Int)
section
variable (s:ByteArray) (hs:s.size≤1000000)
include hs
theorem aH5 (R:List Int) (e:Nat) (he:e < s.size):∀ (n a:Nat) (acc:List Int),e - a=n→a≤e→acc.length≤a→Ev (fun k=>eC.l0 k s (acc++ints (kC (L s) a (e - a))) ((e+1:Nat):Int)) R→Ev (fun k=>eC.l2 k s acc (e:Int) (a:Int)) R:=by
 intro n
 induction n with
 | zero =>
  intro a acc h1 h2 h3 h;have e1:e=a:=by omega
  subst e1;have e2:acc++ints (kC (L s) e (e - e))=acc:=by simp[kC,ints]
  rw[e2] at h;refine Ev.step (fun k=>?_) h;simp only[eC.l2];rw[if_neg bA,w64 bA bA];rfl
 | succ n ih =>
  intro a acc h1 h2 h3 h;have hb:=mI s a bA 46 46 bH
  have hd:kC (L s) a (e - a)=(if (L s)[a]? = some 46 then [a] else [])++kC (L s) (a+1) (e - (a+1)):=by
   have e3:e - a=(e - (a+1))+1:=by omega
   unfold kC;rw[e3,List.range'_succ,List.filter_cons]
   by_cases c:(L s)[a]? = some 46
   ·simp[c]
   simp[c]
  by_cases c:(L s)[a]? = some 46
  ·have c':=hb.2 c
   have hh:=ih (a+1) (acc++[(a:Int)]) bA bA (by simp;omega) (by
    rw[hd,if_pos c] at h
    simpa [ints] using h)
   refine Ev.step (fun k=>?_) hh;simp only[eC.l2];rw[if_pos bA,if_pos bA,if_pos bA,if_pos c',if_pos bA,w64 bA bA];rfl
  have c' : ¬ (bt s (a:Int)=46):=fun x=>c (hb.1 x)
  have hh:=ih (a+1) acc bA bA bA (by
   rw[hd,if_neg c] at h
   simpa [ints] using h)
  refine Ev.step (fun k=>?_) hh;simp only[eC.l2];rw[if_pos bA,if_pos bA,if_pos bA,if_neg c',w64 bA bA];rfl
def aG0:Option Nat→Int
 | none=>-1
 | some e=>e
omit hs in
theorem qM (l:List UInt8):∀ (g k e:Nat),kT l g k=some e→k≤e∧e < l.length
 | 0,_,_,h=>by cases h
 | g+1,k,e,h=>by
  unfold kT at h;split at h
  ·cases h
  split at h
  ·rename_i h1 h2
   cases h;exact ⟨Nat.le_refl _,(List.getElem?_eq_some_iff.1 h2.1).1⟩
  have:=qM l g (k+1) e h;omega
theorem aH4 (R:List Int) (i:Nat) (acc:List Int):∀ (n p:Nat),s.size - p=n→p≤s.size→Ev (fun k=>eC.j3 k s acc (i:Int) (aG0 (kT (L s) n p))) R→Ev (fun k=>eC.l1 k s acc (i:Int) (-1) (p:Int)) R:=by
 have hl:=eK s;intro n
 induction n with
 | zero =>
  intro p h1 h2 h;refine Ev.step (fun k=>?_) h;simp only[eC.l1];rw[if_neg bA];rfl
 | succ n ih =>
  intro p h1 h2 h;have hb1:=mI s p bA 47 47 bH;have hb2:=mI s p bA 95 95 bH;unfold kT at h
  by_cases c1:(L s)[p]? = some 47
  ·rw[if_pos c1] at h;refine Ev.step (fun k=>?_) h;simp only[eC.l1];rw[if_pos bA,if_pos bA,if_pos (hb1.2 c1)];rfl
  rw[if_neg c1] at h;have c1' : ¬ (bt s (p:Int)=47):=fun x=>c1 (hb1.1 x)
  by_cases c2:(L s)[p]? = some 95
  ·have c2':=hb2.2 c2
   by_cases c3:s.size≤p+1
   ·rw[if_pos ⟨c2,.inl bA⟩] at h;refine Ev.step (fun k=>?_) h;simp only[eC.l1];rw[if_pos bA,if_pos bA,if_neg c1',if_pos c2',w64 bA bA,if_pos bA];rfl
   have hb3:=mI s (p+1) bA 46 46 bH;have ep:((p+1:Nat):Int)=(p:Int)+1:=by omega
   by_cases c4:(L s)[p+1]? = some 46
   ·rw[if_pos ⟨c2,.inr c4⟩] at h;refine Ev.step (fun k=>?_) h;simp only[eC.l1];rw[if_pos bA,if_pos bA,if_neg c1',if_pos c2',w64 bA bA,if_neg bA,if_pos bA,if_pos bA,if_pos (by rw[← ep];exact hb3.2 c4)];rfl
   rw[if_neg (by rintro ⟨_,x | x⟩ <;> first | omega | exact c4 x)] at h;refine Ev.step (fun k=>?_) (ih (p+1) bA bA h);simp only[eC.l1];rw[if_pos bA,if_pos bA,if_neg c1',if_pos c2',w64 bA bA,if_neg bA,if_pos bA,if_pos bA,if_neg (by rw[← ep];exact fun x=>c4 (hb3.1 x))];rfl
  rw[if_neg (fun x=>c2 x.1)] at h;refine Ev.step (fun k=>?_) (ih (p+1) bA bA h);simp only[eC.l1];rw[if_pos bA,if_pos bA,if_neg c1',if_neg (fun x=>c2 (hb2.1 x)),w64 bA bA];rfl
theorem aH3:∀ (g i:Nat) (acc:List Int),s.size - i≤g→acc.length≤i→i≤1000001→Ev (fun k=>eC.l0 k s acc (i:Int)) (acc++ints (skF (L s) g i)):=by
 have hl:=eK s;intro g
 induction g with
 | zero =>
  intro i acc h1 h2 h3;have e:acc++ints (skF (L s) 0 i)=acc:=by simp[skF,ints]
  rw[e];refine Ev.step (f:=fun _=>some acc) (fun k=>?_) (Ev.now _);simp only[eC.l0];rw[if_neg bA]
 | succ g ih =>
  intro i acc h1 h2 h3;unfold skF
  by_cases c0:s.size≤i
  ·rw[if_pos bA];have e:acc++ints []=acc:=by simp[ints]
   rw[e];refine Ev.step (f:=fun _=>some acc) (fun k=>?_) (Ev.now _);simp only[eC.l0];rw[if_neg bA]
  rw[if_neg bA]
  -- to j1
  have hj:Ev (fun k=>eC.j1 k s acc (i:Int) (opens (L s) i)) (acc++ints (if opens (L s) i=true then (match pO (L s) (i+2) with | some e=>kC (L s) (i+2) (e - (i+2))++skF (L s) g (e+1) | none=>skF (L s) g (i+1)) else skF (L s) g (i+1))):=by
   have next:Ev (fun k=>eC.l0 k s acc ((i+1:Nat):Int)) (acc++ints (skF (L s) g (i+1))):=ih (i+1) acc bA bA bA
   cases ho:opens (L s) i with
   | false =>
    simp only[Bool.false_eq_true,if_false];refine Ev.step (fun k=>?_) next;simp only[eC.j1,Bool.false_eq_true,if_false];rw[w64 bA bA];rfl
   | true =>
    have ho2:i+2 < s.size:=by
     unfold opens at ho;simp only[Bool.and_eq_true,decide_eq_true_eq] at ho;omega
    simp only[if_true];refine Ev.step (f:=fun k=>eC.l1 k s acc (i:Int) (-1) ((i+2:Nat):Int)) (fun k=>?_) (aH4 s hs _ i acc (s.size - (i+2)) (i+2) rfl bA ?_)
    ·simp only[eC.j1,if_true];rw[w64 bA bA];rfl
    have hw:pO (L s) (i+2)=kT (L s) (s.size - (i+2)) (i+2):=by unfold pO;rw[hl]
    rw[hw]
    cases he:kT (L s) (s.size - (i+2)) (i+2) with
    | none =>
     refine Ev.step (fun k=>?_) next;simp only[eC.j3,aG0,if_true];rw[w64 bA bA];rfl
    | some e =>
     obtain ⟨q1,q2⟩:=qM _ _ _ _ he
     have hh:=ih (e+1) (acc++ints (kC (L s) (i+2) (e - (i+2)))) bA (by
      have:(kC (L s) (i+2) (e - (i+2))).length≤e - (i+2):=by unfold kC;refine Nat.le_trans (List.length_filter_le _ _) ?_;simp
      simp[ints];omega) bA
     have e5:acc++ints (kC (L s) (i+2) (e - (i+2))++skF (L s) g (e+1))=(acc++ints (kC (L s) (i+2) (e - (i+2))))++ints (skF (L s) g (e+1)):=by simp[ints]
     rw[e5];refine Ev.step (f:=fun k=>eC.l2 k s acc (e:Int) ((i+2:Nat):Int)) (fun k=>?_) (aH5 s hs _ e bA (e - (i+2)) (i+2) acc rfl bA bA hh);simp only[eC.j3];rw[if_neg (show ¬ aG0 (some e) = -1 by show ¬ (e:Int) = -1;omega),w64 bA bA];rfl
  have hb1:=mI s i bA 46 46 bH;refine Ev.step (fun k=>?_) hj;simp only[eC.l0];rw[if_pos bA,w64 (n:=(i:Int)+2) bA bA];unfold opens
  by_cases c1:i+2 < s.size
  ·have hb2:=mI s (i+1) bA 95 95 bH;have ep:((i+1:Nat):Int)=(i:Int)+1:=by omega
   rw[if_pos bA,if_pos bA]
   by_cases c2:(L s)[i]? = some 46
   ·rw[if_pos (hb1.2 c2),w64 (n:=(i:Int)+1) bA bA,if_pos bA,if_pos bA]
    have e6:(bt s ((i:Int)+1)==95)=((L s)[i+1]? == some 95):=by
     rw[← ep,Bool.eq_iff_iff,beq_iff_eq,beq_iff_eq];exact hb2
    rw[e6,c2,decide_eq_true bA]
    simp
   rw[if_neg (fun x=>c2 (hb1.1 x))];have:((L s)[i]? == some 46)=false:=by simpa using c2
   rw[this]
   simp
  rw[if_neg bA,decide_eq_false bA]
  simp
omit hs in
theorem last_slash (h:∃ j:Nat,(L s)[j]? = some 47):∃ j:Nat,Go.Lib.lastIndexByte s 47=(j:Int)∧behind (L s)=j+1∧(L s)[j]? = some 47∧∀ k,j < k→(L s)[k]?≠some 47:=by
 have hl:=eK s;have hd:s.data.size=s.size:=rfl;have es:(⟨(L s).toArray⟩:ByteArray)=s:=L_inj (kV _)
 have at_:∀ k,k < s.size→(((s.data[k]!).toNat:Int)=47↔(L s)[k]? = some 47):=by
  intro k hk;have h1:k < s.data.size:=hk;rw[getElem!_pos s.data k h1];have e:(L s)[k]? = some s.data[k]:=by unfold L;simp
  rw[e];constructor
  ·intro e2;have:(s.data[k]).toNat=(47:UInt8).toNat:=by have:(47:UInt8).toNat=47:=rfl;omega
   rw[UInt8.toNat_inj.1 this]
  intro e2;injection e2 with e2
  rw[e2];rfl
 rcases Go.Lib.lastIdx_spec s 47 s.size with ⟨_,h2⟩ | ⟨i,h1,h2,h3,h4⟩
 ·obtain ⟨j,hj⟩:=h;have:j < s.size:=by rw[← hl];exact (List.getElem?_eq_some_iff.1 hj).1
  exact absurd ((at_ j this).2 hj) (h2 j this)
 refine ⟨i,h2,?_,(at_ i h1).1 h3,fun k hk e=>?_⟩
 ·unfold behind;rw[es];show (Go.Lib.lastIdx s 47 s.size+1).toNat=i+1;rw[h2];omega
 have:k < s.size:=by rw[← hl];exact (List.getElem?_eq_some_iff.1 e).1
 exact h4 k hk this ((at_ k this).2 e)
theorem aG9 (h:∃ j:Nat,(L s)[j]? = some 47):Ev (fun k=>eC.f k s) (ints (lT (L s))):=by
 have hl:=eK s;obtain ⟨j,h1,h2,h3,_⟩:=last_slash s h;have hj:j < s.size:=by rw[← hl];exact (List.getElem?_eq_some_iff.1 h3).1
 have e:=aH3 s hs (L s).length j [] bA bJ bA;have e9:[]++ints (skF (L s) (L s).length j)=ints (lT (L s)):=by unfold lT;rw[h2];rfl
 rw[e9] at e;refine Ev.congr (fun k=>?_) e;show ((strings_LastIndex.f s ⟨#[47]⟩).bind fun t=>if t = -1 then some ([]:List Int) else eC.l0 k s [] t)=_;unfold strings_LastIndex.f;rw[if_pos ⟨by rw[L_toList];rfl,aQ⟩,h1];have hne:¬ ((j:Int) = -1):=by omega
 show (if (j:Int) = -1 then some ([]:List Int) else eC.l0 k s [] (j:Int))=eC.l0 k s [] (j:Int);rw[if_neg hne]
end
theorem aHa (i:Nat):∀ (n j:Nat) (l:List Nat),l.length - j=n→j≤l.length→l.length≤1000000→Ev (fun k=>eY.l0 k (i:Int) (ints l) (l.length:Int) (j:Int)) (kR (l.drop j) i):=by
 intro n
 induction n with
 | zero =>
  intro j l h1 h2 h3;have e:l.drop j=[]:=List.drop_of_length_le bA;rw[e];refine Ev.step (f:=fun _=>some false) (fun k=>?_) (Ev.now _);simp only[eY.l0];rw[if_neg bA]
 | succ n ih =>
  intro j l h1 h2 h3;have hj:j < l.length:=by omega
  have e:l.drop j=l[j]::l.drop (j+1):=List.drop_eq_getElem_cons hj
  have hr:rd (ints l) (j:Int)=(l[j]:Int):=by
   unfold rd
   simp[ints,hj]
  rw[e];have hz:(ints l).length=l.length:=by simp[ints]
  by_cases c1:l[j]=i
  ·have e2:kR (l[j]::l.drop (j+1)) i=true:=by unfold kR;rw[if_pos c1]
   rw[e2];refine Ev.step (f:=fun _=>some true) (fun k=>?_) (Ev.now _);simp only[eY.l0];rw[if_pos bA,if_pos bA,if_pos bA,hr,if_pos bA]
  by_cases c2:i < l[j]
  ·have e2:kR (l[j]::l.drop (j+1)) i=false:=by unfold kR;rw[if_neg c1,if_pos c2]
   rw[e2];refine Ev.step (f:=fun _=>some false) (fun k=>?_) (Ev.now _);simp only[eY.l0];rw[if_pos bA,if_pos bA,if_pos bA,hr,if_neg bA,if_pos bA]
  have e2:kR (l[j]::l.drop (j+1)) i=kR (l.drop (j+1)) i:=by rw[kR,if_neg c1,if_neg c2]
  rw[e2];refine Ev.step (fun k=>?_) (ih (j+1) l bA bA h3);simp only[eY.l0];rw[if_pos bA,if_pos bA,if_pos bA,hr,if_neg bA,if_neg bA,w64 bA bA];rfl
theorem aEh (i:Nat) (l:List Nat) (h:l.length≤1000000):Ev (fun k=>eY.f k (ints l) (i:Int)) (kR l i):=by
 have e:=aHa i l.length 0 l bA bA h;refine Ev.congr (fun k=>?_) e;show eY.l0 k (i:Int) (ints l) ((ints l).length:Int) 0=_;rw[show (ints l).length=l.length by simp[ints]];rfl
theorem aF9 (s t:ByteArray) (hs:s.size≤1000000) (ht:t.size≤1000000):∀ (g i:Nat),s.size+1 - i≤g→i≤s.size+1→∃ r:Int,Ev (fun k=>fI.l0 k s t (i:Int)) r∧decide (r≥0)=xO (L s) (L t) g i:=by
 have hl:=eK s;have hlt:=eK t;intro g
 induction g with
 | zero =>
  intro i h1 h2;refine ⟨-1,Ev.step (f:=fun _=>some (-1)) (fun k=>?_) (Ev.now _),by simp[xO]⟩;simp only[fI.l0];rw[if_neg (by rw[w64 bA bA];omega)]
 | succ g ih =>
  intro i h1 h2;unfold xO
  by_cases c:s.size < i+t.size
  ·rw[if_pos bA];refine ⟨-1,Ev.step (f:=fun _=>some (-1)) (fun k=>?_) (Ev.now _),dY⟩;simp only[fI.l0];rw[if_neg (by rw[w64 bA bA];omega)]
  rw[if_neg bA];have hx:(s.extract i (i+t.size)).toList=((L s).drop i).take (L t).length:=by rw[L_toList,eS,hlt];congr 1;omega
  by_cases h:((L s).drop i).take (L t).length=L t
  ·refine ⟨i,Ev.step (f:=fun _=>some (i:Int)) (fun k=>?_) (Ev.now _),by rw[h];simp⟩;simp only[fI.l0];rw[w64 (n:=(i:Int)+t.size) bA bA,if_pos bA,if_pos bA,if_pos bA,if_pos ?_];rw[Int.toNat_natCast,show ((i:Int)+(t.size:Int)).toNat=i+t.size by omega,hx,h,L_toList]
  obtain ⟨r,h3,h4⟩:=ih (i+1) bA bA;refine ⟨r,Ev.step (fun k=>?_) h3,?_⟩
  ·simp only[fI.l0];rw[w64 (n:=(i:Int)+t.size) bA bA,if_pos bA,if_pos bA,if_pos bA,if_neg ?_,w64 bA bA]
   ·rfl
   rw[Int.toNat_natCast,show ((i:Int)+(t.size:Int)).toNat=i+t.size by omega,hx,L_toList];exact h
  rw[h4];have:(((L s).drop i).take (L t).length==L t)=false:=by simpa using h
  rw[this,Bool.false_or]
theorem sX (s t:ByteArray) (hs:s.size≤1000000) (ht:t.size≤1000000):Ev (fun k=>gW.f k s t) (gC (L s) (L t)):=by
 obtain ⟨r,h1,h2⟩:=aF9 s t hs ht (s.size+1) 0 bA bA;have e:gC (L s) (L t)=decide (r≥0):=by unfold gC;rw[eK,h2]
 rw[e];refine Ev.bind (g:=fun k=>fI.f k s t) (f:=fun _ r=>some (decide (r≥0))) h1 (Ev.now _)
open Go.RowKit Go.ZW.PrintWords Go.Proofs.YtcdgldnphhidlaaGreatDoor.Base
theorem vA (l:List UInt8):iJ l≤l.length:=by unfold iJ;exact List.length_filter_le _ _
theorem zP (l:List UInt8) (k:Nat) (h:k < l.length):iJ (l.take (k+1))=iJ (l.take k)+if l[k]=46 then 1 else 0:=by
 unfold iJ;rw[List.take_succ_eq_append_getElem h,List.filter_append,List.length_append]
 by_cases c:l[k]=46
 ·simp[c]
 simp[c]
theorem aCz (s:ByteArray) (hs:s.size≤1000000) (w:World) :
 Calls Tryz.prog 161 #[.string s,.string ⟨#[46]⟩] w fun e w'=>e = .returned (.int .i64 (iJ (L s)))∧w'=w:=by
 have hl:=eK s
 obtain ⟨n,hn⟩:∃ n,s.size=n:=⟨_,rfl⟩
 have HN:=cH hn;rw[hn] at hs;go_enter Tryz.func161,Tryz.ntmps161;go_wp2_with fail
 go_loopg [5,6] n (fun g c i wr=>∃ k:Nat,k≤n∧g=n - k∧i = .int .i64 k∧c = .int .i64 (iJ ((L s).take k))∧wr=w)
 case atStart=>exact ⟨0,Nat.zero_le _,rfl,rfl,rfl,rfl⟩
 case round =>
  obtain ⟨k,hk,hg,rfl,rfl,rfl⟩:=hrel;have hsz:ByteArray.size ⟨#[46]⟩=1:=rfl;have hc0:=vA ((L s).take k);have hc1:((L s).take k).length≤n:=by simp;omega
  have d0:IntKind.i64.wrap ((k:Int)+1)=((k+1:Nat):Int):=by rw[IntWalk.i64_in _ bA];omega
  by_cases hlt:k < n
  ·have hkl:k < (L s).length:=by omega
   have hst:=zP (L s) k hkl;have d1:decide (((k+1:Nat):Int)≤(n:Int))=true:=decide_eq_true bA;have d2:((k+1:Nat):Int)≤(n:Int):=by omega
   have d3:(k:Int)≤((k+1:Nat):Int):=by omega
   have d4:(0:Int)≤(k:Int):=by omega
   have e1:(k:Int)+1≤(n:Int):=by omega
   have e2:(k:Int)≤(k:Int)+1:=by omega
   have e3:((k:Int)+1).toNat=k+1:=by omega
   have e4:decide ((k:Int)+1≤(n:Int))=true:=decide_eq_true e1
   obtain ⟨m,hm⟩:∃ m,iJ ((L s).take k)=m:=⟨_,rfl⟩
   rw[hm] at hst hc0 ⊢;have d5:IntKind.i64.wrap ((m:Int)+1)=((m+1:Nat):Int):=by rw[IntWalk.i64_in _ bA];omega
   have hx:((s.extract k (k+1)).toList==(⟨#[46]⟩:ByteArray).toList)=decide ((L s)[k]=46):=by
    rw[L_toList,eS,L_toList,List.drop_eq_getElem_cons hkl];have:k+1 - k=1:=by omega
    rw[this,Bool.eq_iff_iff,beq_iff_eq,decide_eq_true_iff]
    simp[L]
   obtain ⟨b,hb⟩:∃ b,decide ((L s)[k]=46)=b:=⟨_,rfl⟩
   rw[hb] at hx;have HB:=cH hb;have HST:=cH hst;clear hst hb;rw[show (⟨#[46]⟩:ByteArray).toList=[46] by rw[L_toList];rfl] at hx;cases b
   ·have hc:¬ (L s)[k]=46:=of_decide_eq_false HB.out;have hst2:=HST.out;rw[if_neg hc] at hst2;clear hc;go_wp2_with fail
    go_roundg (n - (k+1))
    case rel=>exact ⟨k+1,aQ,rfl,aZ,by rw[hst2];rfl,rfl⟩
    case measure=>omega
   have hc:(L s)[k]=46:=of_decide_eq_true HB.out;have hst2:=HST.out;rw[if_pos hc] at hst2;clear hc;go_wp2_with fail
   go_roundg (n - (k+1))
   case rel=>exact ⟨k+1,aQ,rfl,aZ,by rw[hst2];go_num,rfl⟩
   case measure=>omega
  have:k=n:=by omega
  subst this;have d1:decide (((k+1:Nat):Int)≤(k:Int))=false:=decide_eq_false bA;have d2:¬ (((k+1:Nat):Int)≤(k:Int)):=by omega
  have e4:decide ((k:Int)+1≤(k:Int))=false:=decide_eq_false bA;have e:(L s).take k=L s:=List.take_of_length_le bA;rw[e];go_wp2_with fail
  go_ret;exact ⟨rfl,rfl⟩
section
variable {E:Env} {comp:ByteArray} {sk:List Nat} {nd:Int} {i:Nat} {d:DoV}
theorem aBo (h1:d.p.s.data.toList[i]?≠some 46) (h2:d.p.s.data.toList[i]?≠some 47):iS E comp sk nd i d=d:=by
 unfold iS;rw[if_neg h1,if_neg h2]
theorem wS (h1:d.p.s.data.toList[i]? = some 46) (h2:kR sk i=true):iS E comp sk nd i d=d:=by
 unfold iS;rw[if_pos h1,if_pos h2]
theorem tS (h1:d.p.s.data.toList[i]? = some 46) (h2:kR sk i=false):iS E comp sk nd i d = { d with p:=mId E d.p comp i d.ld nd false,ld:=i }:=by
 unfold iS;rw[if_pos h1,if_neg (by rw[h2];simp)]
theorem pX {q:eJ} (h1:d.p.s.data.toList[i]? = some 47) (hc:d.p.cHigh = -1) (hq:q=if 0 < d.ld then mId E d.p comp i d.ld nd true else d.p) :
 iS E comp sk nd i d = { d with p:=if 0 < i then { q with cHigh:=((i:Int)+1),sec:=i } else { q with cHigh:=((i:Int)+1) },sc:=d.sc+1 }:=by
 unfold iS;rw[if_neg (by rw[h1];intro h;cases h),if_pos h1];simp only[hc,if_true,← hq]
theorem pW (h1:d.p.s.data.toList[i]? = some 47) (hc:d.p.cHigh≠-1) :
 iS E comp sk nd i d = { d with p:=if 0 < i then { (if d.p.cLow = -1 then { d.p with cLow:=((i:Int)+1) } else d.p) with sec:=i } else (if d.p.cLow = -1 then { d.p with cLow:=((i:Int)+1) } else d.p),sc:=d.sc+1 }:=by
 unfold iS;rw[if_neg (by rw[h1];intro h;cases h),if_pos h1];simp only[hc,if_false]
end
theorem aCa {p:eJ} {a n:Int} (h:¬ p.cHigh≤p.nEnd) (ha:p.cHigh=a) (hn:(p.s.size:Int)=n):{ p with nLow:=a,nHigh:=n }=gG p:=by
 subst ha hn;unfold gG;rw[if_neg h]
theorem aDc {p:eJ} {a:Int} (h:p.cHigh≤p.nEnd) (ha:p.cHigh=a):{ p with nLow:=a,nHigh:=p.nEnd }=gG p:=by
 subst ha;unfold gG;rw[if_pos h]
section
variable {E:Env} {p:eJ} {sc:Nat} {comp:ByteArray}
theorem vL (hk:p.known≠[]) (h:p.nLow < p.nHigh) (hi:((iQ p.comp || kZ p.comp) && E.cont (fH p 0))=true) (hb:(sub p.s p.nLow p.nHigh).toList=nW):{ p with typ:=3,sec:=if sc=2 then 0 else p.sec }=hY E sc p:=by
 unfold hY;rw[if_neg hk];simp only;rw[if_pos h,if_pos hi,if_pos hb]
theorem uO (hk:p.known≠[]) (h:p.nLow < p.nHigh) (hi:((iQ p.comp || kZ p.comp) && E.cont (fH p 0))=true) (hb:(sub p.s p.nLow p.nHigh).toList=mT):{ p with typ:=4 }=hY E sc p:=by
 unfold hY;rw[if_neg hk];simp only;rw[if_pos h,if_pos hi,if_neg (by rw[hb];decide),if_pos hb]
theorem uN (hk:p.known≠[]) (h:p.nLow < p.nHigh) (hi:((iQ p.comp || kZ p.comp) && E.cont (fH p 0))=true) (hb:(sub p.s p.nLow p.nHigh).toList≠nW) (hb2:(sub p.s p.nLow p.nHigh).toList≠mT):{ p with typ:=2 }=hY E sc p:=by
 unfold hY;rw[if_neg hk];simp only;rw[if_pos h,if_pos hi,if_neg hb,if_neg hb2]
theorem aDi (hk:p.known≠[]) (h:p.nLow < p.nHigh) (hi:((iQ p.comp || kZ p.comp) && E.cont (fH p 0))=false) (hb:(sub p.s p.nLow p.nHigh).toList=mN) (he:(fH p 0).toList=oX):{ p with typ:=5 }=hY E sc p:=by
 unfold hY;rw[if_neg hk];simp only;rw[if_pos h,if_neg (by rw[hi];simp),if_pos ⟨hb,he⟩]
theorem wW (hk:p.known≠[]) (h:p.nLow < p.nHigh) (hi:((iQ p.comp || kZ p.comp) && E.cont (fH p 0))=false) (hb:¬ ((sub p.s p.nLow p.nHigh).toList=mN∧(fH p 0).toList=oX)):p=hY E sc p:=by
 unfold hY;rw[if_neg hk];simp only;rw[if_pos h,if_neg (by rw[hi];simp),if_neg hb]
theorem wX (E:Env) (sc:Nat) (p:eJ):∃ t c,hY E sc p = { p with typ:=t,sec:=c }:=by
 unfold hY;simp only
 repeat' split
 all_goals exact ⟨_,_,rfl⟩
theorem wY (comp:ByteArray) (p:eJ):∃ t,lC comp p = { p with typ:=t }:=by
 unfold lC
 repeat' split
 all_goals exact ⟨_,rfl⟩
theorem aFm (h:(decide (p.typ < 6) && eV comp)=false):p=lC comp p:=by
 unfold lC;rw[if_neg];rintro ⟨h1,h2⟩;rw[h2,decide_eq_true h1] at h;cases h
theorem aDj (h:(decide (p.typ < 6) && eV comp)=true) (hb:(p.base != -1)=true):{ p with typ:=9 }=lC comp p:=by
 unfold lC;simp only[Bool.and_eq_true,decide_eq_true_eq] at h;rw[if_pos h,if_pos (by simpa using hb)]
theorem qT (h:(decide (p.typ < 6) && eV comp)=true) (hb:(p.base != -1)=false) {T:ByteArray} (ht:nrm p.trim p.s=T) :
 lC comp p=if gC (L T) gY then { p with typ:=7 } else if gC (L T) lG then { p with typ:=6 } else if jX.isPrefixOf (L T) then { p with typ:=8 } else p:=by
 unfold lC;simp only[Bool.and_eq_true,decide_eq_true_eq] at h;rw[if_pos h,if_neg (by simpa using hb),ht];rfl
theorem aFn (h:((p.typ==7) && (p.lay != -1))=false):p=mD p:=by
 unfold mD;rw[if_neg];rintro ⟨h1,h2,_⟩;rw[h1] at h
 simp at h
 exact h2 h
theorem aAo (h:((p.typ==7) && (p.lay != -1))=true) {j:Nat} {x:Int×Int} (hj:p.lay=(j:Int)) (hx:p.known[j]? = some x):mD p=if x.1=p.cHigh then { p with lay:=-1 } else p:=by
 unfold mD;simp only[Bool.and_eq_true,beq_iff_eq,bne_iff_ne] at h;have e:p.known.getD p.lay.toNat (0,0)=x:=by rw[hj,Int.toNat_natCast,List.getD_eq_getElem?_getD,hx];rfl
 rw[e]
 by_cases c:x.1=p.cHigh
 ·rw[if_pos c,if_pos ⟨h.1,h.2,c⟩]
 rw[if_neg c,if_neg (fun g=>c g.2.2)]
end
def Apart (b:Nat) (vk vu vl:Value) (k:Nat):Prop:=k≠b∧some k≠vk.ownBlock∧some k≠vu.ownBlock∧some k≠vl.ownBlock
section
variable {w w' : World} {base b:Nat} {vk vu vl vk' vu' vl' v u:Value} {xs:List Int} {p:eJ} {B:Nat}
theorem kA (h:(Kd.int .i64).R 3 w base (Apart b vk vu vl) v xs) (m:fC w w' b vk vu vl vk' vu' vl'):(Kd.int .i64).R 3 w' base (Apart b vk' vu' vl') v xs:=by
 have h1:=Kd.R_bound h;refine Kd.R_mono (Kd.R_move h1 (fun k hk=>m.block k hk.2.2.1 hk.1.1 hk.1.2.1 hk.1.2.2.1 hk.1.2.2.2)) (fun k hk=>?_);obtain ⟨_,_,f1,f2,f3⟩:=m.far hk.2.2.1 hk.1.1 hk.1.2.1 hk.1.2.2.1 hk.1.2.2.2;exact ⟨hk.1.1,f1,f2,f3⟩
theorem aGq (H:eM w B b p vk vu vl u) (h:(Kd.int .i64).R 3 w' w.heap.size (fun _=>True) v xs):(Kd.int .i64).R 3 w' w.heap.size (Apart b vk vu vl) v xs :=
 Kd.R_mono (Kd.R_bound h) (fun _ hk=>H.new_ne hk.2.1)
theorem yZ (h:(Kd.int .i64).R 3 w base (Apart b vk vu vl) v xs) (hb:Below w.heap.size w w'):(Kd.int .i64).R 3 w' base (Apart b vk vu vl) v xs:=Kd.R_below h hb
end
theorem aBq (l:List UInt8) (a n:Nat):(kC l a n).length≤n:=by unfold kC;refine Nat.le_trans (List.length_filter_le _ _) ?_;simp
theorem uI (l:List UInt8):∀ (g i:Nat),(skF l g i).length≤l.length - i
 | 0,i=>by simp[skF]
 | g+1,i=>by
  have h1:=uI l g (i+1);unfold skF;split
  ·simp
  split
  ·split
   ·rename_i e he
    obtain ⟨q1,q2⟩:=qM _ _ _ _ he;have h2:=uI l g (e+1);have h3:=aBq l (i+2) (e - (i+2));rw[List.length_append];omega
   omega
  omega
theorem mem_mText (l:List UInt8) (c:UInt8) (h:c∈hE l):c=47∨c∈l:=by
 have h1:∀ c,c∈kD l→c=47∨c∈l:=by
  intro c h;unfold kD at h;split at h
  ·exact .inl (by simpa using h)
  split at h
  ·exact .inr h
  rcases List.mem_cons.1 h with h | h
  ·exact .inl h
  exact .inr h
 unfold hE at h;simp only at h;split at h
 ·exact h1 c (List.dropLast_subset _ h)
 exact h1 c h
theorem aFa (s:ByteArray) (h:asc s):asc ⟨(hE (L s)).toArray⟩:=by
 intro j c hc
 have hm:c∈hE (L s):=by
  have:(⟨(hE (L s)).toArray⟩:ByteArray).data.toList=hE (L s):=by simp
  rw[this] at hc;exact List.mem_of_getElem? hc
 rcases mem_mText _ _ hm with h1 | h1
 ·rw[h1];decide
 obtain ⟨k,hk⟩:=List.mem_iff_getElem?.1 h1;exact h k c hk
end Go.Proofs.YtcdgldnphhidlaaGreatDoor.Path
