/- Texts that the law leans on: PCorex1. Condition: as told at each. -/
import Derived.Test.YtcdgldnphhidlaaGreatDoorVa
import Derived.Test.YtcdgldnphhidlaaGreatDoorV7
set_option linter.unusedVariables false
set_option linter.unusedSimpArgs false
set_option maxRecDepth 100000
set_option maxHeartbeats 16000000
namespace Go.Proofs.YtcdgldnphhidlaaGreatDoor.PCore
open Go.RowKit Go.ZW.PrintWords Go.ZW.PrintLast Go.ZW.PrintMore
attribute [local go_sem] kF kH lE lF jR jS kG kI   -- for this text's walks alone
def gF.l0:Nat→Int→List ByteArray→Int→Int→Option (Bool)
 | 0,_,_,_,_=>none
 | k+1,x3,x8,x9,x10=>if x10 < x9 then (if 0≤x10 then (if x10 < (x8.length:Int) then (gF.l0 k (wrap64 (x3+((gE ByteArray.empty x8 x10).size:Int))) x8 x9 (wrap64 (x10+1))) else (none)) else (none)) else (some (decide (x3≤2000)))
def gF.f (k:Nat) (l0:List ByteArray):Option (Bool):=gF.l0 k (l0.length:Int) l0 (l0.length:Int) 0
theorem gF.mono_l:∀ k,(∀ y0 y1 y2 y3,LeO (gF.l0 k y0 y1 y2 y3) (gF.l0 (k+1) y0 y1 y2 y3))
 | 0=>fun _ _ _ _ r h=>by simp[gF.l0] at h
 | k+1=>by
  have ih0:=gF.mono_l k
  intro y0 y1 y2 y3;unfold gF.l0
  exact dA
theorem gF.mono:∀ a0 k,LeO (gF.f k a0) (gF.f (k+1) a0):=by
 intro a0 k;have ih0:=gF.mono_l k;unfold gF.f
 exact dA
theorem gF.calls (k:Nat) (A0:Option Addr) (c0:Nat) (l0:List ByteArray) (r:Bool) (w:World) (hr0:Kd.C Kd.string w A0 l0.length l0) (hc0:l0.length≤c0) (h:gF.f k l0=some r) :
 Calls Tryz.prog 48 #[.slice A0 l0.length c0] w fun e w'=>e = .returned (.bool r)∧eW w w':=by
 have HR0:=cH hr0;have HC0:=cH hc0;clear hr0 hc0;unfold gF.f at h;have H:=h;clear h;have H':=cH H;clear H;go_enter Tryz.func48,Tryz.ntmps48;go_wp2
 go_loopg [3,10] k (fun kq v3 v10 w'=>∃ (x3_1:Int) (x10_1:Int),v3 = .int .i64 x3_1∧v10 = .int .i64 x10_1∧Aside0 (gF.l0 kq x3_1 l0 (l0.length:Int) x10_1=some r)∧Aside0 (kq≤k)∧eW w w')
 case atStart=>exact ⟨((l0.length:Int)),(0),bE,bE,H',⟨Nat.le_refl _⟩,dM⟩
 case round =>
  clear H';obtain ⟨x3_1,x10_1,rfl,rfl,HA,HK1,⟨m1,rfl⟩⟩:=hrel
  cases gk with
  | zero=>exact absurd HA.out (by simp[gF.l0])
  | succ k1 =>
   have H:=HA.out;clear HA;simp only[gF.l0] at H
   by_cases c2:x10_1 < (l0.length:Int)
   ·rw[if_pos c2] at H;have c2b0:=decide_eq_true c2;clear c2
    by_cases c3:0≤x10_1
    ·rw[if_pos c3] at H;have c3b0:=decide_eq_true c3;clear c3
     by_cases c4:x10_1 < (l0.length:Int)
     ·rw[if_pos c4] at H;have c4b0:=decide_eq_true c4;clear c4;have H':=cH H;clear H;have p101:0≤(x10_1:Int):=cG;have q101:x10_1 < (l0.length:Int):=cG;obtain ⟨ad101,e101,hx101_0⟩:=Kd.at_string HR0.out x10_1 p101 q101;cases e101;replace p101:=eq_true p101;replace q101:=eq_true q101;go_wp2
      go_roundg k1
      case measure=>have:=HK1.out;omega
      case rel=>exact ⟨(wrap64 (x3_1+((gE ByteArray.empty l0 x10_1).size:Int))),(wrap64 (x10_1+1)),bE,bE,H',⟨aT⟩,dM⟩
     rw[if_neg c4] at H;exact absurd H bJ
    rw[if_neg c3] at H;exact absurd H bJ
   rw[if_neg c2] at H;have c2b0:=decide_eq_false c2;clear c2;obtain rfl:=Option.some.inj H;go_wp2;go_ret;exact ⟨bE,dM⟩
def gJ.l0:Nat→Int→List (S46)→Int→Int→List ByteArray→List ByteArray→List (S46)→List ByteArray→Option (Bool)
 | 0,_,_,_,_,_,_,_,_=>none
 | k+1,x7,x16,x17,x18,x103000,x103001,x103002,x103003=>if x18 < x17 then (if 0≤x18 then (if x18 < (x16.length:Int) then (gJ.l0 k (wrap64 (x7+(wrap64 ((wrap64 (1+(((hJ x16 x18).f0).size:Int)))+(((hJ x16 x18).f1).size:Int))))) x16 x17 (wrap64 (x18+1)) x103000 x103001 x103002 x103003) else (none)) else (none)) else (if x7≤2000 then ((gF.f k x103000).bind fun t105=>(if t105=true then ((gF.f k x103001).bind fun t106=>(if t106=true then ((gF.f k x103003).bind fun t107=>(some t107)) else (some false))) else (some false))) else (some false))
def gJ.f (k:Nat) (l0_0:List ByteArray) (l0_1:List ByteArray) (l0_2:List (S46)) (l0_3:List ByteArray) (a1:ByteArray) (a2:ByteArray):Option (Bool):=gJ.l0 k (wrap64 ((a1.size:Int)+(a2.size:Int))) l0_2 (l0_2.length:Int) 0 l0_0 l0_1 l0_2 l0_3
theorem gJ.mono_l:∀ k,(∀ y0 y1 y2 y3 y4 y5 y6 y7,LeO (gJ.l0 k y0 y1 y2 y3 y4 y5 y6 y7) (gJ.l0 (k+1) y0 y1 y2 y3 y4 y5 y6 y7))
 | 0=>fun _ _ _ _ _ _ _ _ r h=>by simp[gJ.l0] at h
 | k+1=>by
  have ih0:=gJ.mono_l k
  intro y0 y1 y2 y3 y4 y5 y6 y7;unfold gJ.l0
  exact dB
theorem gJ.mono:∀ a0 a1 a2 a3 a4 a5 k,LeO (gJ.f k a0 a1 a2 a3 a4 a5) (gJ.f (k+1) a0 a1 a2 a3 a4 a5):=by
 intro a0 a1 a2 a3 a4 a5 k;have ih0:=gJ.mono_l k;unfold gJ.f
 exact dB
theorem gJ.calls (k:Nat) (A0_0:Option Addr) (c0_0:Nat) (l0_0:List ByteArray) (A0_1:Option Addr) (c0_1:Nat) (l0_1:List ByteArray) (A0_2:Option Addr) (c0_2:Nat) (l0_2:List (S46)) (A0_3:Option Addr) (c0_3:Nat) (l0_3:List ByteArray) (a1:ByteArray) (a2:ByteArray) (r:Bool) (w:World) (hr0_0:Kd.C Kd.string w A0_0 l0_0.length l0_0) (hc0_0:l0_0.length≤c0_0) (hr0_1:Kd.C Kd.string w A0_1 l0_1.length l0_1) (hc0_1:l0_1.length≤c0_1) (hr0_2:Kd.C k46 w A0_2 l0_2.length l0_2) (hc0_2:l0_2.length≤c0_2) (hr0_3:Kd.C Kd.string w A0_3 l0_3.length l0_3) (hc0_3:l0_3.length≤c0_3) (h:gJ.f k l0_0 l0_1 l0_2 l0_3 a1 a2=some r) :
 Calls Tryz.prog 16 #[.agg #[.slice A0_0 l0_0.length c0_0,.slice A0_1 l0_1.length c0_1,.slice A0_2 l0_2.length c0_2,.slice A0_3 l0_3.length c0_3],.string a1,.string a2] w fun e w'=>e = .returned (.bool r)∧Below w.heap.size w w':=by
 have hu25:=Tryz.underlying25;have hu46:=Tryz.underlying46;have HR0_0:=cH hr0_0;have HC0_0:=cH hc0_0;clear hr0_0 hc0_0;have HR0_1:=cH hr0_1;have HC0_1:=cH hc0_1;clear hr0_1 hc0_1;have HR0_2:=cH hr0_2;have HC0_2:=cH hc0_2;clear hr0_2 hc0_2;have HR0_3:=cH hr0_3;have HC0_3:=cH hc0_3;clear hr0_3 hc0_3;have HB:=cH (Below.refl w.heap.size w);unfold gJ.f at h;have H:=h;clear h;have H':=cH H;clear H;go_enter Tryz.func16,Tryz.ntmps16
 go_wp2_with (first | ((with_reducible refine gN (N:=3) rfl ?_);refine gH ?hg (N:=3) ?hd (cs:=#[.slice A0_0 l0_0.length c0_0,.slice A0_1 l0_1.length c0_1,.slice A0_2 l0_2.length c0_2,.slice A0_3 l0_3.length c0_3]) (t:=25) ?hr ?_;(case hd=>rfl);(case hg=>rfl);(case hr=>exact cL);intro gb102 hg w4 hbox hb;have BK102:=cH (hbox);have GW102:=cH ((by rw[hg];exact (eP bC):w.heap.size≤gb102));have GE102:=cH ((by rw[hg];exact (eP bC):w.heap.size≤gb102));replace HB:=cH (eB bC hb);clear hb hbox hg;have hcz5_0:w4.cell? ⟨gb102,0,none⟩=some (.slice A0_0 l0_0.length c0_0):=(eG BK102.out 0).trans rfl;have hcz5_1:w4.cell? ⟨gb102,1,none⟩=some (.slice A0_1 l0_1.length c0_1):=(eG BK102.out 1).trans rfl;have hcz5_2:w4.cell? ⟨gb102,2,none⟩=some (.slice A0_2 l0_2.length c0_2):=(eG BK102.out 2).trans rfl;have hcz5_3:w4.cell? ⟨gb102,3,none⟩=some (.slice A0_3 l0_3.length c0_3):=(eG BK102.out 3).trans rfl;have hfz5_0:=eD BK102.out 0;have hfz5_1:=eD BK102.out 1;have hfz5_2:=eD BK102.out 2;have hfz5_3:=eD BK102.out 3))
 go_loopg [7,18] k (fun kq v7 v18 w'=>∃ (x7_1:Int) (x18_1:Int),v7 = .int .i64 x7_1∧v18 = .int .i64 x18_1∧Aside0 (gJ.l0 kq x7_1 l0_2 (l0_2.length:Int) x18_1 l0_0 l0_1 l0_2 l0_3=some r)∧Aside0 (kq≤k)∧Aside0 (w'.heap[gb102]? = some (.cells #[(.slice A0_0 l0_0.length c0_0),(.slice A0_1 l0_1.length c0_1),(.slice A0_2 l0_2.length c0_2),(.slice A0_3 l0_3.length c0_3)] 25 (0,0)))∧Aside0 (Below w.heap.size w w'))
 case atStart=>exact ⟨(wrap64 ((a1.size:Int)+(a2.size:Int))),(0),bE,bE,H',⟨Nat.le_refl _⟩,⟨by (with_reducible repeat (first | refine fO ?_ _ | refine fX ?_ | refine fN ?_ _));exact BK102.out⟩,⟨aM⟩⟩
 case round =>
  clear H'
  (try clear hcz5_0);(try clear hcz5_1);(try clear hcz5_2);(try clear hcz5_3);(try clear hfz5_0);(try clear hfz5_1);(try clear hfz5_2);(try clear hfz5_3)
  obtain ⟨x7_1,x18_1,rfl,rfl,HA,HK1,BK102,HB⟩:=hrel
  cases gk with
  | zero=>exact absurd HA.out (by simp[gJ.l0])
  | succ k1 =>
   have H:=HA.out;clear HA;simp only[gJ.l0] at H
   by_cases c6:x18_1 < (l0_2.length:Int)
   ·rw[if_pos c6] at H;have c6b0:=decide_eq_true c6;clear c6
    by_cases c7:0≤x18_1
    ·rw[if_pos c7] at H;have c7b0:=decide_eq_true c7;clear c7
     by_cases c8:x18_1 < (l0_2.length:Int)
     ·rw[if_pos c8] at H;have c8b0:=decide_eq_true c8;clear c8;have H':=cH H;clear H;have p103:0≤(x18_1:Int):=cG;have q103:x18_1 < (l0_2.length:Int):=cG;obtain ⟨ad103,e103,hx103_0,hx103_1⟩:=nG HR0_2.out x18_1 p103 q103;cases e103;replace hx103_0:=(HB.out.cell (World.block_lt_of_cell? w _ hx103_0)).trans hx103_0;replace hx103_1:=(HB.out.cell (World.block_lt_of_cell? w _ hx103_1)).trans hx103_1;replace p103:=eq_true p103;replace q103:=eq_true q103
      go_wp2_with (first | ((with_reducible refine gN (N:=9) rfl ?_);refine gH ?hg (N:=9) ?hd (cs:=#[.string (⟨#[]⟩:ByteArray),.string (⟨#[]⟩:ByteArray)]) (t:=46) ?hr ?_;(case hd=>rfl);(case hg=>rfl);(case hr=>exact cL);intro gb104 hg w9 hbox hb;have n0_:=cH (gX (g:=gb102) (o:=.cells #[.slice A0_0 l0_0.length c0_0,.slice A0_1 l0_1.length c0_1,.slice (some ad103) l0_2.length c0_2,.slice A0_3 l0_3.length c0_3] 25 (0,0)) (by (with_reducible repeat (first | refine fO ?_ _ | refine fX ?_ | refine fN ?_ _));exact BK102.out) hb);have n1_:=cH (eB (by repeat (first | (with_reducible first | exact HB.out | apply fJ | apply fA | apply fM | refine gA ?_ GE102.out) | exact HB.out)) hb);have n2_:=cH (hbox);have n3_:=cH ((by rw[hg];exact (eP (by repeat (first | (with_reducible first | exact HB.out | apply fJ | apply fA | apply fM | refine gA ?_ GE102.out) | exact HB.out))):w.heap.size≤gb104));have n4_:=cH ((by rw[hg];exact (eP (by repeat (first | (with_reducible first | exact HB.out | apply fJ | apply fA | apply fM | refine gA ?_ GE102.out) | exact HB.out))):w.heap.size≤gb104));have n5_:=cH ((by rw[hg];exact Nat.ne_of_lt (pU (g:=gb102) (o:=.cells #[.slice A0_0 l0_0.length c0_0,.slice A0_1 l0_1.length c0_1,.slice (some ad103) l0_2.length c0_2,.slice A0_3 l0_3.length c0_3] 25 (0,0)) (by (with_reducible repeat (first | refine fO ?_ _ | refine fX ?_ | refine fN ?_ _));exact BK102.out)):gb102≠gb104));have n6_:=cH ((by rw[hg];exact Nat.ne_of_gt (pU (g:=gb102) (o:=.cells #[.slice A0_0 l0_0.length c0_0,.slice A0_1 l0_1.length c0_1,.slice (some ad103) l0_2.length c0_2,.slice A0_3 l0_3.length c0_3] 25 (0,0)) (by (with_reducible repeat (first | refine fO ?_ _ | refine fX ?_ | refine fN ?_ _));exact BK102.out)):gb104≠gb102));clear BK102;clear HB;have BK102:=n0_;have HB:=n1_;have BK104:=n2_;have GW104:=n3_;have GE104:=n4_;have NB102_104:=n5_;have NB104_102:=n6_;clear n0_ n1_ n2_ n3_ n4_ n5_ n6_;clear hb hbox hg;have hnb10:=NB104_102.out;have hnc10:=NB102_104.out;have hcz11_0:w9.cell? ⟨gb104,0,none⟩=some (.string (⟨#[]⟩:ByteArray)):=(eG BK104.out 0).trans rfl;have hcz11_1:w9.cell? ⟨gb104,1,none⟩=some (.string (⟨#[]⟩:ByteArray)):=(eG BK104.out 1).trans rfl;have hfz11_0:=eD BK104.out 0;have hfz11_1:=eD BK104.out 1))
      go_roundg k1
      case measure=>have:=HK1.out;omega
      case rel=>exact ⟨(wrap64 (x7_1+(wrap64 ((wrap64 (1+(((hJ l0_2 x18_1).f0).size:Int)))+(((hJ l0_2 x18_1).f1).size:Int))))),(wrap64 (x18_1+1)),bE,bE,H',⟨aT⟩,⟨by (with_reducible repeat (first | refine fO ?_ _ | refine fX ?_ | refine fN ?_ _));refine wG ?_ NB102_104.out _;(with_reducible repeat (first | refine fO ?_ _ | refine fX ?_ | refine fN ?_ _));refine wG ?_ NB102_104.out _;(with_reducible repeat (first | refine fO ?_ _ | refine fX ?_ | refine fN ?_ _));exact BK102.out⟩,⟨by repeat (first | (with_reducible first | exact HB.out | apply fJ | apply fA | apply fM | refine gA ?_ GE102.out | refine gA ?_ GE104.out) | exact HB.out)⟩⟩
     rw[if_neg c8] at H;exact absurd H bJ
    rw[if_neg c7] at H;exact absurd H bJ
   rw[if_neg c6] at H;have c6b0:=decide_eq_false c6;clear c6
   by_cases c12:x7_1≤2000
   ·rw[if_pos c12] at H;have c12b0:=decide_eq_true c12;clear c12;replace H:=Option.bind_eq_some_iff.mp H;obtain ⟨t105,A130,H⟩:=H;have A13:=cH A130;clear A130
    by_cases c14:t105=true
    ·subst c14;rw[if_pos rfl] at H;replace H:=Option.bind_eq_some_iff.mp H;obtain ⟨t106,A150,H⟩:=H;have A15:=cH A150;clear A150
     by_cases c16:t106=true
     ·subst c16;rw[if_pos rfl] at H;replace H:=Option.bind_eq_some_iff.mp H;obtain ⟨t107,A170,H⟩:=H;have A17:=cH A170;clear A170;obtain rfl:=Option.some.inj H;have hcz18_0:wr.cell? ⟨gb102,0,none⟩=some (.slice A0_0 l0_0.length c0_0):=(eG BK102.out 0).trans rfl;have hcz18_1:wr.cell? ⟨gb102,1,none⟩=some (.slice A0_1 l0_1.length c0_1):=(eG BK102.out 1).trans rfl;have hcz18_2:wr.cell? ⟨gb102,2,none⟩=some (.slice A0_2 l0_2.length c0_2):=(eG BK102.out 2).trans rfl;have hcz18_3:wr.cell? ⟨gb102,3,none⟩=some (.slice A0_3 l0_3.length c0_3):=(eG BK102.out 3).trans rfl;have hfz18_0:=eD BK102.out 0;have hfz18_1:=eD BK102.out 1;have hfz18_2:=eD BK102.out 2;have hfz18_3:=eD BK102.out 3
      go_wp2_with (first | (go_at_call 48;(with_reducible refine (gF.calls k1 _ _ l0_0 true _ ?side1 ?side2 A13.out).mono ?_);(case side1=>exact cM);(case side2=>exact HC0_0.out);rintro e w' ⟨rfl,⟨nd,rfl⟩⟩) | (go_at_call 48;(with_reducible refine (gF.calls k1 _ _ l0_1 true _ ?side1 ?side2 A15.out).mono ?_);(case side1=>exact cN);(case side2=>exact HC0_1.out);rintro e w' ⟨rfl,⟨nd,rfl⟩⟩) | (go_at_call 48;(with_reducible refine (gF.calls k1 _ _ l0_3 t107 _ ?side1 ?side2 A17.out).mono ?_);(case side1=>repeat (first | exact (Kd.C_below HR0_3.out (by repeat (first | (with_reducible first | exact HB.out | apply fJ | apply fA | apply fM | refine gA ?_ GE102.out) | exact HB.out))) | (with_reducible refine Kd.C_alloc ?_ _) | (with_reducible refine Kd.C_drewN ?_ _) | (with_reducible refine Kd.C_drew ?_)));(case side2=>exact HC0_3.out);rintro e w' ⟨rfl,⟨nd,rfl⟩⟩))
      go_ret;exact ⟨aC,aM⟩
     replace c16:=Bool.eq_false_iff.mpr c16;subst c16;rw[if_neg (show ¬ (false=true) by decide)] at H;obtain rfl:=Option.some.inj H;have hcz19_0:wr.cell? ⟨gb102,0,none⟩=some (.slice A0_0 l0_0.length c0_0):=(eG BK102.out 0).trans rfl;have hcz19_1:wr.cell? ⟨gb102,1,none⟩=some (.slice A0_1 l0_1.length c0_1):=(eG BK102.out 1).trans rfl;have hcz19_2:wr.cell? ⟨gb102,2,none⟩=some (.slice A0_2 l0_2.length c0_2):=(eG BK102.out 2).trans rfl;have hcz19_3:wr.cell? ⟨gb102,3,none⟩=some (.slice A0_3 l0_3.length c0_3):=(eG BK102.out 3).trans rfl;have hfz19_0:=eD BK102.out 0;have hfz19_1:=eD BK102.out 1;have hfz19_2:=eD BK102.out 2;have hfz19_3:=eD BK102.out 3
     go_wp2_with (first | (go_at_call 48;(with_reducible refine (gF.calls k1 _ _ l0_0 true _ ?side1 ?side2 A13.out).mono ?_);(case side1=>exact cM);(case side2=>exact HC0_0.out);rintro e w' ⟨rfl,⟨nd,rfl⟩⟩) | (go_at_call 48;(with_reducible refine (gF.calls k1 _ _ l0_1 false _ ?side1 ?side2 A15.out).mono ?_);(case side1=>exact cN);(case side2=>exact HC0_1.out);rintro e w' ⟨rfl,⟨nd,rfl⟩⟩))
     go_ret;exact ⟨aC,aM⟩
    replace c14:=Bool.eq_false_iff.mpr c14;subst c14;rw[if_neg (show ¬ (false=true) by decide)] at H;obtain rfl:=Option.some.inj H;have hcz20_0:wr.cell? ⟨gb102,0,none⟩=some (.slice A0_0 l0_0.length c0_0):=(eG BK102.out 0).trans rfl;have hcz20_1:wr.cell? ⟨gb102,1,none⟩=some (.slice A0_1 l0_1.length c0_1):=(eG BK102.out 1).trans rfl;have hcz20_2:wr.cell? ⟨gb102,2,none⟩=some (.slice A0_2 l0_2.length c0_2):=(eG BK102.out 2).trans rfl;have hcz20_3:wr.cell? ⟨gb102,3,none⟩=some (.slice A0_3 l0_3.length c0_3):=(eG BK102.out 3).trans rfl;have hfz20_0:=eD BK102.out 0;have hfz20_1:=eD BK102.out 1;have hfz20_2:=eD BK102.out 2;have hfz20_3:=eD BK102.out 3
    go_wp2_with (first | (go_at_call 48;(with_reducible refine (gF.calls k1 _ _ l0_0 false _ ?side1 ?side2 A13.out).mono ?_);(case side1=>exact cM);(case side2=>exact HC0_0.out);rintro e w' ⟨rfl,⟨nd,rfl⟩⟩))
    go_ret;exact ⟨aC,aM⟩
   rw[if_neg c12] at H;have c12b0:=decide_eq_false c12;clear c12;obtain rfl:=Option.some.inj H;go_wp2;go_ret;exact ⟨aC,aM⟩
def fP.l0:Nat→List ByteArray→ByteArray→Int→Option (Bool)
 | 0,_,_,_=>none
 | k+1,x0,x1,x5=>if x5 < (x0.length:Int) then (if 0≤x5 then (if (gE ByteArray.empty x0 x5).toList=x1.toList then (some true) else (fP.l0 k x0 x1 (wrap64 (x5+1)))) else (none)) else (some false)
def fP.f (k:Nat) (l0:List ByteArray) (a1:ByteArray):Option (Bool):=fP.l0 k l0 a1 0
theorem fP.mono_l:∀ k,(∀ y0 y1 y2,LeO (fP.l0 k y0 y1 y2) (fP.l0 (k+1) y0 y1 y2))
 | 0=>fun _ _ _ r h=>by simp[fP.l0] at h
 | k+1=>by
  have ih0:=fP.mono_l k
  intro y0 y1 y2;unfold fP.l0
  exact dC
theorem fP.mono:∀ a0 a1 k,LeO (fP.f k a0 a1) (fP.f (k+1) a0 a1):=by
 intro a0 a1 k;have ih0:=fP.mono_l k;unfold fP.f
 exact dC
theorem fP.calls (k:Nat) (A0:Option Addr) (c0:Nat) (l0:List ByteArray) (a1:ByteArray) (r:Bool) (w:World) (hr0:Kd.C Kd.string w A0 l0.length l0) (hc0:l0.length≤c0) (h:fP.f k l0 a1=some r) :
 Calls Tryz.prog 84 #[.slice A0 l0.length c0,.string a1] w fun e w'=>e = .returned (.bool r)∧eW w w':=by
 have HR0:=cH hr0;have HC0:=cH hc0;clear hr0 hc0;unfold fP.f at h;have H:=h;clear h;have H':=cH H;clear H;go_enter Tryz.func84,Tryz.ntmps84;go_wp2
 go_loopg [5] k (fun kq v5 w'=>∃ (x5_1:Int),v5 = .int .i64 x5_1∧Aside0 (fP.l0 kq l0 a1 x5_1=some r)∧Aside0 (kq≤k)∧eW w w')
 case atStart=>exact ⟨(0),bE,H',⟨Nat.le_refl _⟩,dM⟩
 case round =>
  clear H'
  obtain ⟨x5_1,rfl,HA,HK1,⟨m1,rfl⟩⟩:=hrel
  cases gk with
  | zero=>exact absurd HA.out (by simp[fP.l0])
  | succ k1 =>
   have H:=HA.out;clear HA;simp only[fP.l0] at H
   by_cases c3:x5_1 < (l0.length:Int)
   ·rw[if_pos c3] at H;have c3b0:=decide_eq_true c3;clear c3
    by_cases c4:0≤x5_1
    ·rw[if_pos c4] at H;have c4b0:=decide_eq_true c4;clear c4
     by_cases c5:(gE ByteArray.empty l0 x5_1).toList=a1.toList
     ·rw[if_pos c5] at H;have c5b0:=beq_iff_eq.mpr c5;have c5b1:=bne_eq_false_iff_eq.mpr c5;clear c5;obtain rfl:=Option.some.inj H;have p108:0≤(x5_1:Int):=cG;have q108:x5_1 < (l0.length:Int):=cG;obtain ⟨ad108,e108,hx108_0⟩:=Kd.at_string HR0.out x5_1 p108 q108;cases e108;replace p108:=eq_true p108;replace q108:=eq_true q108;go_wp2;go_ret;exact ⟨bE,dM⟩
     rw[if_neg c5] at H;have c5b0:=beq_eq_false_iff_ne.mpr c5;have c5b1:=bne_iff_ne.mpr c5;have H':=cH H;clear H;have p108:0≤(x5_1:Int):=cG;have q108:x5_1 < (l0.length:Int):=cG;obtain ⟨ad108,e108,hx108_0⟩:=Kd.at_string HR0.out x5_1 p108 q108;cases e108;replace p108:=eq_true p108;replace q108:=eq_true q108;go_wp2
     go_roundg k1
     case measure=>have:=HK1.out;omega
     case rel=>exact ⟨(wrap64 (x5_1+1)),bE,H',⟨aT⟩,dM⟩
    rw[if_neg c4] at H;exact absurd H bJ
   rw[if_neg c3] at H;have c3b0:=decide_eq_false c3;clear c3;obtain rfl:=Option.some.inj H;go_wp2;go_ret;exact ⟨bE,dM⟩
def eR.l0:Nat→ByteArray→Int→Option (Bool)
 | 0,_,_=>none
 | k+1,x0,x3=>if x3 < (x0.size:Int) then (if 0≤x3 then (if (bt x0 x3) < 97 then (if (bt x0 x3) < 48 then (if (bt x0 x3)=45 then (eR.l0 k x0 (wrap64 (x3+1))) else (some false)) else (if (bt x0 x3) > 57 then (if (bt x0 x3)=45 then (eR.l0 k x0 (wrap64 (x3+1))) else (some false)) else (eR.l0 k x0 (wrap64 (x3+1))))) else (if (bt x0 x3) > 122 then (if (bt x0 x3) < 48 then (if (bt x0 x3)=45 then (eR.l0 k x0 (wrap64 (x3+1))) else (some false)) else (if (bt x0 x3) > 57 then (if (bt x0 x3)=45 then (eR.l0 k x0 (wrap64 (x3+1))) else (some false)) else (eR.l0 k x0 (wrap64 (x3+1))))) else (eR.l0 k x0 (wrap64 (x3+1))))) else (none)) else (if x0.toList=([]:List UInt8) then (some false) else (some (decide ((x0.size:Int)≤20))))
def eR.f (k:Nat) (a0:ByteArray):Option (Bool):=eR.l0 k a0 0
theorem eR.mono_l:∀ k,(∀ y0 y1,LeO (eR.l0 k y0 y1) (eR.l0 (k+1) y0 y1))
 | 0=>fun _ _ r h=>by simp[eR.l0] at h
 | k+1=>by
  have ih0:=eR.mono_l k
  intro y0 y1;unfold eR.l0
  exact dD
theorem eR.mono:∀ a0 k,LeO (eR.f k a0) (eR.f (k+1) a0):=by
 intro a0 k;have ih0:=eR.mono_l k;unfold eR.f
 exact dD
theorem eR.calls (k:Nat) (a0:ByteArray) (r:Bool) (w:World) (h:eR.f k a0=some r) :
 Calls Tryz.prog 85 #[.string a0] w fun e w'=>e = .returned (.bool r)∧eW w w':=by
 unfold eR.f at h;have H:=h;clear h;have H':=cH H;clear H;go_enter Tryz.func85,Tryz.ntmps85;go_wp2
 go_loopg [3] k (fun kq v3 w'=>∃ (x3_1:Int),v3 = .int .i64 x3_1∧Aside0 (eR.l0 kq a0 x3_1=some r)∧Aside0 (kq≤k)∧eW w w')
 case atStart=>exact ⟨(0),bE,H',⟨Nat.le_refl _⟩,dM⟩
 case round =>
  clear H';obtain ⟨x3_1,rfl,HA,HK1,⟨m1,rfl⟩⟩:=hrel
  cases gk with
  | zero=>exact absurd HA.out (by simp[eR.l0])
  | succ k1 =>
   have H:=HA.out;clear HA;simp only[eR.l0] at H
   by_cases c2:x3_1 < (a0.size:Int)
   ·rw[if_pos c2] at H;have c2b0:=decide_eq_true c2;clear c2
    by_cases c3:0≤x3_1
    ·rw[if_pos c3] at H;have c3b0:=decide_eq_true c3;clear c3
     by_cases c5:(bt a0 x3_1) < 97
     ·rw[if_pos c5] at H;have c5b0:=decide_eq_true c5;clear c5
      by_cases c7:(bt a0 x3_1) < 48
      ·rw[if_pos c7] at H;have c7b0:=decide_eq_true c7;clear c7
       by_cases c9:(bt a0 x3_1)=45
       ·rw[if_pos c9] at H;have c9b0:=beq_iff_eq.mpr c9;have c9b1:=bne_eq_false_iff_eq.mpr c9;clear c9;have H':=cH H;clear H;have p4:0≤(x3_1:Int):=cG;have q4:x3_1 < (a0.size:Int):=cG;have hx4:=eX a0 x3_1;replace p4:=eq_true p4;replace q4:=eq_true q4;have p6:0≤(x3_1:Int):=cG;have q6:x3_1 < (a0.size:Int):=cG;have hx6:=eX a0 x3_1;replace p6:=eq_true p6;replace q6:=eq_true q6;have p8:0≤(x3_1:Int):=cG
        have q8:x3_1 < (a0.size:Int):=cG;have hx8:=eX a0 x3_1;replace p8:=eq_true p8;replace q8:=eq_true q8;go_wp2
        go_roundg k1
        case measure=>have:=HK1.out;omega
        case rel=>exact ⟨(wrap64 (x3_1+1)),bE,H',⟨aT⟩,dM⟩
       rw[if_neg c9] at H;have c9b0:=beq_eq_false_iff_ne.mpr c9;have c9b1:=bne_iff_ne.mpr c9;obtain rfl:=Option.some.inj H;have p4:0≤(x3_1:Int):=cG;have q4:x3_1 < (a0.size:Int):=cG;have hx4:=eX a0 x3_1;replace p4:=eq_true p4;replace q4:=eq_true q4;have p6:0≤(x3_1:Int):=cG;have q6:x3_1 < (a0.size:Int):=cG;have hx6:=eX a0 x3_1;replace p6:=eq_true p6;replace q6:=eq_true q6;have p8:0≤(x3_1:Int):=cG
       have q8:x3_1 < (a0.size:Int):=cG;have hx8:=eX a0 x3_1;replace p8:=eq_true p8;replace q8:=eq_true q8;go_wp2;go_ret;exact ⟨bE,dM⟩
      rw[if_neg c7] at H;have c7b0:=decide_eq_false c7;clear c7
      by_cases c11:(bt a0 x3_1) > 57
      ·rw[if_pos c11] at H;have c11b0:=decide_eq_true c11;clear c11
       by_cases c13:(bt a0 x3_1)=45
       ·rw[if_pos c13] at H;have c13b0:=beq_iff_eq.mpr c13;have c13b1:=bne_eq_false_iff_eq.mpr c13;clear c13;have H':=cH H;clear H;have p4:0≤(x3_1:Int):=cG;have q4:x3_1 < (a0.size:Int):=cG;have hx4:=eX a0 x3_1;replace p4:=eq_true p4;replace q4:=eq_true q4;have p6:0≤(x3_1:Int):=cG;have q6:x3_1 < (a0.size:Int):=cG;have hx6:=eX a0 x3_1;replace p6:=eq_true p6;replace q6:=eq_true q6;have p10:0≤(x3_1:Int):=cG
        have q10:x3_1 < (a0.size:Int):=cG;have hx10:=eX a0 x3_1;replace p10:=eq_true p10;replace q10:=eq_true q10;have p12:0≤(x3_1:Int):=cG;have q12:x3_1 < (a0.size:Int):=cG;have hx12:=eX a0 x3_1;replace p12:=eq_true p12;replace q12:=eq_true q12;go_wp2
        go_roundg k1
        case measure=>have:=HK1.out;omega
        case rel=>exact ⟨(wrap64 (x3_1+1)),bE,H',⟨aT⟩,dM⟩
       rw[if_neg c13] at H;have c13b0:=beq_eq_false_iff_ne.mpr c13;have c13b1:=bne_iff_ne.mpr c13;obtain rfl:=Option.some.inj H;have p4:0≤(x3_1:Int):=cG;have q4:x3_1 < (a0.size:Int):=cG;have hx4:=eX a0 x3_1;replace p4:=eq_true p4;replace q4:=eq_true q4;have p6:0≤(x3_1:Int):=cG;have q6:x3_1 < (a0.size:Int):=cG;have hx6:=eX a0 x3_1;replace p6:=eq_true p6;replace q6:=eq_true q6;have p10:0≤(x3_1:Int):=cG
       have q10:x3_1 < (a0.size:Int):=cG;have hx10:=eX a0 x3_1;replace p10:=eq_true p10;replace q10:=eq_true q10;have p12:0≤(x3_1:Int):=cG;have q12:x3_1 < (a0.size:Int):=cG;have hx12:=eX a0 x3_1;replace p12:=eq_true p12;replace q12:=eq_true q12;go_wp2;go_ret;exact ⟨bE,dM⟩
      rw[if_neg c11] at H;have c11b0:=decide_eq_false c11;clear c11;have H':=cH H;clear H;have p4:0≤(x3_1:Int):=cG;have q4:x3_1 < (a0.size:Int):=cG;have hx4:=eX a0 x3_1;replace p4:=eq_true p4;replace q4:=eq_true q4;have p6:0≤(x3_1:Int):=cG;have q6:x3_1 < (a0.size:Int):=cG;have hx6:=eX a0 x3_1;replace p6:=eq_true p6;replace q6:=eq_true q6;have p10:0≤(x3_1:Int):=cG
      have q10:x3_1 < (a0.size:Int):=cG;have hx10:=eX a0 x3_1;replace p10:=eq_true p10;replace q10:=eq_true q10;go_wp2
      go_roundg k1
      case measure=>have:=HK1.out;omega
      case rel=>exact ⟨(wrap64 (x3_1+1)),bE,H',⟨aT⟩,dM⟩
     rw[if_neg c5] at H;have c5b0:=decide_eq_false c5;clear c5
     by_cases c15:(bt a0 x3_1) > 122
     ·rw[if_pos c15] at H;have c15b0:=decide_eq_true c15;clear c15
      by_cases c17:(bt a0 x3_1) < 48
      ·rw[if_pos c17] at H;have c17b0:=decide_eq_true c17;clear c17
       by_cases c19:(bt a0 x3_1)=45
       ·rw[if_pos c19] at H;have c19b0:=beq_iff_eq.mpr c19;have c19b1:=bne_eq_false_iff_eq.mpr c19;clear c19;have H':=cH H;clear H;have p4:0≤(x3_1:Int):=cG;have q4:x3_1 < (a0.size:Int):=cG;have hx4:=eX a0 x3_1;replace p4:=eq_true p4;replace q4:=eq_true q4;have p14:0≤(x3_1:Int):=cG;have q14:x3_1 < (a0.size:Int):=cG;have hx14:=eX a0 x3_1;replace p14:=eq_true p14;replace q14:=eq_true q14;have p16:0≤(x3_1:Int):=cG
        have q16:x3_1 < (a0.size:Int):=cG;have hx16:=eX a0 x3_1;replace p16:=eq_true p16;replace q16:=eq_true q16;have p18:0≤(x3_1:Int):=cG;have q18:x3_1 < (a0.size:Int):=cG;have hx18:=eX a0 x3_1;replace p18:=eq_true p18;replace q18:=eq_true q18;go_wp2
        go_roundg k1
        case measure=>have:=HK1.out;omega
        case rel=>exact ⟨(wrap64 (x3_1+1)),bE,H',⟨aT⟩,dM⟩
       rw[if_neg c19] at H;have c19b0:=beq_eq_false_iff_ne.mpr c19;have c19b1:=bne_iff_ne.mpr c19;obtain rfl:=Option.some.inj H;have p4:0≤(x3_1:Int):=cG;have q4:x3_1 < (a0.size:Int):=cG;have hx4:=eX a0 x3_1;replace p4:=eq_true p4;replace q4:=eq_true q4;have p14:0≤(x3_1:Int):=cG;have q14:x3_1 < (a0.size:Int):=cG;have hx14:=eX a0 x3_1;replace p14:=eq_true p14;replace q14:=eq_true q14;have p16:0≤(x3_1:Int):=cG
       have q16:x3_1 < (a0.size:Int):=cG;have hx16:=eX a0 x3_1;replace p16:=eq_true p16;replace q16:=eq_true q16;have p18:0≤(x3_1:Int):=cG;have q18:x3_1 < (a0.size:Int):=cG;have hx18:=eX a0 x3_1;replace p18:=eq_true p18;replace q18:=eq_true q18;go_wp2;go_ret;exact ⟨bE,dM⟩
      rw[if_neg c17] at H;have c17b0:=decide_eq_false c17;clear c17
      by_cases c21:(bt a0 x3_1) > 57
      ·rw[if_pos c21] at H;have c21b0:=decide_eq_true c21;clear c21
       by_cases c23:(bt a0 x3_1)=45
       ·rw[if_pos c23] at H;have c23b0:=beq_iff_eq.mpr c23;have c23b1:=bne_eq_false_iff_eq.mpr c23;clear c23;have H':=cH H;clear H;have p4:0≤(x3_1:Int):=cG;have q4:x3_1 < (a0.size:Int):=cG;have hx4:=eX a0 x3_1;replace p4:=eq_true p4;replace q4:=eq_true q4;have p14:0≤(x3_1:Int):=cG;have q14:x3_1 < (a0.size:Int):=cG;have hx14:=eX a0 x3_1;replace p14:=eq_true p14;replace q14:=eq_true q14;have p16:0≤(x3_1:Int):=cG
        have q16:x3_1 < (a0.size:Int):=cG;have hx16:=eX a0 x3_1;replace p16:=eq_true p16;replace q16:=eq_true q16;have p20:0≤(x3_1:Int):=cG;have q20:x3_1 < (a0.size:Int):=cG;have hx20:=eX a0 x3_1;replace p20:=eq_true p20;replace q20:=eq_true q20;have p22:0≤(x3_1:Int):=cG;have q22:x3_1 < (a0.size:Int):=cG;have hx22:=eX a0 x3_1;replace p22:=eq_true p22;replace q22:=eq_true q22;go_wp2
        go_roundg k1
        case measure=>have:=HK1.out;omega
        case rel=>exact ⟨(wrap64 (x3_1+1)),bE,H',⟨aT⟩,dM⟩
       rw[if_neg c23] at H;have c23b0:=beq_eq_false_iff_ne.mpr c23;have c23b1:=bne_iff_ne.mpr c23;obtain rfl:=Option.some.inj H;have p4:0≤(x3_1:Int):=cG;have q4:x3_1 < (a0.size:Int):=cG;have hx4:=eX a0 x3_1;replace p4:=eq_true p4;replace q4:=eq_true q4;have p14:0≤(x3_1:Int):=cG;have q14:x3_1 < (a0.size:Int):=cG;have hx14:=eX a0 x3_1;replace p14:=eq_true p14;replace q14:=eq_true q14;have p16:0≤(x3_1:Int):=cG
       have q16:x3_1 < (a0.size:Int):=cG;have hx16:=eX a0 x3_1;replace p16:=eq_true p16;replace q16:=eq_true q16;have p20:0≤(x3_1:Int):=cG;have q20:x3_1 < (a0.size:Int):=cG;have hx20:=eX a0 x3_1;replace p20:=eq_true p20;replace q20:=eq_true q20;have p22:0≤(x3_1:Int):=cG;have q22:x3_1 < (a0.size:Int):=cG;have hx22:=eX a0 x3_1;replace p22:=eq_true p22;replace q22:=eq_true q22;go_wp2;go_ret
       exact ⟨bE,dM⟩
      rw[if_neg c21] at H;have c21b0:=decide_eq_false c21;clear c21;have H':=cH H;clear H;have p4:0≤(x3_1:Int):=cG;have q4:x3_1 < (a0.size:Int):=cG;have hx4:=eX a0 x3_1;replace p4:=eq_true p4;replace q4:=eq_true q4;have p14:0≤(x3_1:Int):=cG;have q14:x3_1 < (a0.size:Int):=cG;have hx14:=eX a0 x3_1;replace p14:=eq_true p14;replace q14:=eq_true q14;have p16:0≤(x3_1:Int):=cG
      have q16:x3_1 < (a0.size:Int):=cG;have hx16:=eX a0 x3_1;replace p16:=eq_true p16;replace q16:=eq_true q16;have p20:0≤(x3_1:Int):=cG;have q20:x3_1 < (a0.size:Int):=cG;have hx20:=eX a0 x3_1;replace p20:=eq_true p20;replace q20:=eq_true q20;go_wp2
      go_roundg k1
      case measure=>have:=HK1.out;omega
      case rel=>exact ⟨(wrap64 (x3_1+1)),bE,H',⟨aT⟩,dM⟩
     rw[if_neg c15] at H;have c15b0:=decide_eq_false c15;clear c15;have H':=cH H;clear H;have p4:0≤(x3_1:Int):=cG;have q4:x3_1 < (a0.size:Int):=cG;have hx4:=eX a0 x3_1;replace p4:=eq_true p4;replace q4:=eq_true q4;have p14:0≤(x3_1:Int):=cG;have q14:x3_1 < (a0.size:Int):=cG;have hx14:=eX a0 x3_1;replace p14:=eq_true p14;replace q14:=eq_true q14;go_wp2
     go_roundg k1
     case measure=>have:=HK1.out;omega
     case rel=>exact ⟨(wrap64 (x3_1+1)),bE,H',⟨aT⟩,dM⟩
    rw[if_neg c3] at H;exact absurd H bJ
   rw[if_neg c2] at H;have c2b0:=decide_eq_false c2;clear c2
   by_cases c24:a0.toList=([]:List UInt8)
   ·rw[if_pos c24] at H;have c24b0:=beq_iff_eq.mpr c24;have c24b1:=bne_eq_false_iff_eq.mpr c24;clear c24;obtain rfl:=Option.some.inj H;go_wp2;go_ret;exact ⟨bE,dM⟩
   rw[if_neg c24] at H;have c24b0:=beq_eq_false_iff_ne.mpr c24;have c24b1:=bne_iff_ne.mpr c24;obtain rfl:=Option.some.inj H;go_wp2;go_ret;exact ⟨bE,dM⟩
end Go.Proofs.YtcdgldnphhidlaaGreatDoor.PCore
