/- Texts that the law leans on: PCorex1. Condition: as told at each. -/
import Derived.Test.YtmgdbpjidkdegaaGreatDoorQa
import Derived.Test.YtmgdbpjidkdegaaGreatDoorQ8
set_option linter.unusedVariables false
set_option linter.unusedSimpArgs false
namespace Go.Proofs.YtmgdbpjidkdegaaGreatDoor.PCore
open Go.RowKit Go.Proofs.YtmgdbpjidkdegaaGreatDoorW.PrintWords Go.Proofs.YtmgdbpjidkdegaaGreatDoorW.PrintLast Go.Proofs.YtmgdbpjidkdegaaGreatDoorW.PrintMore
attribute [local go_sem] max2_int min2_int max_two min_two max_three min_three max_four min_four   -- for this text's walks alone
set_option linter.unusedVariables false
set_option linter.unusedSimpArgs false
def laws_few.l0:Nat→Int→List ByteArray→Int→Int→Option (Bool)
 | 0,_,_,_,_=>none
 | k+1,x3,x8,x9,x10=>if x10 < x9 then (if 0≤x10 then (if x10 < (x8.length:Int) then (laws_few.l0 k (wrap64 (x3+((rdOf ByteArray.empty x8 x10).size:Int))) x8 x9 (wrap64 (x10+1))) else (none)) else (none)) else (some (decide (x3≤2000)))
def laws_few.f (k:Nat) (l0:List ByteArray):Option (Bool):=laws_few.l0 k (l0.length:Int) l0 (l0.length:Int) 0
theorem laws_few.mono_l:∀ k,(∀ y0 y1 y2 y3,LeO (laws_few.l0 k y0 y1 y2 y3) (laws_few.l0 (k+1) y0 y1 y2 y3))
 | 0=>fun _ _ _ _ r h=>by simp[laws_few.l0] at h
 | k+1=>by
  have ih0:=laws_few.mono_l k
  ·intro y0 y1 y2 y3;unfold laws_few.l0
   exact cL
theorem laws_few.mono:∀ a0 k,LeO (laws_few.f k a0) (laws_few.f (k+1) a0):=by
 intro a0 k;have ih0:=laws_few.mono_l k;unfold laws_few.f
 exact cL
set_option maxHeartbeats 8000000 in
set_option maxRecDepth 100000 in
theorem laws_few.calls (k:Nat) (A0:Option Addr) (c0:Nat) (l0:List ByteArray) (r:Bool) (w:World) (hr0:Kd.C Kd.string w A0 l0.length l0) (hc0:l0.length≤c0) (h:laws_few.f k l0=some r) :
 Calls Tryz.prog 43 #[.slice A0 l0.length c0] w fun e w'=>e = .returned (.bool r)∧Drawn0 w w':=by
 have HR0:=bR hr0;have HC0:=bR hc0;clear hr0 hc0;have H:(laws_few.l0 k (l0.length:Int) l0 (l0.length:Int) 0)=some r:=h;clear h;have H':=bR H;clear H;go_enter Tryz.func43,Tryz.ntmps43;go_wp2
 go_loopg [3,10] k (fun kq v3 v10 w'=>∃ (x3_1:Int) (x10_1:Int),v3 = .int .i64 x3_1∧v10 = .int .i64 x10_1∧Aside0 (laws_few.l0 kq x3_1 l0 (l0.length:Int) x10_1=some r)∧Aside0 (kq≤k)∧Drawn0 w w')
 case atStart=>exact ⟨((l0.length:Int)),(0),bE,bE,H',⟨Nat.le_refl _⟩,dA⟩
 case round =>
  clear H';obtain ⟨x3_1,x10_1,rfl,rfl,HA,HK1,⟨m1,rfl⟩⟩:=hrel
  cases gk with
  | zero=>exact absurd HA.out (by simp[laws_few.l0])
  | succ k1 =>
   have H:=HA.out;clear HA;simp only[laws_few.l0] at H
   by_cases c2:x10_1 < (l0.length:Int)
   ·rw[if_pos c2] at H;have c2b0:decide (x10_1 < (l0.length:Int))=true:=decide_eq_true c2;clear c2
    by_cases c3:0≤x10_1
    ·rw[if_pos c3] at H;have c3b0:decide (0≤x10_1)=true:=decide_eq_true c3;clear c3
     by_cases c4:x10_1 < (l0.length:Int)
     ·rw[if_pos c4] at H;have c4b0:decide (x10_1 < (l0.length:Int))=true:=decide_eq_true c4;clear c4;have H':=bR H;clear H;have p101:0≤(x10_1:Int):=bQ;have q101:x10_1 < (l0.length:Int):=bQ;obtain ⟨ad101,e101,hx101_0⟩:=Kd.at_string HR0.out x10_1 p101 q101;cases e101;replace p101:=eq_true p101;replace q101:=eq_true q101;go_wp2
      go_roundg k1
      case measure=>have:=HK1.out;omega
      case rel=>exact ⟨(wrap64 (x3_1+((rdOf ByteArray.empty l0 x10_1).size:Int))),(wrap64 (x10_1+1)),bE,bE,H',⟨by have:=HK1.out;omega⟩,dA⟩
     ·rw[if_neg c4] at H;exact absurd H bI
    ·rw[if_neg c3] at H;exact absurd H bI
   ·rw[if_neg c2] at H;have c2b0:decide (x10_1 < (l0.length:Int))=false:=decide_eq_false c2;clear c2;obtain rfl:=Option.some.inj H;go_wp2;go_ret;exact ⟨cZ,dA⟩
def laws_short.l0:Nat→Int→List (S43)→Int→Int→List ByteArray→List ByteArray→List (S43)→List ByteArray→Option (Bool)
 | 0,_,_,_,_,_,_,_,_=>none
 | k+1,x7,x16,x17,x18,x103000,x103001,x103002,x103003=>if x18 < x17 then (if 0≤x18 then (if x18 < (x16.length:Int) then (laws_short.l0 k (wrap64 (x7+(wrap64 ((wrap64 (1+(((rd_T43 x16 x18).f0).size:Int)))+(((rd_T43 x16 x18).f1).size:Int))))) x16 x17 (wrap64 (x18+1)) x103000 x103001 x103002 x103003) else (none)) else (none)) else (if x7≤2000 then ((laws_few.f k x103000).bind fun t105=>(if t105=true then ((laws_few.f k x103001).bind fun t106=>(if t106=true then ((laws_few.f k x103003).bind fun t107=>(some t107)) else (some false))) else (some false))) else (some false))
def laws_short.f (k:Nat) (l0_0:List ByteArray) (l0_1:List ByteArray) (l0_2:List (S43)) (l0_3:List ByteArray) (a1:ByteArray) (a2:ByteArray):Option (Bool):=laws_short.l0 k (wrap64 ((a1.size:Int)+(a2.size:Int))) l0_2 (l0_2.length:Int) 0 l0_0 l0_1 l0_2 l0_3
theorem laws_short.mono_l:∀ k,(∀ y0 y1 y2 y3 y4 y5 y6 y7,LeO (laws_short.l0 k y0 y1 y2 y3 y4 y5 y6 y7) (laws_short.l0 (k+1) y0 y1 y2 y3 y4 y5 y6 y7))
 | 0=>fun _ _ _ _ _ _ _ _ r h=>by simp[laws_short.l0] at h
 | k+1=>by
  have ih0:=laws_short.mono_l k
  ·intro y0 y1 y2 y3 y4 y5 y6 y7;unfold laws_short.l0
   exact cM
theorem laws_short.mono:∀ a0 a1 a2 a3 a4 a5 k,LeO (laws_short.f k a0 a1 a2 a3 a4 a5) (laws_short.f (k+1) a0 a1 a2 a3 a4 a5):=by
 intro a0 a1 a2 a3 a4 a5 k;have ih0:=laws_short.mono_l k;unfold laws_short.f
 exact cM
set_option maxHeartbeats 8000000 in
set_option maxRecDepth 100000 in
theorem laws_short.calls (k:Nat) (A0_0:Option Addr) (c0_0:Nat) (l0_0:List ByteArray) (A0_1:Option Addr) (c0_1:Nat) (l0_1:List ByteArray) (A0_2:Option Addr) (c0_2:Nat) (l0_2:List (S43)) (A0_3:Option Addr) (c0_3:Nat) (l0_3:List ByteArray) (a1:ByteArray) (a2:ByteArray) (r:Bool) (w:World) (hr0_0:Kd.C Kd.string w A0_0 l0_0.length l0_0) (hc0_0:l0_0.length≤c0_0) (hr0_1:Kd.C Kd.string w A0_1 l0_1.length l0_1) (hc0_1:l0_1.length≤c0_1) (hr0_2:Kd.C k43 w A0_2 l0_2.length l0_2) (hc0_2:l0_2.length≤c0_2) (hr0_3:Kd.C Kd.string w A0_3 l0_3.length l0_3) (hc0_3:l0_3.length≤c0_3) (h:laws_short.f k l0_0 l0_1 l0_2 l0_3 a1 a2=some r) :
 Calls Tryz.prog 44 #[.agg #[.slice A0_0 l0_0.length c0_0,.slice A0_1 l0_1.length c0_1,.slice A0_2 l0_2.length c0_2,.slice A0_3 l0_3.length c0_3],.string a1,.string a2] w fun e w'=>e = .returned (.bool r)∧Below w.heap.size w w':=by
 have hu25:=Tryz.underlying25;have hu43:=Tryz.underlying43;have HR0_0:=bR hr0_0;have HC0_0:=bR hc0_0;clear hr0_0 hc0_0;have HR0_1:=bR hr0_1;have HC0_1:=bR hc0_1;clear hr0_1 hc0_1;have HR0_2:=bR hr0_2;have HC0_2:=bR hc0_2;clear hr0_2 hc0_2;have HR0_3:=bR hr0_3;have HC0_3:=bR hc0_3;clear hr0_3 hc0_3;have HB:=bR (Below.refl w.heap.size w);have H:(laws_short.l0 k (wrap64 ((a1.size:Int)+(a2.size:Int))) l0_2 (l0_2.length:Int) 0 l0_0 l0_1 l0_2 l0_3)=some r:=h;clear h;have H':=bR H;clear H;go_enter Tryz.func44,Tryz.ntmps44
 go_wp2_with (first | ((with_reducible refine gate_dst (N:=3) rfl ?_);refine box_event ?hg (N:=3) ?hd (cs:=#[.slice A0_0 l0_0.length c0_0,.slice A0_1 l0_1.length c0_1,.slice A0_2 l0_2.length c0_2,.slice A0_3 l0_3.length c0_3]) (t:=25) ?hr ?_;(case hd=>rfl);(case hg=>rfl);(case hr=>exact bV);intro gb102 hg w4 hbox hb;have n0_:=bR (below_step bC hb);have n1_:=bR (hbox);have n2_:=bR ((by rw[hg];exact (below_size bC):w.heap.size≤gb102));have n3_:=bR ((by rw[hg];exact (below_size bC):w.heap.size≤gb102));clear HB;have HB:=n0_;have BK102:=n1_;have GW102:=n2_;have GE102:=n3_;clear n0_ n1_ n2_ n3_;clear hb hbox hg;have hcz5_0:w4.cell? ⟨gb102,0,none⟩=some (.slice A0_0 l0_0.length c0_0):=(blk_cell BK102.out 0).trans rfl;have hcz5_1:w4.cell? ⟨gb102,1,none⟩=some (.slice A0_1 l0_1.length c0_1):=(blk_cell BK102.out 1).trans rfl;have hcz5_2:w4.cell? ⟨gb102,2,none⟩=some (.slice A0_2 l0_2.length c0_2):=(blk_cell BK102.out 2).trans rfl;have hcz5_3:w4.cell? ⟨gb102,3,none⟩=some (.slice A0_3 l0_3.length c0_3):=(blk_cell BK102.out 3).trans rfl;have hfz5_0:=blk_frozen BK102.out 0;have hfz5_1:=blk_frozen BK102.out 1;have hfz5_2:=blk_frozen BK102.out 2;have hfz5_3:=blk_frozen BK102.out 3))
 go_loopg [7,18] k (fun kq v7 v18 w'=>∃ (x7_1:Int) (x18_1:Int),v7 = .int .i64 x7_1∧v18 = .int .i64 x18_1∧Aside0 (laws_short.l0 kq x7_1 l0_2 (l0_2.length:Int) x18_1 l0_0 l0_1 l0_2 l0_3=some r)∧Aside0 (kq≤k)∧Aside0 (w'.heap[gb102]? = some (.cells #[(.slice A0_0 l0_0.length c0_0),(.slice A0_1 l0_1.length c0_1),(.slice A0_2 l0_2.length c0_2),(.slice A0_3 l0_3.length c0_3)] 25 (0,0)))∧Aside0 (Below w.heap.size w w'))
 case atStart=>exact ⟨(wrap64 ((a1.size:Int)+(a2.size:Int))),(0),bE,bE,H',⟨Nat.le_refl _⟩,⟨by (with_reducible repeat (first | refine blk_drewN ?_ _ | refine blk_drew ?_ | refine blk_alloc ?_ _));exact BK102.out⟩,⟨by repeat (first | (with_reducible first | exact HB.out | apply below_alloc | apply pw_below_drewN | apply below_drew1 | refine below_set ?_ GE102.out) | exact HB.out)⟩⟩
 case round =>
  clear H'
  try clear p2
  try clear c4
  try clear hcz5_0
  try clear hcz5_1
  try clear hcz5_2
  try clear hcz5_3
  try clear hfz5_0
  try clear hfz5_1
  try clear hfz5_2
  try clear hfz5_3
  obtain ⟨x7_1,x18_1,rfl,rfl,HA,HK1,BK102,HB⟩:=hrel
  cases gk with
  | zero=>exact absurd HA.out (by simp[laws_short.l0])
  | succ k1 =>
   have H:=HA.out;clear HA;simp only[laws_short.l0] at H
   by_cases c6:x18_1 < (l0_2.length:Int)
   ·rw[if_pos c6] at H;have c6b0:decide (x18_1 < (l0_2.length:Int))=true:=decide_eq_true c6;clear c6
    by_cases c7:0≤x18_1
    ·rw[if_pos c7] at H;have c7b0:decide (0≤x18_1)=true:=decide_eq_true c7;clear c7
     by_cases c8:x18_1 < (l0_2.length:Int)
     ·rw[if_pos c8] at H;have c8b0:decide (x18_1 < (l0_2.length:Int))=true:=decide_eq_true c8;clear c8;have H':=bR H;clear H;have p103:0≤(x18_1:Int):=bQ;have q103:x18_1 < (l0_2.length:Int):=bQ;obtain ⟨ad103,e103,hx103_0,hx103_1⟩:=at_T43 HR0_2.out x18_1 p103 q103;cases e103;replace hx103_0:=(HB.out.cell (World.block_lt_of_cell? w _ hx103_0)).trans hx103_0;replace hx103_1:=(HB.out.cell (World.block_lt_of_cell? w _ hx103_1)).trans hx103_1;replace p103:=eq_true p103;replace q103:=eq_true q103
      go_wp2_with (first | ((with_reducible refine gate_dst (N:=9) rfl ?_);refine box_event ?hg (N:=9) ?hd (cs:=#[.string (⟨#[]⟩:ByteArray),.string (⟨#[]⟩:ByteArray)]) (t:=43) ?hr ?_;(case hd=>rfl);(case hg=>rfl);(case hr=>exact bV);intro gb104 hg w9 hbox hb;have n0_:=bR (blk_below (g:=gb102) (o:=.cells #[.slice A0_0 l0_0.length c0_0,.slice A0_1 l0_1.length c0_1,.slice (some ad103) l0_2.length c0_2,.slice A0_3 l0_3.length c0_3] 25 (0,0)) (by (with_reducible repeat (first | refine blk_drewN ?_ _ | refine blk_drew ?_ | refine blk_alloc ?_ _));exact BK102.out) hb);have n1_:=bR (below_step (by repeat (first | (with_reducible first | exact HB.out | apply below_alloc | apply pw_below_drewN | apply below_drew1 | refine below_set ?_ GE102.out) | exact HB.out)) hb);have n2_:=bR (hbox);have n3_:=bR ((by rw[hg];exact (below_size (by repeat (first | (with_reducible first | exact HB.out | apply below_alloc | apply pw_below_drewN | apply below_drew1 | refine below_set ?_ GE102.out) | exact HB.out))):w.heap.size≤gb104));have n4_:=bR ((by rw[hg];exact (below_size (by repeat (first | (with_reducible first | exact HB.out | apply below_alloc | apply pw_below_drewN | apply below_drew1 | refine below_set ?_ GE102.out) | exact HB.out))):w.heap.size≤gb104));have n5_:=bR ((by rw[hg];exact Nat.ne_of_lt (blk_lt (g:=gb102) (o:=.cells #[.slice A0_0 l0_0.length c0_0,.slice A0_1 l0_1.length c0_1,.slice (some ad103) l0_2.length c0_2,.slice A0_3 l0_3.length c0_3] 25 (0,0)) (by (with_reducible repeat (first | refine blk_drewN ?_ _ | refine blk_drew ?_ | refine blk_alloc ?_ _));exact BK102.out)):gb102≠gb104));have n6_:=bR ((by rw[hg];exact Nat.ne_of_gt (blk_lt (g:=gb102) (o:=.cells #[.slice A0_0 l0_0.length c0_0,.slice A0_1 l0_1.length c0_1,.slice (some ad103) l0_2.length c0_2,.slice A0_3 l0_3.length c0_3] 25 (0,0)) (by (with_reducible repeat (first | refine blk_drewN ?_ _ | refine blk_drew ?_ | refine blk_alloc ?_ _));exact BK102.out)):gb104≠gb102));clear BK102;clear HB;have BK102:=n0_;have HB:=n1_;have BK104:=n2_;have GW104:=n3_;have GE104:=n4_;have NB102_104:=n5_;have NB104_102:=n6_;clear n0_ n1_ n2_ n3_ n4_ n5_ n6_;clear hb hbox hg;have hnb10:=NB104_102.out;have hnc10:=NB102_104.out;have hcz11_0:w9.cell? ⟨gb104,0,none⟩=some (.string (⟨#[]⟩:ByteArray)):=(blk_cell BK104.out 0).trans rfl;have hcz11_1:w9.cell? ⟨gb104,1,none⟩=some (.string (⟨#[]⟩:ByteArray)):=(blk_cell BK104.out 1).trans rfl;have hfz11_0:=blk_frozen BK104.out 0;have hfz11_1:=blk_frozen BK104.out 1))
      go_roundg k1
      case measure=>have:=HK1.out;omega
      case rel=>exact ⟨(wrap64 (x7_1+(wrap64 ((wrap64 (1+(((rd_T43 l0_2 x18_1).f0).size:Int)))+(((rd_T43 l0_2 x18_1).f1).size:Int))))),(wrap64 (x18_1+1)),bE,bE,H',⟨by have:=HK1.out;omega⟩,⟨by (with_reducible repeat (first | refine blk_drewN ?_ _ | refine blk_drew ?_ | refine blk_alloc ?_ _));refine blk_far ?_ NB102_104.out _;(with_reducible repeat (first | refine blk_drewN ?_ _ | refine blk_drew ?_ | refine blk_alloc ?_ _));refine blk_far ?_ NB102_104.out _;(with_reducible repeat (first | refine blk_drewN ?_ _ | refine blk_drew ?_ | refine blk_alloc ?_ _));exact BK102.out⟩,⟨by repeat (first | (with_reducible first | exact HB.out | apply below_alloc | apply pw_below_drewN | apply below_drew1 | refine below_set ?_ GE102.out | refine below_set ?_ GE104.out) | exact HB.out)⟩⟩
     ·rw[if_neg c8] at H;exact absurd H bI
    ·rw[if_neg c7] at H;exact absurd H bI
   ·rw[if_neg c6] at H;have c6b0:decide (x18_1 < (l0_2.length:Int))=false:=decide_eq_false c6;clear c6
    by_cases c12:x7_1≤2000
    ·rw[if_pos c12] at H;have c12b0:decide (x7_1≤2000)=true:=decide_eq_true c12;clear c12;replace H:=Option.bind_eq_some_iff.mp H;obtain ⟨t105,A130,H⟩:=H;replace H:(if t105=true then ((laws_few.f k1 l0_1).bind fun t106=>(if t106=true then ((laws_few.f k1 l0_3).bind fun t107=>(some t107)) else (some false))) else (some false))=some r:=H;have A13:=bR A130;clear A130
     by_cases c14:t105=true
     ·subst c14;have H1:((laws_few.f k1 l0_1).bind fun t106=>(if t106=true then ((laws_few.f k1 l0_3).bind fun t107=>(some t107)) else (some false)))=some r:=by rw[if_pos rfl] at H;exact H
      clear H;have H:=H1;clear H1;replace H:=Option.bind_eq_some_iff.mp H;obtain ⟨t106,A150,H⟩:=H;replace H:(if t106=true then ((laws_few.f k1 l0_3).bind fun t107=>(some t107)) else (some false))=some r:=H;have A15:=bR A150;clear A150
      by_cases c16:t106=true
      ·subst c16;have H1:((laws_few.f k1 l0_3).bind fun t107=>(some t107))=some r:=by rw[if_pos rfl] at H;exact H
       clear H;have H:=H1;clear H1;replace H:=Option.bind_eq_some_iff.mp H;obtain ⟨t107,A170,H⟩:=H;replace H:(some t107)=some r:=H;have A17:=bR A170;clear A170;obtain rfl:=Option.some.inj H;have hcz18_0:wr.cell? ⟨gb102,0,none⟩=some (.slice A0_0 l0_0.length c0_0):=(blk_cell BK102.out 0).trans rfl;have hcz18_1:wr.cell? ⟨gb102,1,none⟩=some (.slice A0_1 l0_1.length c0_1):=(blk_cell BK102.out 1).trans rfl;have hcz18_2:wr.cell? ⟨gb102,2,none⟩=some (.slice A0_2 l0_2.length c0_2):=(blk_cell BK102.out 2).trans rfl;have hcz18_3:wr.cell? ⟨gb102,3,none⟩=some (.slice A0_3 l0_3.length c0_3):=(blk_cell BK102.out 3).trans rfl;have hfz18_0:=blk_frozen BK102.out 0;have hfz18_1:=blk_frozen BK102.out 1;have hfz18_2:=blk_frozen BK102.out 2;have hfz18_3:=blk_frozen BK102.out 3
       go_wp2_with (first | (go_at_call 43;(with_reducible refine (laws_few.calls k1 _ _ l0_0 true _ ?side1 ?side2 A13.out).mono ?_);(case side1=>exact bW);(case side2=>exact HC0_0.out);rintro e w' ⟨rfl,⟨nd,rfl⟩⟩) | (go_at_call 43;(with_reducible refine (laws_few.calls k1 _ _ l0_1 true _ ?side1 ?side2 A15.out).mono ?_);(case side1=>exact bX);(case side2=>exact HC0_1.out);rintro e w' ⟨rfl,⟨nd,rfl⟩⟩) | (go_at_call 43;(with_reducible refine (laws_few.calls k1 _ _ l0_3 t107 _ ?side1 ?side2 A17.out).mono ?_);(case side1=>repeat (first | exact (Kd.C_below HR0_3.out (by repeat (first | (with_reducible first | exact HB.out | apply below_alloc | apply pw_below_drewN | apply below_drew1 | refine below_set ?_ GE102.out) | exact HB.out))) | (with_reducible refine Kd.C_alloc ?_ _) | (with_reducible refine Kd.C_drewN ?_ _) | (with_reducible refine Kd.C_drew ?_)));(case side2=>exact HC0_3.out);rintro e w' ⟨rfl,⟨nd,rfl⟩⟩))
       go_ret;exact ⟨by first | rfl | (simp[errW_none,errW_some] <;> rfl) | (simp[*,errW_none,errW_some] <;> rfl),by repeat (first | (with_reducible first | exact HB.out | apply below_alloc | apply pw_below_drewN | apply below_drew1 | refine below_set ?_ GE102.out) | exact HB.out)⟩
      ·replace c16:=Bool.eq_false_iff.mpr c16;subst c16;have H1:(some false)=some r:=by rw[if_neg (show ¬ (false=true) by decide)] at H;exact H
       clear H;have H:=H1;clear H1;obtain rfl:=Option.some.inj H;have hcz19_0:wr.cell? ⟨gb102,0,none⟩=some (.slice A0_0 l0_0.length c0_0):=(blk_cell BK102.out 0).trans rfl;have hcz19_1:wr.cell? ⟨gb102,1,none⟩=some (.slice A0_1 l0_1.length c0_1):=(blk_cell BK102.out 1).trans rfl;have hcz19_2:wr.cell? ⟨gb102,2,none⟩=some (.slice A0_2 l0_2.length c0_2):=(blk_cell BK102.out 2).trans rfl;have hcz19_3:wr.cell? ⟨gb102,3,none⟩=some (.slice A0_3 l0_3.length c0_3):=(blk_cell BK102.out 3).trans rfl;have hfz19_0:=blk_frozen BK102.out 0;have hfz19_1:=blk_frozen BK102.out 1;have hfz19_2:=blk_frozen BK102.out 2;have hfz19_3:=blk_frozen BK102.out 3
       go_wp2_with (first | (go_at_call 43;(with_reducible refine (laws_few.calls k1 _ _ l0_0 true _ ?side1 ?side2 A13.out).mono ?_);(case side1=>exact bW);(case side2=>exact HC0_0.out);rintro e w' ⟨rfl,⟨nd,rfl⟩⟩) | (go_at_call 43;(with_reducible refine (laws_few.calls k1 _ _ l0_1 false _ ?side1 ?side2 A15.out).mono ?_);(case side1=>exact bX);(case side2=>exact HC0_1.out);rintro e w' ⟨rfl,⟨nd,rfl⟩⟩))
       go_ret;exact ⟨by first | rfl | (simp[errW_none,errW_some] <;> rfl) | (simp[*,errW_none,errW_some] <;> rfl),by repeat (first | (with_reducible first | exact HB.out | apply below_alloc | apply pw_below_drewN | apply below_drew1 | refine below_set ?_ GE102.out) | exact HB.out)⟩
     ·replace c14:=Bool.eq_false_iff.mpr c14;subst c14;have H1:(some false)=some r:=by rw[if_neg (show ¬ (false=true) by decide)] at H;exact H
      clear H;have H:=H1;clear H1;obtain rfl:=Option.some.inj H;have hcz20_0:wr.cell? ⟨gb102,0,none⟩=some (.slice A0_0 l0_0.length c0_0):=(blk_cell BK102.out 0).trans rfl;have hcz20_1:wr.cell? ⟨gb102,1,none⟩=some (.slice A0_1 l0_1.length c0_1):=(blk_cell BK102.out 1).trans rfl;have hcz20_2:wr.cell? ⟨gb102,2,none⟩=some (.slice A0_2 l0_2.length c0_2):=(blk_cell BK102.out 2).trans rfl;have hcz20_3:wr.cell? ⟨gb102,3,none⟩=some (.slice A0_3 l0_3.length c0_3):=(blk_cell BK102.out 3).trans rfl;have hfz20_0:=blk_frozen BK102.out 0;have hfz20_1:=blk_frozen BK102.out 1;have hfz20_2:=blk_frozen BK102.out 2;have hfz20_3:=blk_frozen BK102.out 3
      go_wp2_with (first | (go_at_call 43;(with_reducible refine (laws_few.calls k1 _ _ l0_0 false _ ?side1 ?side2 A13.out).mono ?_);(case side1=>exact bW);(case side2=>exact HC0_0.out);rintro e w' ⟨rfl,⟨nd,rfl⟩⟩))
      go_ret;exact ⟨by first | rfl | (simp[errW_none,errW_some] <;> rfl) | (simp[*,errW_none,errW_some] <;> rfl),by repeat (first | (with_reducible first | exact HB.out | apply below_alloc | apply pw_below_drewN | apply below_drew1 | refine below_set ?_ GE102.out) | exact HB.out)⟩
    ·rw[if_neg c12] at H;have c12b0:decide (x7_1≤2000)=false:=decide_eq_false c12;clear c12;obtain rfl:=Option.some.inj H;go_wp2;go_ret;exact ⟨by first | rfl | (simp[errW_none,errW_some] <;> rfl) | (simp[*,errW_none,errW_some] <;> rfl),by repeat (first | (with_reducible first | exact HB.out | apply below_alloc | apply pw_below_drewN | apply below_drew1 | refine below_set ?_ GE102.out) | exact HB.out)⟩
def spec_among.l0:Nat→List ByteArray→ByteArray→Int→Option (Bool)
 | 0,_,_,_=>none
 | k+1,x0,x1,x5=>if x5 < (x0.length:Int) then (if 0≤x5 then (if (rdOf ByteArray.empty x0 x5).toList=x1.toList then (some true) else (spec_among.l0 k x0 x1 (wrap64 (x5+1)))) else (none)) else (some false)
def spec_among.f (k:Nat) (l0:List ByteArray) (a1:ByteArray):Option (Bool):=spec_among.l0 k l0 a1 0
theorem spec_among.mono_l:∀ k,(∀ y0 y1 y2,LeO (spec_among.l0 k y0 y1 y2) (spec_among.l0 (k+1) y0 y1 y2))
 | 0=>fun _ _ _ r h=>by simp[spec_among.l0] at h
 | k+1=>by
  have ih0:=spec_among.mono_l k
  ·intro y0 y1 y2;unfold spec_among.l0
   exact cN
theorem spec_among.mono:∀ a0 a1 k,LeO (spec_among.f k a0 a1) (spec_among.f (k+1) a0 a1):=by
 intro a0 a1 k;have ih0:=spec_among.mono_l k;unfold spec_among.f
 exact cN
set_option maxHeartbeats 8000000 in
set_option maxRecDepth 100000 in
theorem spec_among.calls (k:Nat) (A0:Option Addr) (c0:Nat) (l0:List ByteArray) (a1:ByteArray) (r:Bool) (w:World) (hr0:Kd.C Kd.string w A0 l0.length l0) (hc0:l0.length≤c0) (h:spec_among.f k l0 a1=some r) :
 Calls Tryz.prog 68 #[.slice A0 l0.length c0,.string a1] w fun e w'=>e = .returned (.bool r)∧Drawn0 w w':=by
 have HR0:=bR hr0;have HC0:=bR hc0;clear hr0 hc0;have H:(spec_among.l0 k l0 a1 0)=some r:=h;clear h;have H':=bR H;clear H;go_enter Tryz.func68,Tryz.ntmps68;go_wp2
 go_loopg [5] k (fun kq v5 w'=>∃ (x5_1:Int),v5 = .int .i64 x5_1∧Aside0 (spec_among.l0 kq l0 a1 x5_1=some r)∧Aside0 (kq≤k)∧Drawn0 w w')
 case atStart=>exact ⟨(0),bE,H',⟨Nat.le_refl _⟩,dA⟩
 case round =>
  clear H'
  try clear p2
  obtain ⟨x5_1,rfl,HA,HK1,⟨m1,rfl⟩⟩:=hrel
  cases gk with
  | zero=>exact absurd HA.out (by simp[spec_among.l0])
  | succ k1 =>
   have H:=HA.out;clear HA;simp only[spec_among.l0] at H
   by_cases c3:x5_1 < (l0.length:Int)
   ·rw[if_pos c3] at H;have c3b0:decide (x5_1 < (l0.length:Int))=true:=decide_eq_true c3;clear c3
    by_cases c4:0≤x5_1
    ·rw[if_pos c4] at H;have c4b0:decide (0≤x5_1)=true:=decide_eq_true c4;clear c4
     by_cases c5:(rdOf ByteArray.empty l0 x5_1).toList=a1.toList
     ·rw[if_pos c5] at H;have c5b0:((rdOf ByteArray.empty l0 x5_1).toList==a1.toList)=true:=beq_iff_eq.mpr c5;have c5b1:((rdOf ByteArray.empty l0 x5_1).toList != a1.toList)=false:=bne_eq_false_iff_eq.mpr c5;clear c5;obtain rfl:=Option.some.inj H;have p108:0≤(x5_1:Int):=bQ;have q108:x5_1 < (l0.length:Int):=bQ;obtain ⟨ad108,e108,hx108_0⟩:=Kd.at_string HR0.out x5_1 p108 q108;cases e108;replace p108:=eq_true p108;replace q108:=eq_true q108;go_wp2;go_ret;exact ⟨cZ,dA⟩
     ·rw[if_neg c5] at H;have c5b0:((rdOf ByteArray.empty l0 x5_1).toList==a1.toList)=false:=beq_eq_false_iff_ne.mpr c5;have c5b1:((rdOf ByteArray.empty l0 x5_1).toList != a1.toList)=true:=bne_iff_ne.mpr c5;have H':=bR H;clear H;have p108:0≤(x5_1:Int):=bQ;have q108:x5_1 < (l0.length:Int):=bQ;obtain ⟨ad108,e108,hx108_0⟩:=Kd.at_string HR0.out x5_1 p108 q108;cases e108;replace p108:=eq_true p108;replace q108:=eq_true q108;go_wp2
      go_roundg k1
      case measure=>have:=HK1.out;omega
      case rel=>exact ⟨(wrap64 (x5_1+1)),bE,H',⟨by have:=HK1.out;omega⟩,dA⟩
    ·rw[if_neg c4] at H;exact absurd H bI
   ·rw[if_neg c3] at H;have c3b0:decide (x5_1 < (l0.length:Int))=false:=decide_eq_false c3;clear c3;obtain rfl:=Option.some.inj H;go_wp2;go_ret;exact ⟨cZ,dA⟩
def spec_siteWord.l0:Nat→ByteArray→Int→Option (Bool)
 | 0,_,_=>none
 | k+1,x0,x3=>if x3 < (x0.size:Int) then (if 0≤x3 then (if (bt x0 x3) < 97 then (if (bt x0 x3) < 48 then (if (bt x0 x3)=45 then (spec_siteWord.l0 k x0 (wrap64 (x3+1))) else (some false)) else (if (bt x0 x3) > 57 then (if (bt x0 x3)=45 then (spec_siteWord.l0 k x0 (wrap64 (x3+1))) else (some false)) else (spec_siteWord.l0 k x0 (wrap64 (x3+1))))) else (if (bt x0 x3) > 122 then (if (bt x0 x3) < 48 then (if (bt x0 x3)=45 then (spec_siteWord.l0 k x0 (wrap64 (x3+1))) else (some false)) else (if (bt x0 x3) > 57 then (if (bt x0 x3)=45 then (spec_siteWord.l0 k x0 (wrap64 (x3+1))) else (some false)) else (spec_siteWord.l0 k x0 (wrap64 (x3+1))))) else (spec_siteWord.l0 k x0 (wrap64 (x3+1))))) else (none)) else (if x0.toList=([]:List UInt8) then (some false) else (some (decide ((x0.size:Int)≤20))))
def spec_siteWord.f (k:Nat) (a0:ByteArray):Option (Bool):=spec_siteWord.l0 k a0 0
theorem spec_siteWord.mono_l:∀ k,(∀ y0 y1,LeO (spec_siteWord.l0 k y0 y1) (spec_siteWord.l0 (k+1) y0 y1))
 | 0=>fun _ _ r h=>by simp[spec_siteWord.l0] at h
 | k+1=>by
  have ih0:=spec_siteWord.mono_l k
  ·intro y0 y1;unfold spec_siteWord.l0
   exact cO
theorem spec_siteWord.mono:∀ a0 k,LeO (spec_siteWord.f k a0) (spec_siteWord.f (k+1) a0):=by
 intro a0 k;have ih0:=spec_siteWord.mono_l k;unfold spec_siteWord.f
 exact cO
set_option maxHeartbeats 8000000 in
set_option maxRecDepth 100000 in
theorem spec_siteWord.calls (k:Nat) (a0:ByteArray) (r:Bool) (w:World) (h:spec_siteWord.f k a0=some r) :
 Calls Tryz.prog 69 #[.string a0] w fun e w'=>e = .returned (.bool r)∧Drawn0 w w':=by
 have H:(spec_siteWord.l0 k a0 0)=some r:=h;clear h;have H':=bR H;clear H;go_enter Tryz.func69,Tryz.ntmps69;go_wp2
 go_loopg [3] k (fun kq v3 w'=>∃ (x3_1:Int),v3 = .int .i64 x3_1∧Aside0 (spec_siteWord.l0 kq a0 x3_1=some r)∧Aside0 (kq≤k)∧Drawn0 w w')
 case atStart=>exact ⟨(0),bE,H',⟨Nat.le_refl _⟩,dA⟩
 case round =>
  clear H';obtain ⟨x3_1,rfl,HA,HK1,⟨m1,rfl⟩⟩:=hrel
  cases gk with
  | zero=>exact absurd HA.out (by simp[spec_siteWord.l0])
  | succ k1 =>
   have H:=HA.out;clear HA;simp only[spec_siteWord.l0] at H
   by_cases c2:x3_1 < (a0.size:Int)
   ·rw[if_pos c2] at H;have c2b0:decide (x3_1 < (a0.size:Int))=true:=decide_eq_true c2;clear c2
    by_cases c3:0≤x3_1
    ·rw[if_pos c3] at H;have c3b0:decide (0≤x3_1)=true:=decide_eq_true c3;clear c3
     by_cases c5:(bt a0 x3_1) < 97
     ·rw[if_pos c5] at H;have c5b0:decide ((bt a0 x3_1) < 97)=true:=decide_eq_true c5;clear c5
      by_cases c7:(bt a0 x3_1) < 48
      ·rw[if_pos c7] at H;have c7b0:decide ((bt a0 x3_1) < 48)=true:=decide_eq_true c7;clear c7
       by_cases c9:(bt a0 x3_1)=45
       ·rw[if_pos c9] at H;have c9b0:((bt a0 x3_1)==45)=true:=beq_iff_eq.mpr c9;have c9b1:((bt a0 x3_1) != 45)=false:=bne_eq_false_iff_eq.mpr c9;clear c9;have H':=bR H;clear H;have p4:0≤(x3_1:Int):=bQ;have q4:x3_1 < (a0.size:Int):=bQ;have hx4:=bt_at a0 x3_1;replace p4:=eq_true p4;replace q4:=eq_true q4;have p6:0≤(x3_1:Int):=bQ;have q6:x3_1 < (a0.size:Int):=bQ;have hx6:=bt_at a0 x3_1;replace p6:=eq_true p6;replace q6:=eq_true q6;have p8:0≤(x3_1:Int):=bQ
        have q8:x3_1 < (a0.size:Int):=bQ;have hx8:=bt_at a0 x3_1;replace p8:=eq_true p8;replace q8:=eq_true q8;go_wp2
        go_roundg k1
        case measure=>have:=HK1.out;omega
        case rel=>exact ⟨(wrap64 (x3_1+1)),bE,H',⟨by have:=HK1.out;omega⟩,dA⟩
       ·rw[if_neg c9] at H;have c9b0:((bt a0 x3_1)==45)=false:=beq_eq_false_iff_ne.mpr c9;have c9b1:((bt a0 x3_1) != 45)=true:=bne_iff_ne.mpr c9;obtain rfl:=Option.some.inj H;have p4:0≤(x3_1:Int):=bQ;have q4:x3_1 < (a0.size:Int):=bQ;have hx4:=bt_at a0 x3_1;replace p4:=eq_true p4;replace q4:=eq_true q4;have p6:0≤(x3_1:Int):=bQ;have q6:x3_1 < (a0.size:Int):=bQ;have hx6:=bt_at a0 x3_1;replace p6:=eq_true p6;replace q6:=eq_true q6;have p8:0≤(x3_1:Int):=bQ
        have q8:x3_1 < (a0.size:Int):=bQ;have hx8:=bt_at a0 x3_1;replace p8:=eq_true p8;replace q8:=eq_true q8;go_wp2;go_ret;exact ⟨cZ,dA⟩
      ·rw[if_neg c7] at H;have c7b0:decide ((bt a0 x3_1) < 48)=false:=decide_eq_false c7;clear c7
       by_cases c11:(bt a0 x3_1) > 57
       ·rw[if_pos c11] at H;have c11b0:decide (57 < (bt a0 x3_1))=true:=decide_eq_true c11;clear c11
        by_cases c13:(bt a0 x3_1)=45
        ·rw[if_pos c13] at H;have c13b0:((bt a0 x3_1)==45)=true:=beq_iff_eq.mpr c13;have c13b1:((bt a0 x3_1) != 45)=false:=bne_eq_false_iff_eq.mpr c13;clear c13;have H':=bR H;clear H;have p4:0≤(x3_1:Int):=bQ;have q4:x3_1 < (a0.size:Int):=bQ;have hx4:=bt_at a0 x3_1;replace p4:=eq_true p4;replace q4:=eq_true q4;have p6:0≤(x3_1:Int):=bQ;have q6:x3_1 < (a0.size:Int):=bQ;have hx6:=bt_at a0 x3_1;replace p6:=eq_true p6;replace q6:=eq_true q6;have p10:0≤(x3_1:Int):=bQ
         have q10:x3_1 < (a0.size:Int):=bQ;have hx10:=bt_at a0 x3_1;replace p10:=eq_true p10;replace q10:=eq_true q10;have p12:0≤(x3_1:Int):=bQ;have q12:x3_1 < (a0.size:Int):=bQ;have hx12:=bt_at a0 x3_1;replace p12:=eq_true p12;replace q12:=eq_true q12;go_wp2
         go_roundg k1
         case measure=>have:=HK1.out;omega
         case rel=>exact ⟨(wrap64 (x3_1+1)),bE,H',⟨by have:=HK1.out;omega⟩,dA⟩
        ·rw[if_neg c13] at H;have c13b0:((bt a0 x3_1)==45)=false:=beq_eq_false_iff_ne.mpr c13;have c13b1:((bt a0 x3_1) != 45)=true:=bne_iff_ne.mpr c13;obtain rfl:=Option.some.inj H;have p4:0≤(x3_1:Int):=bQ;have q4:x3_1 < (a0.size:Int):=bQ;have hx4:=bt_at a0 x3_1;replace p4:=eq_true p4;replace q4:=eq_true q4;have p6:0≤(x3_1:Int):=bQ;have q6:x3_1 < (a0.size:Int):=bQ;have hx6:=bt_at a0 x3_1;replace p6:=eq_true p6;replace q6:=eq_true q6;have p10:0≤(x3_1:Int):=bQ
         have q10:x3_1 < (a0.size:Int):=bQ;have hx10:=bt_at a0 x3_1;replace p10:=eq_true p10;replace q10:=eq_true q10;have p12:0≤(x3_1:Int):=bQ;have q12:x3_1 < (a0.size:Int):=bQ;have hx12:=bt_at a0 x3_1;replace p12:=eq_true p12;replace q12:=eq_true q12;go_wp2;go_ret;exact ⟨cZ,dA⟩
       ·rw[if_neg c11] at H;have c11b0:decide (57 < (bt a0 x3_1))=false:=decide_eq_false c11;clear c11;have H':=bR H;clear H;have p4:0≤(x3_1:Int):=bQ;have q4:x3_1 < (a0.size:Int):=bQ;have hx4:=bt_at a0 x3_1;replace p4:=eq_true p4;replace q4:=eq_true q4;have p6:0≤(x3_1:Int):=bQ;have q6:x3_1 < (a0.size:Int):=bQ;have hx6:=bt_at a0 x3_1;replace p6:=eq_true p6;replace q6:=eq_true q6;have p10:0≤(x3_1:Int):=bQ
        have q10:x3_1 < (a0.size:Int):=bQ;have hx10:=bt_at a0 x3_1;replace p10:=eq_true p10;replace q10:=eq_true q10;go_wp2
        go_roundg k1
        case measure=>have:=HK1.out;omega
        case rel=>exact ⟨(wrap64 (x3_1+1)),bE,H',⟨by have:=HK1.out;omega⟩,dA⟩
     ·rw[if_neg c5] at H;have c5b0:decide ((bt a0 x3_1) < 97)=false:=decide_eq_false c5;clear c5
      by_cases c15:(bt a0 x3_1) > 122
      ·rw[if_pos c15] at H;have c15b0:decide (122 < (bt a0 x3_1))=true:=decide_eq_true c15;clear c15
       by_cases c17:(bt a0 x3_1) < 48
       ·rw[if_pos c17] at H;have c17b0:decide ((bt a0 x3_1) < 48)=true:=decide_eq_true c17;clear c17
        by_cases c19:(bt a0 x3_1)=45
        ·rw[if_pos c19] at H;have c19b0:((bt a0 x3_1)==45)=true:=beq_iff_eq.mpr c19;have c19b1:((bt a0 x3_1) != 45)=false:=bne_eq_false_iff_eq.mpr c19;clear c19;have H':=bR H;clear H;have p4:0≤(x3_1:Int):=bQ;have q4:x3_1 < (a0.size:Int):=bQ;have hx4:=bt_at a0 x3_1;replace p4:=eq_true p4;replace q4:=eq_true q4;have p14:0≤(x3_1:Int):=bQ;have q14:x3_1 < (a0.size:Int):=bQ;have hx14:=bt_at a0 x3_1;replace p14:=eq_true p14;replace q14:=eq_true q14;have p16:0≤(x3_1:Int):=bQ
         have q16:x3_1 < (a0.size:Int):=bQ;have hx16:=bt_at a0 x3_1;replace p16:=eq_true p16;replace q16:=eq_true q16;have p18:0≤(x3_1:Int):=bQ;have q18:x3_1 < (a0.size:Int):=bQ;have hx18:=bt_at a0 x3_1;replace p18:=eq_true p18;replace q18:=eq_true q18;go_wp2
         go_roundg k1
         case measure=>have:=HK1.out;omega
         case rel=>exact ⟨(wrap64 (x3_1+1)),bE,H',⟨by have:=HK1.out;omega⟩,dA⟩
        ·rw[if_neg c19] at H;have c19b0:((bt a0 x3_1)==45)=false:=beq_eq_false_iff_ne.mpr c19;have c19b1:((bt a0 x3_1) != 45)=true:=bne_iff_ne.mpr c19;obtain rfl:=Option.some.inj H;have p4:0≤(x3_1:Int):=bQ;have q4:x3_1 < (a0.size:Int):=bQ;have hx4:=bt_at a0 x3_1;replace p4:=eq_true p4;replace q4:=eq_true q4;have p14:0≤(x3_1:Int):=bQ;have q14:x3_1 < (a0.size:Int):=bQ;have hx14:=bt_at a0 x3_1;replace p14:=eq_true p14;replace q14:=eq_true q14;have p16:0≤(x3_1:Int):=bQ
         have q16:x3_1 < (a0.size:Int):=bQ;have hx16:=bt_at a0 x3_1;replace p16:=eq_true p16;replace q16:=eq_true q16;have p18:0≤(x3_1:Int):=bQ;have q18:x3_1 < (a0.size:Int):=bQ;have hx18:=bt_at a0 x3_1;replace p18:=eq_true p18;replace q18:=eq_true q18;go_wp2;go_ret;exact ⟨cZ,dA⟩
       ·rw[if_neg c17] at H;have c17b0:decide ((bt a0 x3_1) < 48)=false:=decide_eq_false c17;clear c17
        by_cases c21:(bt a0 x3_1) > 57
        ·rw[if_pos c21] at H;have c21b0:decide (57 < (bt a0 x3_1))=true:=decide_eq_true c21;clear c21
         by_cases c23:(bt a0 x3_1)=45
         ·rw[if_pos c23] at H;have c23b0:((bt a0 x3_1)==45)=true:=beq_iff_eq.mpr c23;have c23b1:((bt a0 x3_1) != 45)=false:=bne_eq_false_iff_eq.mpr c23;clear c23;have H':=bR H;clear H;have p4:0≤(x3_1:Int):=bQ;have q4:x3_1 < (a0.size:Int):=bQ;have hx4:=bt_at a0 x3_1;replace p4:=eq_true p4;replace q4:=eq_true q4;have p14:0≤(x3_1:Int):=bQ;have q14:x3_1 < (a0.size:Int):=bQ;have hx14:=bt_at a0 x3_1;replace p14:=eq_true p14;replace q14:=eq_true q14;have p16:0≤(x3_1:Int):=bQ
          have q16:x3_1 < (a0.size:Int):=bQ;have hx16:=bt_at a0 x3_1;replace p16:=eq_true p16;replace q16:=eq_true q16;have p20:0≤(x3_1:Int):=bQ;have q20:x3_1 < (a0.size:Int):=bQ;have hx20:=bt_at a0 x3_1;replace p20:=eq_true p20;replace q20:=eq_true q20;have p22:0≤(x3_1:Int):=bQ;have q22:x3_1 < (a0.size:Int):=bQ;have hx22:=bt_at a0 x3_1;replace p22:=eq_true p22;replace q22:=eq_true q22;go_wp2
          go_roundg k1
          case measure=>have:=HK1.out;omega
          case rel=>exact ⟨(wrap64 (x3_1+1)),bE,H',⟨by have:=HK1.out;omega⟩,dA⟩
         ·rw[if_neg c23] at H;have c23b0:((bt a0 x3_1)==45)=false:=beq_eq_false_iff_ne.mpr c23;have c23b1:((bt a0 x3_1) != 45)=true:=bne_iff_ne.mpr c23;obtain rfl:=Option.some.inj H;have p4:0≤(x3_1:Int):=bQ;have q4:x3_1 < (a0.size:Int):=bQ;have hx4:=bt_at a0 x3_1;replace p4:=eq_true p4;replace q4:=eq_true q4;have p14:0≤(x3_1:Int):=bQ;have q14:x3_1 < (a0.size:Int):=bQ;have hx14:=bt_at a0 x3_1;replace p14:=eq_true p14;replace q14:=eq_true q14;have p16:0≤(x3_1:Int):=bQ
          have q16:x3_1 < (a0.size:Int):=bQ;have hx16:=bt_at a0 x3_1;replace p16:=eq_true p16;replace q16:=eq_true q16;have p20:0≤(x3_1:Int):=bQ;have q20:x3_1 < (a0.size:Int):=bQ;have hx20:=bt_at a0 x3_1;replace p20:=eq_true p20;replace q20:=eq_true q20;have p22:0≤(x3_1:Int):=bQ;have q22:x3_1 < (a0.size:Int):=bQ;have hx22:=bt_at a0 x3_1;replace p22:=eq_true p22;replace q22:=eq_true q22;go_wp2;go_ret
          exact ⟨cZ,dA⟩
        ·rw[if_neg c21] at H;have c21b0:decide (57 < (bt a0 x3_1))=false:=decide_eq_false c21;clear c21;have H':=bR H;clear H;have p4:0≤(x3_1:Int):=bQ;have q4:x3_1 < (a0.size:Int):=bQ;have hx4:=bt_at a0 x3_1;replace p4:=eq_true p4;replace q4:=eq_true q4;have p14:0≤(x3_1:Int):=bQ;have q14:x3_1 < (a0.size:Int):=bQ;have hx14:=bt_at a0 x3_1;replace p14:=eq_true p14;replace q14:=eq_true q14;have p16:0≤(x3_1:Int):=bQ
         have q16:x3_1 < (a0.size:Int):=bQ;have hx16:=bt_at a0 x3_1;replace p16:=eq_true p16;replace q16:=eq_true q16;have p20:0≤(x3_1:Int):=bQ;have q20:x3_1 < (a0.size:Int):=bQ;have hx20:=bt_at a0 x3_1;replace p20:=eq_true p20;replace q20:=eq_true q20;go_wp2
         go_roundg k1
         case measure=>have:=HK1.out;omega
         case rel=>exact ⟨(wrap64 (x3_1+1)),bE,H',⟨by have:=HK1.out;omega⟩,dA⟩
      ·rw[if_neg c15] at H;have c15b0:decide (122 < (bt a0 x3_1))=false:=decide_eq_false c15;clear c15;have H':=bR H;clear H;have p4:0≤(x3_1:Int):=bQ;have q4:x3_1 < (a0.size:Int):=bQ;have hx4:=bt_at a0 x3_1;replace p4:=eq_true p4;replace q4:=eq_true q4;have p14:0≤(x3_1:Int):=bQ;have q14:x3_1 < (a0.size:Int):=bQ;have hx14:=bt_at a0 x3_1;replace p14:=eq_true p14;replace q14:=eq_true q14;go_wp2
       go_roundg k1
       case measure=>have:=HK1.out;omega
       case rel=>exact ⟨(wrap64 (x3_1+1)),bE,H',⟨by have:=HK1.out;omega⟩,dA⟩
    ·rw[if_neg c3] at H;exact absurd H bI
   ·rw[if_neg c2] at H;have c2b0:decide (x3_1 < (a0.size:Int))=false:=decide_eq_false c2;clear c2
    by_cases c24:a0.toList=([]:List UInt8)
    ·rw[if_pos c24] at H;have c24b0:(a0.toList==([]:List UInt8))=true:=beq_iff_eq.mpr c24;have c24b1:(a0.toList != ([]:List UInt8))=false:=bne_eq_false_iff_eq.mpr c24;clear c24;obtain rfl:=Option.some.inj H;go_wp2;go_ret;exact ⟨cZ,dA⟩
    ·rw[if_neg c24] at H;have c24b0:(a0.toList==([]:List UInt8))=false:=beq_eq_false_iff_ne.mpr c24;have c24b1:(a0.toList != ([]:List UInt8))=true:=bne_iff_ne.mpr c24;obtain rfl:=Option.some.inj H;go_wp2;go_ret;exact ⟨cZ,dA⟩
end Go.Proofs.YtmgdbpjidkdegaaGreatDoor.PCore
