/- Texts that the law leans on: PCorex11, PCorex, Find, Count, Do3, New, MPath, Index, Norm. Condition: as told at each. -/
import Derived.Deep.LoopGhost
import Derived.Test.YtlkoeeccebmjmaaGreatDoorUa
import Derived.Test.YtlkoeeccebmjmaaGreatDoorU12
set_option linter.unusedVariables false
set_option linter.unusedSimpArgs false
set_option maxRecDepth 100000
set_option maxHeartbeats 16000000
namespace Go.Proofs.YtlkoeeccebmjmaaGreatDoor.PCore
open Go.RowKit Go.ZW.PrintWords Go.ZW.PrintLast Go.ZW.PrintMore
attribute [local go_sem] kN kP lG lH jV jW kO kQ   -- for this text's walks alone
def jF.f (a0_0:ByteArray) (a0_1:ByteArray) (a0_2:ByteArray) (a0_3:Int) (l0_4:List ByteArray) (l0_5:List ByteArray) (l0_6:List ByteArray) (a0_7:ByteArray) (a0_8:ByteArray) (a0_9:ByteArray) (a0_10:ByteArray) (a0_11:ByteArray) (a0_12:ByteArray) (a0_13:Bool) (a0_14:Int):Option (ByteArray):=if a0_11.toList=([]:List UInt8) then (some a0_1) else ((lQ.f a0_0 a0_1 a0_2 a0_3 l0_4 l0_5 l0_6 a0_7 a0_8 a0_9 a0_10 a0_11 a0_12 a0_13 a0_14).bind fun t207=>(if 0≤a0_3 then (if a0_3≤(a0_2.size:Int) then (if t207.size+(a0_2.extract 0 (a0_3:Int).toNat).size≤9223372036854775807 then (if (t207++(a0_2.extract 0 (a0_3:Int).toNat)).size+1≤9223372036854775807 then (if ((t207++(a0_2.extract 0 (a0_3:Int).toNat))++(⟨#[46]⟩:ByteArray)).size+a0_7.size≤9223372036854775807 then (some (((t207++(a0_2.extract 0 (a0_3:Int).toNat))++(⟨#[46]⟩:ByteArray))++a0_7)) else (none)) else (none)) else (none)) else (none)) else (none)))
def jF.T3:Bool×List (List Nat×List Nat):=(true,[([],[]),([0],[0]),([],[]),([2],[2]),([],[]),([4],[4]),([3,5],[3,5]),([1,6],[1,6]),([7],[7]),([],[]),([9],[9]),([8,10],[8,10]),([11,1,0,1,2,3,4,5,6,7,8,9,10,11],[11])])
def jF.B3:List Nat:=[0,1,0,4,0,16,60,127,255,0,512,2047,4095]
theorem jF.tab3:mO .any (opsOf Tryz.f107 3)=jF.T3:=by kernel_rfl
theorem jF.bits3:rJ jF.T3.2 jF.B3=true:=by kernel_rfl
theorem jF.calls (a0_0:ByteArray) (a0_1:ByteArray) (a0_2:ByteArray) (a0_3:Int) (A0_4:Option Addr) (c0_4:Nat) (l0_4:List ByteArray) (A0_5:Option Addr) (c0_5:Nat) (l0_5:List ByteArray) (A0_6:Option Addr) (c0_6:Nat) (l0_6:List ByteArray) (a0_7:ByteArray) (a0_8:ByteArray) (a0_9:ByteArray) (a0_10:ByteArray) (a0_11:ByteArray) (a0_12:ByteArray) (a0_13:Bool) (a0_14:Int) (r:ByteArray) (w:World) (hr0_4:Kd.C Kd.string w A0_4 l0_4.length l0_4) (hc0_4:l0_4.length≤c0_4) (hr0_5:Kd.C Kd.string w A0_5 l0_5.length l0_5) (hc0_5:l0_5.length≤c0_5) (hr0_6:Kd.C Kd.string w A0_6 l0_6.length l0_6) (hc0_6:l0_6.length≤c0_6) (h:jF.f a0_0 a0_1 a0_2 a0_3 l0_4 l0_5 l0_6 a0_7 a0_8 a0_9 a0_10 a0_11 a0_12 a0_13 a0_14=some r) :
 Calls Tryz.prog 107 #[.agg #[.string a0_0,.string a0_1,.string a0_2,.int .i64 a0_3,.slice A0_4 l0_4.length c0_4,.slice A0_5 l0_5.length c0_5,.slice A0_6 l0_6.length c0_6,.string a0_7,.string a0_8,.string a0_9,.string a0_10,.string a0_11,.string a0_12,.bool a0_13,.int .i64 a0_14]] w fun e w'=>e = .returned (.string r)∧Below w.heap.size w w':=by
 have hu58:=Tryz.underlying58;have HR0_4:=bX hr0_4;have HC0_4:=bX hc0_4;clear hr0_4 hc0_4;have HR0_5:=bX hr0_5;have HC0_5:=bX hc0_5;clear hr0_5 hc0_5;have HR0_6:=bX hr0_6;have HC0_6:=bX hc0_6;clear hr0_6 hc0_6;have HB:=bX (Below.refl w.heap.size w)
 unfold jF.f at h;have H:=h;clear h
 by_cases c2:a0_11.toList=([]:List UInt8)
 ·rw[if_pos c2] at H;have c2b0:=beq_iff_eq.mpr c2;have c2b1:=bne_eq_false_iff_eq.mpr c2;clear c2;obtain rfl:=Option.some.inj H;go_enter Tryz.func107,Tryz.ntmps107
  go_wp2_with (first | ((with_reducible refine gO (N:=1) rfl ?_);refine gJ ?hg (N:=1) ?hd (cs:=#[.string a0_0,.string a0_1,.string a0_2,.int .i64 a0_3,.slice A0_4 l0_4.length c0_4,.slice A0_5 l0_5.length c0_5,.slice A0_6 l0_6.length c0_6,.string a0_7,.string a0_8,.string a0_9,.string a0_10,.string a0_11,.string a0_12,.bool a0_13,.int .i64 a0_14]) (t:=58) ?hr ?_;(case hd=>rfl);(case hg=>rfl);(case hr=>exact cB);intro gb206 hg w3 hbox hb;have BK206:=bX (hbox);have GW206:=bX ((by rw[hg];exact (eN bC):w.heap.size≤gb206));have GE206:=bX ((by rw[hg];exact (eN bC):w.heap.size≤gb206));replace HB:=bX (eB bC hb);clear hb hbox hg;have hcz4_1:w3.cell? ⟨gb206,1,none⟩=some (.string a0_1):=(dZ BK206.out 1).trans rfl;have hcz4_2:w3.cell? ⟨gb206,2,none⟩=some (.string a0_2):=(dZ BK206.out 2).trans rfl;have hcz4_3:w3.cell? ⟨gb206,3,none⟩=some (.int .i64 a0_3):=(dZ BK206.out 3).trans rfl;have hcz4_7:w3.cell? ⟨gb206,7,none⟩=some (.string a0_7):=(dZ BK206.out 7).trans rfl;have hcz4_11:w3.cell? ⟨gb206,11,none⟩=some (.string a0_11):=(dZ BK206.out 11).trans rfl))
  go_ret;exact ⟨aC,dN⟩
 rw[if_neg c2] at H;have c2b0:=beq_eq_false_iff_ne.mpr c2;have c2b1:=bne_iff_ne.mpr c2;replace H:=Option.bind_eq_some_iff.mp H;obtain ⟨t207,A50,H⟩:=H;have A5:=bX A50;clear A50
 by_cases c6:0≤a0_3
 ·rw[if_pos c6] at H;have c6b0:=eq_true c6;have c6b1:=decide_eq_true c6;clear c6
  by_cases c7:a0_3≤(a0_2.size:Int)
  ·rw[if_pos c7] at H;have c7b0:=eq_true c7;have c7b1:=decide_eq_true c7;clear c7
   by_cases c8:t207.size+(a0_2.extract 0 (a0_3:Int).toNat).size≤9223372036854775807
   ·rw[if_pos c8] at H;have c8b0:=eq_true c8;have c8b1:=decide_eq_true c8
    try have c8b2:(9223372036854775807 < t207.size+(a0_2.extract 0 (a0_3:Int).toNat).size)=False:=eq_false (Nat.not_lt.2 c8)
    try have c8b3:(9223372036854775807 < t207.size+a0_3.toNat)=False:=eq_false (by have e_:(a0_2.extract 0 (a0_3:Int).toNat).size=a0_3.toNat:=(by have h_:a0_3≤(a0_2.size:Int):=of_decide_eq_true (by assumption);rw[ByteArray.size_extract];omega);have l_:=of_decide_eq_true c8b1;omega)
    by_cases c9:(t207++(a0_2.extract 0 (a0_3:Int).toNat)).size+1≤9223372036854775807
    ·rw[if_pos c9] at H;have c9b0:=eq_true c9;have c9b1:=decide_eq_true c9
     try have c9b2:(9223372036854775807 < (t207++(a0_2.extract 0 (a0_3:Int).toNat)).size+1)=False:=eq_false (Nat.not_lt.2 c9)
     try have c9b3:(9223372036854775807 < t207.size+a0_3.toNat+1)=False:=eq_false (by have e_:(a0_2.extract 0 (a0_3:Int).toNat).size=a0_3.toNat:=(by have h_:a0_3≤(a0_2.size:Int):=of_decide_eq_true (by assumption);rw[ByteArray.size_extract];omega);have l_:=of_decide_eq_true c9b1;simp only[ByteArray.size_append] at l_;omega)
     by_cases c10:((t207++(a0_2.extract 0 (a0_3:Int).toNat))++(⟨#[46]⟩:ByteArray)).size+a0_7.size≤9223372036854775807
     ·rw[if_pos c10] at H;have c10b0:=eq_true c10;have c10b1:=decide_eq_true c10
      try have c10b2:(9223372036854775807 < ((t207++(a0_2.extract 0 (a0_3:Int).toNat))++(⟨#[46]⟩:ByteArray)).size+a0_7.size)=False:=eq_false (Nat.not_lt.2 c10)
      try have c10b3:(9223372036854775807 < t207.size+a0_3.toNat+1+a0_7.size)=False:=eq_false (by have e_:(a0_2.extract 0 (a0_3:Int).toNat).size=a0_3.toNat:=(by have h_:a0_3≤(a0_2.size:Int):=of_decide_eq_true (by assumption);rw[ByteArray.size_extract];omega);have l_:=of_decide_eq_true c10b1;have d_:(⟨#[46]⟩:ByteArray).size=1:=rfl;simp only[ByteArray.size_append] at l_;omega)
      obtain rfl:=Option.some.inj H;go_enter Tryz.func107,Tryz.ntmps107
      try go_wp2_with (first | ((with_reducible refine gO (N:=1) rfl ?_);refine gJ ?hg (N:=1) ?hd (cs:=#[.string a0_0,.string a0_1,.string a0_2,.int .i64 a0_3,.slice A0_4 l0_4.length c0_4,.slice A0_5 l0_5.length c0_5,.slice A0_6 l0_6.length c0_6,.string a0_7,.string a0_8,.string a0_9,.string a0_10,.string a0_11,.string a0_12,.bool a0_13,.int .i64 a0_14]) (t:=58) ?hr ?_;(case hd=>rfl);(case hg=>rfl);(case hr=>exact cB);intro gb206 hg w11 hbox hb;have BK206:=bX (hbox);have GW206:=bX ((by rw[hg];exact (eN bC):w.heap.size≤gb206));have GE206:=bX ((by rw[hg];exact (eN bC):w.heap.size≤gb206));replace HB:=bX (eB bC hb);clear hb hbox hg;have hcz12_0:w11.cell? ⟨gb206,0,none⟩=some (.string a0_0):=(dZ BK206.out 0).trans rfl;have hcz12_1:w11.cell? ⟨gb206,1,none⟩=some (.string a0_1):=(dZ BK206.out 1).trans rfl;have hcz12_2:w11.cell? ⟨gb206,2,none⟩=some (.string a0_2):=(dZ BK206.out 2).trans rfl;have hcz12_3:w11.cell? ⟨gb206,3,none⟩=some (.int .i64 a0_3):=(dZ BK206.out 3).trans rfl;have hcz12_4:w11.cell? ⟨gb206,4,none⟩=some (.slice A0_4 l0_4.length c0_4):=(dZ BK206.out 4).trans rfl;have hcz12_5:w11.cell? ⟨gb206,5,none⟩=some (.slice A0_5 l0_5.length c0_5):=(dZ BK206.out 5).trans rfl;have hcz12_6:w11.cell? ⟨gb206,6,none⟩=some (.slice A0_6 l0_6.length c0_6):=(dZ BK206.out 6).trans rfl;have hcz12_7:w11.cell? ⟨gb206,7,none⟩=some (.string a0_7):=(dZ BK206.out 7).trans rfl;have hcz12_8:w11.cell? ⟨gb206,8,none⟩=some (.string a0_8):=(dZ BK206.out 8).trans rfl;have hcz12_9:w11.cell? ⟨gb206,9,none⟩=some (.string a0_9):=(dZ BK206.out 9).trans rfl;have hcz12_10:w11.cell? ⟨gb206,10,none⟩=some (.string a0_10):=(dZ BK206.out 10).trans rfl;have hcz12_11:w11.cell? ⟨gb206,11,none⟩=some (.string a0_11):=(dZ BK206.out 11).trans rfl;have hcz12_12:w11.cell? ⟨gb206,12,none⟩=some (.string a0_12):=(dZ BK206.out 12).trans rfl;have hcz12_13:w11.cell? ⟨gb206,13,none⟩=some (.bool a0_13):=(dZ BK206.out 13).trans rfl;have hcz12_14:w11.cell? ⟨gb206,14,none⟩=some (.int .i64 a0_14):=(dZ BK206.out 14).trans rfl))
      replace BK206:=bX (gF BK206.out);replace HB:=bX (fI HB.out)
      refine hZ (n:=13) (S:=fun w'=>w'.cell? ⟨gb206,0,none⟩=some (.string a0_0)∧w'.cell? ⟨gb206,1,none⟩=some (.string a0_1)∧w'.cell? ⟨gb206,2,none⟩=some (.string a0_2)∧w'.cell? ⟨gb206,3,none⟩=some (.int .i64 a0_3)∧w'.cell? ⟨gb206,4,none⟩=some (.slice A0_4 l0_4.length c0_4)∧w'.cell? ⟨gb206,5,none⟩=some (.slice A0_5 l0_5.length c0_5)∧w'.cell? ⟨gb206,6,none⟩=some (.slice A0_6 l0_6.length c0_6)∧w'.cell? ⟨gb206,7,none⟩=some (.string a0_7)∧w'.cell? ⟨gb206,8,none⟩=some (.string a0_8)∧w'.cell? ⟨gb206,9,none⟩=some (.string a0_9)∧w'.cell? ⟨gb206,10,none⟩=some (.string a0_10)∧w'.cell? ⟨gb206,11,none⟩=some (.string a0_11)∧w'.cell? ⟨gb206,12,none⟩=some (.string a0_12)∧w'.cell? ⟨gb206,13,none⟩=some (.bool a0_13)∧w'.cell? ⟨gb206,14,none⟩=some (.int .i64 a0_14)) (ds:=[]) _ bB rfl rfl ⟨(dZ BK206.out 0).trans rfl,(dZ BK206.out 1).trans rfl,(dZ BK206.out 2).trans rfl,(dZ BK206.out 3).trans rfl,(dZ BK206.out 4).trans rfl,(dZ BK206.out 5).trans rfl,(dZ BK206.out 6).trans rfl,(dZ BK206.out 7).trans rfl,(dZ BK206.out 8).trans rfl,(dZ BK206.out 9).trans rfl,(dZ BK206.out 10).trans rfl,(dZ BK206.out 11).trans rfl,(dZ BK206.out 12).trans rfl,(dZ BK206.out 13).trans rfl,(dZ BK206.out 14).trans rfl⟩ (fun hHeld=>?_);refine aAu jF.tab3 jF.bits3 (fun HT_ HW_=>?_)
      generalize w11.drew=w13 at BK206 HB hHeld ⊢;refine nR (i:=2) (N:=some 10) (v:=?_) (a':=?_) #[false,false,true,false,false,false,false,false,false,false,false,false,false] rfl rfl (nI HT_.out bB) (fun _ _ _ h=>h) (Or.inl ⟨by rfl,?_⟩) ?_ ?_;rotate_left
      ·intro w';go_simp
       with_reducible rfl
      rotate_left
      ·simp only[Act.put,bY,bZ,cA,gW,iK];rfl
      refine nR (i:=4) (N:=some 12) (v:=?_) (a':=?_) #[false,false,true,false,true,false,false,false,false,false,false,false,false] rfl rfl (nI HT_.out bB) (fun _ _ _ h=>h) (Or.inl ⟨by rfl,?_⟩) ?_ ?_;rotate_left
      ·intro w';go_simp
       with_reducible rfl
      rotate_left
      ·simp only[Act.put,bY,bZ,cA,gW,iK];rfl
      refine nR (i:=9) (N:=some 17) (v:=?_) (a':=?_) #[false,false,true,false,true,false,false,false,false,true,false,false,false] rfl rfl (nI HT_.out bB) (fun _ _ _ h=>h) (Or.inl ⟨by rfl,?_⟩) ?_ ?_;rotate_left
      ·intro w';go_simp
       with_reducible rfl
      rotate_left
      ·simp only[Act.put,bY,bZ,cA,gW,iK];rfl
      refine take_ (i:=0) (N:=some 8) (v:=?_) (a':=?_) #[true,false,true,false,true,false,false,false,false,true,false,false,false] rfl rfl (pG HT_.out HW_.out bB) (fun _ _ _ h=>h) (Or.inl ⟨by rfl,?_⟩) hHeld ?_ ?_;rotate_left
      ·rintro w' ⟨s0,s1,s2,s3,s4,s5,s6,s7,s8,s9,s10,s11,s12,s13,s14⟩;go_simp
       with_reducible rfl
      rotate_left
      ·simp only[Act.put,bY,bZ,cA,gW,iK];rfl
      refine take_ (i:=3) (N:=some 11) (v:=?_) (a':=?_) #[true,false,true,true,true,false,false,false,false,true,false,false,false] rfl rfl (pG HT_.out HW_.out bB) (fun _ _ _ h=>h) (Or.inl ⟨by rfl,?_⟩) hHeld ?_ ?_;rotate_left
      ·rintro w' ⟨s0,s1,s2,s3,s4,s5,s6,s7,s8,s9,s10,s11,s12,s13,s14⟩;go_simp
       with_reducible rfl
      rotate_left
      ·simp only[Act.put,bY,bZ,cA,gW,iK];rfl
      refine take_ (i:=5) (N:=some 13) (v:=?_) (a':=?_) #[true,false,true,true,true,true,false,false,false,true,false,false,false] rfl rfl (pG HT_.out HW_.out bB) (fun _ _ _ h=>h) (Or.inl ⟨by rfl,?_⟩) hHeld ?_ ?_;rotate_left
      ·rintro w' ⟨s0,s1,s2,s3,s4,s5,s6,s7,s8,s9,s10,s11,s12,s13,s14⟩;go_simp
       with_reducible rfl
      rotate_left
      ·simp only[Act.put,bY,bZ,cA,gW,iK];rfl
      refine nR (i:=6) (N:=some 14) (v:=?_) (a':=?_) #[true,false,true,true,true,true,true,false,false,true,false,false,false] rfl rfl (nI HT_.out bB) (fun _ _ _ h=>h) (Or.inl ⟨by rfl,?_⟩) ?_ ?_;rotate_left
      ·intro w';go_simp
       with_reducible rfl
      rotate_left
      ·simp only[Act.put,bY,bZ,cA,gW,iK];rfl
      refine take_ (i:=10) (N:=some 18) (v:=?_) (a':=?_) #[true,false,true,true,true,true,true,false,false,true,true,false,false] rfl rfl (pG HT_.out HW_.out bB) (fun _ _ _ h=>h) (Or.inl ⟨by rfl,?_⟩) hHeld ?_ ?_;rotate_left
      ·rintro w' ⟨s0,s1,s2,s3,s4,s5,s6,s7,s8,s9,s10,s11,s12,s13,s14⟩;go_simp
       with_reducible rfl
      rotate_left
      ·simp only[Act.put,bY,bZ,cA,gW,iK];rfl
      refine aHh (i:=1) (N:=some 9) #[true,true,true,true,true,true,true,false,false,true,true,false,false] rfl rfl (aGh HT_.out bB) bG (fun K hK=>?_);refine iR Tryz.func137 bB rfl #[.agg #[.string a0_0,.string a0_1,.string a0_2,.int .i64 a0_3,.slice A0_4 l0_4.length c0_4,.slice A0_5 l0_5.length c0_5,.slice A0_6 l0_6.length c0_6,.string a0_7,.string a0_8,.string a0_9,.string a0_10,.string a0_11,.string a0_12,.bool a0_13,.int .i64 a0_14]] bJ rfl rfl bD ?_
      with_reducible refine (lQ.calls a0_0 a0_1 a0_2 a0_3 _ _ l0_4 _ _ l0_5 _ _ l0_6 a0_7 a0_8 a0_9 a0_10 a0_11 a0_12 a0_13 a0_14 t207 _ ?side1 ?side2 ?side3 ?side4 ?side5 ?side6 A5.out).mono ?_
      (case side1=>exact cU)
      (case side2=>exact HC0_4.out)
      (case side3=>exact cV)
      (case side4=>exact HC0_5.out)
      (case side5=>exact cW)
      (case side6=>exact HC0_6.out)
      rintro e w14 ⟨rfl,hb⟩;refine ⟨_,rfl,?_⟩;replace BK206:=bX (hY (g:=gb206) (o:=.cells #[.string a0_0,.string a0_1,.string a0_2,.int .i64 a0_3,.slice A0_4 l0_4.length c0_4,.slice A0_5 l0_5.length c0_5,.slice A0_6 l0_6.length c0_6,.string a0_7,.string a0_8,.string a0_9,.string a0_10,.string a0_11,.string a0_12,.bool a0_13,.int .i64 a0_14] 58 (0,0)) (by (with_reducible repeat (first | refine gB ?_ _ | refine gF ?_ | refine gA ?_ _));exact BK206.out) hb);replace HB:=bX (eB (by repeat (first | (with_reducible first | exact HB.out | apply fF | apply eW | apply fI | refine fW ?_ GE206.out) | exact HB.out)) hb)
      (try clear hb)
      (try clear hb2)
      (try clear hk)
      (try clear hi)
      refine hK.out _ _ ⟨(dZ BK206.out 0).trans rfl,(dZ BK206.out 1).trans rfl,(dZ BK206.out 2).trans rfl,(dZ BK206.out 3).trans rfl,(dZ BK206.out 4).trans rfl,(dZ BK206.out 5).trans rfl,(dZ BK206.out 6).trans rfl,(dZ BK206.out 7).trans rfl,(dZ BK206.out 8).trans rfl,(dZ BK206.out 9).trans rfl,(dZ BK206.out 10).trans rfl,(dZ BK206.out 11).trans rfl,(dZ BK206.out 12).trans rfl,(dZ BK206.out 13).trans rfl,(dZ BK206.out 14).trans rfl⟩ (fun hHeld=>?_);clear hK K;refine eM sJ1 ?_
      refine nR (i:=7) (N:=some 15) (v:=?_) (a':=?_) #[true,true,true,true,true,true,true,true,false,true,true,false,false] rfl rfl (nI HT_.out bB) (fun _ _ _ h=>h) (Or.inl ⟨by rfl,?_⟩) ?_ ?_;rotate_left
      ·intro w';go_simp
       with_reducible rfl
      rotate_left
      ·simp only[Act.put,bY,bZ,cA,gW,iK];rfl
      refine nR (i:=8) (N:=some 16) (v:=?_) (a':=?_) #[true,true,true,true,true,true,true,true,true,true,true,false,false] rfl rfl (nI HT_.out bB) (fun _ _ _ h=>h) (Or.inl ⟨by rfl,?_⟩) ?_ ?_;rotate_left
      ·intro w';go_simp
       with_reducible rfl
      rotate_left
      ·simp only[Act.put,bY,bZ,cA,gW,iK];rfl
      refine nR (i:=11) (N:=some 19) (v:=?_) (a':=?_) #[true,true,true,true,true,true,true,true,true,true,true,true,false] rfl rfl (nI HT_.out bB) (fun _ _ _ h=>h) (Or.inl ⟨by rfl,?_⟩) ?_ ?_;rotate_left
      ·intro w';go_simp
       with_reducible rfl
      rotate_left
      ·simp only[Act.put,bY,bZ,cA,gW,iK];rfl
      refine nR (i:=12) (N:=some 2) (v:=?_) (a':=?_) #[true,true,true,true,true,true,true,true,true,true,true,true,true] rfl rfl (nI HT_.out bB) (fun _ _ _ h=>h) (Or.inl ⟨by rfl,?_⟩) ?_ ?_;rotate_left
      ·intro w';go_simp
       with_reducible rfl
      rotate_left
      ·simp only[Act.put,bY,bZ,cA,gW,iK];rfl
      refine iL (aEb HT_.out bB) ?_
      try go_wp2
      go_ret;exact ⟨aC,dN⟩
     rw[if_neg c10] at H;exact absurd H bK
    rw[if_neg c9] at H;exact absurd H bK
   rw[if_neg c8] at H;exact absurd H bK
  rw[if_neg c7] at H;exact absurd H bK
 rw[if_neg c6] at H;exact absurd H bK
def mD.f (a0_0:ByteArray) (a0_1:ByteArray) (a0_2:ByteArray) (a0_3:Int) (l0_4:List ByteArray) (l0_5:List ByteArray) (l0_6:List ByteArray) (a0_7:ByteArray) (a0_8:ByteArray) (a0_9:ByteArray) (a0_10:ByteArray) (a0_11:ByteArray) (a0_12:ByteArray) (a0_13:Bool) (a0_14:Int) (a1:ByteArray):Option (ByteArray):=if (l0_4.length:Int)=0 then (some a1) else (if 0≤(wrap64 ((wrap64 ((a1.size:Int) - (a0_7.size:Int))) - 1)) then (if (wrap64 ((wrap64 ((a1.size:Int) - (a0_7.size:Int))) - 1))≤(a1.size:Int) then (some (a1.extract 0 ((wrap64 ((wrap64 ((a1.size:Int) - (a0_7.size:Int))) - 1)):Int).toNat)) else (none)) else (none))
theorem mD.calls (a0_0:ByteArray) (a0_1:ByteArray) (a0_2:ByteArray) (a0_3:Int) (A0_4:Option Addr) (c0_4:Nat) (l0_4:List ByteArray) (A0_5:Option Addr) (c0_5:Nat) (l0_5:List ByteArray) (A0_6:Option Addr) (c0_6:Nat) (l0_6:List ByteArray) (a0_7:ByteArray) (a0_8:ByteArray) (a0_9:ByteArray) (a0_10:ByteArray) (a0_11:ByteArray) (a0_12:ByteArray) (a0_13:Bool) (a0_14:Int) (a1:ByteArray) (r:ByteArray) (w:World) (hr0_4:Kd.C Kd.string w A0_4 l0_4.length l0_4) (hc0_4:l0_4.length≤c0_4) (hr0_5:Kd.C Kd.string w A0_5 l0_5.length l0_5) (hc0_5:l0_5.length≤c0_5) (hr0_6:Kd.C Kd.string w A0_6 l0_6.length l0_6) (hc0_6:l0_6.length≤c0_6) (h:mD.f a0_0 a0_1 a0_2 a0_3 l0_4 l0_5 l0_6 a0_7 a0_8 a0_9 a0_10 a0_11 a0_12 a0_13 a0_14 a1=some r) :
 Calls Tryz.prog 104 #[.agg #[.string a0_0,.string a0_1,.string a0_2,.int .i64 a0_3,.slice A0_4 l0_4.length c0_4,.slice A0_5 l0_5.length c0_5,.slice A0_6 l0_6.length c0_6,.string a0_7,.string a0_8,.string a0_9,.string a0_10,.string a0_11,.string a0_12,.bool a0_13,.int .i64 a0_14],.string a1] w fun e w'=>e = .returned (.string r)∧Below w.heap.size w w':=by
 have hu58:=Tryz.underlying58;have HR0_4:=bX hr0_4;have HC0_4:=bX hc0_4;clear hr0_4 hc0_4;have HR0_5:=bX hr0_5;have HC0_5:=bX hc0_5;clear hr0_5 hc0_5;have HR0_6:=bX hr0_6;have HC0_6:=bX hc0_6;clear hr0_6 hc0_6;have HB:=bX (Below.refl w.heap.size w);unfold mD.f at h;have H:=h;clear h
 by_cases c3:(l0_4.length:Int)=0
 ·rw[if_pos c3] at H;have c3b0:=beq_iff_eq.mpr c3;have c3b1:=bne_eq_false_iff_eq.mpr c3;clear c3;obtain rfl:=Option.some.inj H;go_enter Tryz.func104,Tryz.ntmps104
  go_wp2_with (first | ((with_reducible refine gO (N:=2) rfl ?_);refine gJ ?hg (N:=2) ?hd (cs:=#[.string a0_0,.string a0_1,.string a0_2,.int .i64 a0_3,.slice A0_4 l0_4.length c0_4,.slice A0_5 l0_5.length c0_5,.slice A0_6 l0_6.length c0_6,.string a0_7,.string a0_8,.string a0_9,.string a0_10,.string a0_11,.string a0_12,.bool a0_13,.int .i64 a0_14]) (t:=58) ?hr ?_;(case hd=>rfl);(case hg=>rfl);(case hr=>exact cB);intro gb208 hg w4 hbox hb;have BK208:=bX (hbox);have GW208:=bX ((by rw[hg];exact (eN bC):w.heap.size≤gb208));have GE208:=bX ((by rw[hg];exact (eN bC):w.heap.size≤gb208));replace HB:=bX (eB bC hb);clear hb hbox hg;have hcz5_4:w4.cell? ⟨gb208,4,none⟩=some (.slice A0_4 l0_4.length c0_4):=(dZ BK208.out 4).trans rfl;have hcz5_7:w4.cell? ⟨gb208,7,none⟩=some (.string a0_7):=(dZ BK208.out 7).trans rfl))
  go_ret;exact ⟨aC,dO⟩
 rw[if_neg c3] at H;have c3b0:=beq_eq_false_iff_ne.mpr c3;have c3b1:=bne_iff_ne.mpr c3;have c3b2:¬ (l0_4=[]):=fun h_=>c3 (by rw[h_];rfl)
 obtain ⟨ji6,hji6⟩:∃ j_:Int,(wrap64 ((wrap64 ((a1.size:Int) - (a0_7.size:Int))) - 1))=j_:=⟨_,rfl⟩
 replace H:(if 0≤(ji6) then (if (ji6)≤(a1.size:Int) then (some (a1.extract 0 ((ji6):Int).toNat)) else (none)) else (none))=some r:=by first | (rw[hji6] at H;exact H) | (simp only[hji6] at H ⊢;exact H)
 have hji6w:(IntKind.i64.wrap ((wrap64 ((a1.size:Int) - (a0_7.size:Int))) - 1))=ji6:=(gW _).trans hji6
 by_cases c7:0≤(ji6)
 ·rw[if_pos c7] at H;have c7b0:=eq_true c7;have c7b1:=decide_eq_true c7;clear c7
  by_cases c8:(ji6)≤(a1.size:Int)
  ·rw[if_pos c8] at H;have c8b0:=eq_true c8;have c8b1:=decide_eq_true c8;clear c8;obtain rfl:=Option.some.inj H;go_enter Tryz.func104,Tryz.ntmps104
   go_wp2_with (first | ((with_reducible refine gO (N:=2) rfl ?_);refine gJ ?hg (N:=2) ?hd (cs:=#[.string a0_0,.string a0_1,.string a0_2,.int .i64 a0_3,.slice A0_4 l0_4.length c0_4,.slice A0_5 l0_5.length c0_5,.slice A0_6 l0_6.length c0_6,.string a0_7,.string a0_8,.string a0_9,.string a0_10,.string a0_11,.string a0_12,.bool a0_13,.int .i64 a0_14]) (t:=58) ?hr ?_;(case hd=>rfl);(case hg=>rfl);(case hr=>exact cB);intro gb208 hg w9 hbox hb;have BK208:=bX (hbox);have GW208:=bX ((by rw[hg];exact (eN bC):w.heap.size≤gb208));have GE208:=bX ((by rw[hg];exact (eN bC):w.heap.size≤gb208));replace HB:=bX (eB bC hb);clear hb hbox hg;have hcz10_4:w9.cell? ⟨gb208,4,none⟩=some (.slice A0_4 l0_4.length c0_4):=(dZ BK208.out 4).trans rfl;have hcz10_7:w9.cell? ⟨gb208,7,none⟩=some (.string a0_7):=(dZ BK208.out 7).trans rfl))
   go_ret;exact ⟨by first | rfl | (simp[oC,oD] <;> rfl) | (simp only[← hji6];first | rfl | (simp[oC,oD] <;> rfl)) | (simp[*,oC,oD] <;> rfl),dO⟩
  rw[if_neg c8] at H;exact absurd H bK
 rw[if_neg c7] at H;exact absurd H bK
end Go.Proofs.YtlkoeeccebmjmaaGreatDoor.PCore
namespace Go.Proofs.YtlkoeeccebmjmaaGreatDoor.PCore
open Go.RowKit Go.ZW.PrintWords Go.ZW.PrintLast Go.ZW.PrintMore
attribute [local go_sem] kN kP lG lH jV jW kO kQ   -- for this text's walks alone
end Go.Proofs.YtlkoeeccebmjmaaGreatDoor.PCore
namespace Go.Proofs.YtlkoeeccebmjmaaGreatDoor.Path
open Go.RowKit Go.ZW.PrintWords Go.Proofs.YtlkoeeccebmjmaaGreatDoor.Base Go.Proofs.YtlkoeeccebmjmaaGreatDoor.PCore
theorem lY (s:ByteArray) (i:Nat) (hi:i < s.size) (n:Int) (c:UInt8) (hn:(c.toNat:Int)=n):(bt s (i:Int)=n)↔(L s)[i]? = some c:=by
 have h:i < (L s).length:=by rw[eF];exact hi
 rw[sR s i h,List.getElem?_eq_getElem h,← hn];constructor
 ·intro e;have e' : ((L s)[i]'h).toNat=c.toNat:=by omega
  rw[UInt8.toNat_inj.1 e']
 intro e;injection e with e
 rw[e]
def ints (l:List Nat):List Int:=l.map fun (n:Nat)=>(n:Int)
section
variable (s:ByteArray) (hs:s.size≤1000000)
include hs
theorem aJf (R:List Int) (e:Nat) (he:e < s.size):∀ (n a:Nat) (acc:List Int),e - a=n→a≤e→acc.length≤a→Ev (fun k=>eA.l0 k s (acc++ints (kB (L s) a (e - a))) ((e+1:Nat):Int)) R→Ev (fun k=>eA.l2 k s acc (e:Int) (a:Int)) R:=by
 intro n
 induction n with
 | zero =>
  intro a acc h1 h2 h3 h;have e1:e=a:=by omega
  subst e1;have e2:acc++ints (kB (L s) e (e - e))=acc:=by simp[kB,ints]
  rw[e2] at h;refine Ev.step (fun k=>?_) h;simp only[eA.l2];rw[if_neg bA,w64 bA bA];rfl
 | succ n ih =>
  intro a acc h1 h2 h3 h;have hb:=lY s a bA 46 46 bG
  have hd:kB (L s) a (e - a)=(if (L s)[a]? = some 46 then [a] else [])++kB (L s) (a+1) (e - (a+1)):=by
   have e3:e - a=(e - (a+1))+1:=by omega
   unfold kB;rw[e3,List.range'_succ,List.filter_cons]
   by_cases c:(L s)[a]? = some 46
   ·simp[c]
   simp[c]
  by_cases c:(L s)[a]? = some 46
  ·have c':=hb.2 c
   have hh:=ih (a+1) (acc++[(a:Int)]) bA bA (by simp;omega) (by
    rw[hd,if_pos c] at h
    simpa [ints] using h)
   refine Ev.step (fun k=>?_) hh;simp only[eA.l2];rw[if_pos bA,if_pos bA,if_pos bA,if_pos c',if_pos bA,w64 bA bA];rfl
  have c' : ¬ (bt s (a:Int)=46):=fun x=>c (hb.1 x)
  have hh:=ih (a+1) acc bA bA bA (by
   rw[hd,if_neg c] at h
   simpa [ints] using h)
  refine Ev.step (fun k=>?_) hh;simp only[eA.l2];rw[if_pos bA,if_pos bA,if_pos bA,if_neg c',w64 bA bA];rfl
def aH0:Option Nat→Int
 | none=>-1
 | some e=>e
omit hs in
theorem qF (l:List UInt8):∀ (g k e:Nat),lB l g k=some e→k≤e∧e < l.length
 | 0,_,_,h=>by cases h
 | g+1,k,e,h=>by
  unfold lB at h;split at h
  ·cases h
  split at h
  ·rename_i h1 h2
   cases h;exact ⟨Nat.le_refl _,(List.getElem?_eq_some_iff.1 h2.1).1⟩
  have:=qF l g (k+1) e h;omega
theorem aJe (R:List Int) (i:Nat) (acc:List Int):∀ (n p:Nat),s.size - p=n→p≤s.size→Ev (fun k=>eA.j3 k s acc (i:Int) (aH0 (lB (L s) n p))) R→Ev (fun k=>eA.l1 k s acc (i:Int) (-1) (p:Int)) R:=by
 have hl:=eF s;intro n
 induction n with
 | zero =>
  intro p h1 h2 h;refine Ev.step (fun k=>?_) h;simp only[eA.l1];rw[if_neg bA];rfl
 | succ n ih =>
  intro p h1 h2 h;have hb1:=lY s p bA 47 47 bG;have hb2:=lY s p bA 95 95 bG;unfold lB at h
  by_cases c1:(L s)[p]? = some 47
  ·rw[if_pos c1] at h;refine Ev.step (fun k=>?_) h;simp only[eA.l1];rw[if_pos bA,if_pos bA,if_pos (hb1.2 c1)];rfl
  rw[if_neg c1] at h;have c1' : ¬ (bt s (p:Int)=47):=fun x=>c1 (hb1.1 x)
  by_cases c2:(L s)[p]? = some 95
  ·have c2':=hb2.2 c2
   by_cases c3:s.size≤p+1
   ·rw[if_pos ⟨c2,.inl bA⟩] at h;refine Ev.step (fun k=>?_) h;simp only[eA.l1];rw[if_pos bA,if_pos bA,if_neg c1',if_pos c2',w64 bA bA,if_pos bA];rfl
   have hb3:=lY s (p+1) bA 46 46 bG;have ep:((p+1:Nat):Int)=(p:Int)+1:=by omega
   by_cases c4:(L s)[p+1]? = some 46
   ·rw[if_pos ⟨c2,.inr c4⟩] at h;refine Ev.step (fun k=>?_) h;simp only[eA.l1];rw[if_pos bA,if_pos bA,if_neg c1',if_pos c2',w64 bA bA,if_neg bA,if_pos bA,if_pos bA,if_pos (by rw[← ep];exact hb3.2 c4)];rfl
   rw[if_neg (by rintro ⟨_,x | x⟩ <;> first | omega | exact c4 x)] at h;refine Ev.step (fun k=>?_) (ih (p+1) bA bA h);simp only[eA.l1];rw[if_pos bA,if_pos bA,if_neg c1',if_pos c2',w64 bA bA,if_neg bA,if_pos bA,if_pos bA,if_neg (by rw[← ep];exact fun x=>c4 (hb3.1 x))];rfl
  rw[if_neg (fun x=>c2 x.1)] at h;refine Ev.step (fun k=>?_) (ih (p+1) bA bA h);simp only[eA.l1];rw[if_pos bA,if_pos bA,if_neg c1',if_neg (fun x=>c2 (hb2.1 x)),w64 bA bA];rfl
theorem aJd:∀ (g i:Nat) (acc:List Int),s.size - i≤g→acc.length≤i→i≤1000001→Ev (fun k=>eA.l0 k s acc (i:Int)) (acc++ints (skF (L s) g i)):=by
 have hl:=eF s;intro g
 induction g with
 | zero =>
  intro i acc h1 h2 h3;have e:acc++ints (skF (L s) 0 i)=acc:=by simp[skF,ints]
  rw[e];refine Ev.step (f:=fun _=>some acc) (fun k=>?_) (Ev.now _);simp only[eA.l0];rw[if_neg bA]
 | succ g ih =>
  intro i acc h1 h2 h3;unfold skF
  by_cases c0:s.size≤i
  ·rw[if_pos bA];have e:acc++ints []=acc:=by simp[ints]
   rw[e];refine Ev.step (f:=fun _=>some acc) (fun k=>?_) (Ev.now _);simp only[eA.l0];rw[if_neg bA]
  rw[if_neg bA]
  -- to j1
  have hj:Ev (fun k=>eA.j1 k s acc (i:Int) (opens (L s) i)) (acc++ints (if opens (L s) i=true then (match qE (L s) (i+2) with | some e=>kB (L s) (i+2) (e - (i+2))++skF (L s) g (e+1) | none=>skF (L s) g (i+1)) else skF (L s) g (i+1))):=by
   have next:Ev (fun k=>eA.l0 k s acc ((i+1:Nat):Int)) (acc++ints (skF (L s) g (i+1))):=ih (i+1) acc bA bA bA
   cases ho:opens (L s) i with
   | false =>
    simp only[Bool.false_eq_true,if_false];refine Ev.step (fun k=>?_) next;simp only[eA.j1,Bool.false_eq_true,if_false];rw[w64 bA bA];rfl
   | true =>
    have ho2:i+2 < s.size:=by
     unfold opens at ho;simp only[Bool.and_eq_true,decide_eq_true_eq] at ho;omega
    simp only[if_true];refine Ev.step (f:=fun k=>eA.l1 k s acc (i:Int) (-1) ((i+2:Nat):Int)) (fun k=>?_) (aJe s hs _ i acc (s.size - (i+2)) (i+2) rfl bA ?_)
    ·simp only[eA.j1,if_true];rw[w64 bA bA];rfl
    have hw:qE (L s) (i+2)=lB (L s) (s.size - (i+2)) (i+2):=by unfold qE;rw[hl]
    rw[hw]
    cases he:lB (L s) (s.size - (i+2)) (i+2) with
    | none =>
     refine Ev.step (fun k=>?_) next;simp only[eA.j3,aH0,if_true];rw[w64 bA bA];rfl
    | some e =>
     obtain ⟨q1,q2⟩:=qF _ _ _ _ he
     have hh:=ih (e+1) (acc++ints (kB (L s) (i+2) (e - (i+2)))) bA (by
      have:(kB (L s) (i+2) (e - (i+2))).length≤e - (i+2):=by unfold kB;refine Nat.le_trans (List.length_filter_le _ _) ?_;simp
      simp[ints];omega) bA
     have e5:acc++ints (kB (L s) (i+2) (e - (i+2))++skF (L s) g (e+1))=(acc++ints (kB (L s) (i+2) (e - (i+2))))++ints (skF (L s) g (e+1)):=by simp[ints]
     rw[e5];refine Ev.step (f:=fun k=>eA.l2 k s acc (e:Int) ((i+2:Nat):Int)) (fun k=>?_) (aJf s hs _ e bA (e - (i+2)) (i+2) acc rfl bA bA hh);simp only[eA.j3];rw[if_neg (show ¬ aH0 (some e) = -1 by show ¬ (e:Int) = -1;omega),w64 bA bA];rfl
  have hb1:=lY s i bA 46 46 bG;refine Ev.step (fun k=>?_) hj;simp only[eA.l0];rw[if_pos bA,w64 (n:=(i:Int)+2) bA bA];unfold opens
  by_cases c1:i+2 < s.size
  ·have hb2:=lY s (i+1) bA 95 95 bG;have ep:((i+1:Nat):Int)=(i:Int)+1:=by omega
   rw[if_pos bA,if_pos bA]
   by_cases c2:(L s)[i]? = some 46
   ·rw[if_pos (hb1.2 c2),w64 (n:=(i:Int)+1) bA bA,if_pos bA,if_pos bA]
    have e6:(bt s ((i:Int)+1)==95)=((L s)[i+1]? == some 95):=by
     rw[← ep,Bool.eq_iff_iff,beq_iff_eq,beq_iff_eq];exact hb2
    rw[e6,c2,decide_eq_true bA]
    simp
   rw[if_neg (fun x=>c2 (hb1.1 x))];have:((L s)[i]? == some 46)=false:=by simpa using c2
   rw[this]
   simp
  rw[if_neg bA,decide_eq_false bA]
  simp
omit hs in
theorem last_slash (h:∃ j:Nat,(L s)[j]? = some 47):∃ j:Nat,Go.Lib.lastIndexByte s 47=(j:Int)∧behind (L s)=j+1∧(L s)[j]? = some 47∧∀ k,j < k→(L s)[k]?≠some 47:=by
 have hl:=eF s;have hd:s.data.size=s.size:=rfl;have es:(⟨(L s).toArray⟩:ByteArray)=s:=L_inj (kD _)
 have at_:∀ k,k < s.size→(((s.data[k]!).toNat:Int)=47↔(L s)[k]? = some 47):=by
  intro k hk;have h1:k < s.data.size:=hk;rw[getElem!_pos s.data k h1];have e:(L s)[k]? = some s.data[k]:=by unfold L;simp
  rw[e];constructor
  ·intro e2;have:(s.data[k]).toNat=(47:UInt8).toNat:=by have:(47:UInt8).toNat=47:=rfl;omega
   rw[UInt8.toNat_inj.1 this]
  intro e2;injection e2 with e2
  rw[e2];rfl
 rcases Go.Lib.lastIdx_spec s 47 s.size with ⟨_,h2⟩ | ⟨i,h1,h2,h3,h4⟩
 ·obtain ⟨j,hj⟩:=h;have:j < s.size:=by rw[← hl];exact (List.getElem?_eq_some_iff.1 hj).1
  exact absurd ((at_ j this).2 hj) (h2 j this)
 refine ⟨i,h2,?_,(at_ i h1).1 h3,fun k hk e=>?_⟩
 ·unfold behind;rw[es];show (Go.Lib.lastIdx s 47 s.size+1).toNat=i+1;rw[h2];omega
 have:k < s.size:=by rw[← hl];exact (List.getElem?_eq_some_iff.1 e).1
 exact h4 k hk this ((at_ k this).2 e)
theorem aId (h:∃ j:Nat,(L s)[j]? = some 47):Ev (fun k=>eA.f k s) (ints (lP (L s))):=by
 have hl:=eF s;obtain ⟨j,h1,h2,h3,_⟩:=last_slash s h;have hj:j < s.size:=by rw[← hl];exact (List.getElem?_eq_some_iff.1 h3).1
 have e:=aJd s hs (L s).length j [] bA bK bA;have e9:[]++ints (skF (L s) (L s).length j)=ints (lP (L s)):=by unfold lP;rw[h2];rfl
 rw[e9] at e;refine Ev.congr (fun k=>?_) e;show ((strings_LastIndex.f s ⟨#[47]⟩).bind fun t=>if t = -1 then some ([]:List Int) else eA.l0 k s [] t)=_;unfold strings_LastIndex.f;rw[if_pos ⟨by rw[L_toList];rfl,aR⟩,h1];have hne:¬ ((j:Int) = -1):=by omega
 show (if (j:Int) = -1 then some ([]:List Int) else eA.l0 k s [] (j:Int))=eA.l0 k s [] (j:Int);rw[if_neg hne]
end
theorem aIe (i:Nat):∀ (n j:Nat) (l:List Nat),l.length - j=n→j≤l.length→l.length≤1000000→Ev (fun k=>eV.l0 k (i:Int) (ints l) (l.length:Int) (j:Int)) (kL (l.drop j) i):=by
 intro n
 induction n with
 | zero =>
  intro j l h1 h2 h3;have e:l.drop j=[]:=List.drop_of_length_le bA;rw[e];refine Ev.step (f:=fun _=>some false) (fun k=>?_) (Ev.now _);simp only[eV.l0];rw[if_neg bA]
 | succ n ih =>
  intro j l h1 h2 h3;have hj:j < l.length:=by omega
  have e:l.drop j=l[j]::l.drop (j+1):=List.drop_eq_getElem_cons hj
  have hr:rd (ints l) (j:Int)=(l[j]:Int):=by
   unfold rd
   simp[ints,hj]
  rw[e];have hz:(ints l).length=l.length:=by simp[ints]
  by_cases c1:l[j]=i
  ·have e2:kL (l[j]::l.drop (j+1)) i=true:=by unfold kL;rw[if_pos c1]
   rw[e2];refine Ev.step (f:=fun _=>some true) (fun k=>?_) (Ev.now _);simp only[eV.l0];rw[if_pos bA,if_pos bA,if_pos bA,hr,if_pos bA]
  by_cases c2:i < l[j]
  ·have e2:kL (l[j]::l.drop (j+1)) i=false:=by unfold kL;rw[if_neg c1,if_pos c2]
   rw[e2];refine Ev.step (f:=fun _=>some false) (fun k=>?_) (Ev.now _);simp only[eV.l0];rw[if_pos bA,if_pos bA,if_pos bA,hr,if_neg bA,if_pos bA]
  have e2:kL (l[j]::l.drop (j+1)) i=kL (l.drop (j+1)) i:=by rw[kL,if_neg c1,if_neg c2]
  rw[e2];refine Ev.step (fun k=>?_) (ih (j+1) l bA bA h3);simp only[eV.l0];rw[if_pos bA,if_pos bA,if_pos bA,hr,if_neg bA,if_neg bA,w64 bA bA];rfl
theorem aEw (i:Nat) (l:List Nat) (h:l.length≤1000000):Ev (fun k=>eV.f k (ints l) (i:Int)) (kL l i):=by
 have e:=aIe i l.length 0 l bA bA h;refine Ev.congr (fun k=>?_) e;show eV.l0 k (i:Int) (ints l) ((ints l).length:Int) 0=_;rw[show (ints l).length=l.length by simp[ints]];rfl
theorem aG4 (s t:ByteArray) (hs:s.size≤1000000) (ht:t.size≤1000000):∀ (g i:Nat),s.size+1 - i≤g→i≤s.size+1→∃ r:Int,Ev (fun k=>fE.l0 k s t (i:Int)) r∧decide (r≥0)=xJ (L s) (L t) g i:=by
 have hl:=eF s;have hlt:=eF t;intro g
 induction g with
 | zero =>
  intro i h1 h2;refine ⟨-1,Ev.step (f:=fun _=>some (-1)) (fun k=>?_) (Ev.now _),by simp[xJ]⟩;simp only[fE.l0];rw[if_neg (by rw[w64 bA bA];omega)]
 | succ g ih =>
  intro i h1 h2;unfold xJ
  by_cases c:s.size < i+t.size
  ·rw[if_pos bA];refine ⟨-1,Ev.step (f:=fun _=>some (-1)) (fun k=>?_) (Ev.now _),dW⟩;simp only[fE.l0];rw[if_neg (by rw[w64 bA bA];omega)]
  rw[if_neg bA];have hx:(s.extract i (i+t.size)).toList=((L s).drop i).take (L t).length:=by rw[L_toList,eR,hlt];congr 1;omega
  by_cases h:((L s).drop i).take (L t).length=L t
  ·refine ⟨i,Ev.step (f:=fun _=>some (i:Int)) (fun k=>?_) (Ev.now _),by rw[h];simp⟩;simp only[fE.l0];rw[w64 (n:=(i:Int)+t.size) bA bA,if_pos bA,if_pos bA,if_pos bA,if_pos ?_];rw[Int.toNat_natCast,show ((i:Int)+(t.size:Int)).toNat=i+t.size by omega,hx,h,L_toList]
  obtain ⟨r,h3,h4⟩:=ih (i+1) bA bA;refine ⟨r,Ev.step (fun k=>?_) h3,?_⟩
  ·simp only[fE.l0];rw[w64 (n:=(i:Int)+t.size) bA bA,if_pos bA,if_pos bA,if_pos bA,if_neg ?_,w64 bA bA]
   ·rfl
   rw[Int.toNat_natCast,show ((i:Int)+(t.size:Int)).toNat=i+t.size by omega,hx,L_toList];exact h
  rw[h4];have:(((L s).drop i).take (L t).length==L t)=false:=by simpa using h
  rw[this,Bool.false_or]
theorem sM (s t:ByteArray) (hs:s.size≤1000000) (ht:t.size≤1000000):Ev (fun k=>gT.f k s t) (fC (L s) (L t)):=by
 obtain ⟨r,h1,h2⟩:=aG4 s t hs ht (s.size+1) 0 bA bA;have e:fC (L s) (L t)=decide (r≥0):=by unfold fC;rw[eF,h2]
 rw[e];refine Ev.bind (g:=fun k=>fE.f k s t) (f:=fun _ r=>some (decide (r≥0))) h1 (Ev.now _)
open Go.RowKit Go.ZW.PrintWords Go.Proofs.YtlkoeeccebmjmaaGreatDoor.Base
theorem uP (l:List UInt8):iH l≤l.length:=by unfold iH;exact List.length_filter_le _ _
theorem zH (l:List UInt8) (k:Nat) (h:k < l.length):iH (l.take (k+1))=iH (l.take k)+if l[k]=46 then 1 else 0:=by
 unfold iH;rw[List.take_succ_eq_append_getElem h,List.filter_append,List.length_append]
 by_cases c:l[k]=46
 ·simp[c]
 simp[c]
theorem aDa (s:ByteArray) (hs:s.size≤1000000) (w:World) :
 Calls Tryz.prog 146 #[.string s,.string ⟨#[46]⟩] w fun e w'=>e = .returned (.int .i64 (iH (L s)))∧w'=w:=by
 have hl:=eF s
 obtain ⟨n,hn⟩:∃ n,s.size=n:=⟨_,rfl⟩
 have HN:=bX hn;rw[hn] at hs;go_enter Tryz.func146,Tryz.ntmps146;go_wp2_with fail
 go_loopg [5,6] n (fun g c i wr=>∃ k:Nat,k≤n∧g=n - k∧i = .int .i64 k∧c = .int .i64 (iH ((L s).take k))∧wr=w)
 case atStart=>exact ⟨0,Nat.zero_le _,rfl,rfl,rfl,rfl⟩
 case round =>
  obtain ⟨k,hk,hg,rfl,rfl,rfl⟩:=hrel;have hsz:ByteArray.size ⟨#[46]⟩=1:=rfl;have hc0:=uP ((L s).take k);have hc1:((L s).take k).length≤n:=by simp;omega
  have d0:IntKind.i64.wrap ((k:Int)+1)=((k+1:Nat):Int):=by rw[IntWalk.i64_in _ bA];omega
  by_cases hlt:k < n
  ·have hkl:k < (L s).length:=by omega
   have hst:=zH (L s) k hkl;have d1:decide (((k+1:Nat):Int)≤(n:Int))=true:=decide_eq_true bA;have d2:((k+1:Nat):Int)≤(n:Int):=by omega
   have d3:(k:Int)≤((k+1:Nat):Int):=by omega
   have d4:(0:Int)≤(k:Int):=by omega
   have e1:(k:Int)+1≤(n:Int):=by omega
   have e2:(k:Int)≤(k:Int)+1:=by omega
   have e3:((k:Int)+1).toNat=k+1:=by omega
   have e4:decide ((k:Int)+1≤(n:Int))=true:=decide_eq_true e1
   obtain ⟨m,hm⟩:∃ m,iH ((L s).take k)=m:=⟨_,rfl⟩
   rw[hm] at hst hc0 ⊢;have d5:IntKind.i64.wrap ((m:Int)+1)=((m+1:Nat):Int):=by rw[IntWalk.i64_in _ bA];omega
   have hx:((s.extract k (k+1)).toList==(⟨#[46]⟩:ByteArray).toList)=decide ((L s)[k]=46):=by
    rw[L_toList,eR,L_toList,List.drop_eq_getElem_cons hkl];have:k+1 - k=1:=by omega
    rw[this,Bool.eq_iff_iff,beq_iff_eq,decide_eq_true_iff]
    simp[L]
   obtain ⟨b,hb⟩:∃ b,decide ((L s)[k]=46)=b:=⟨_,rfl⟩
   rw[hb] at hx;have HB:=bX hb;have HST:=bX hst;clear hst hb;rw[show (⟨#[46]⟩:ByteArray).toList=[46] by rw[L_toList];rfl] at hx;cases b
   ·have hc:¬ (L s)[k]=46:=of_decide_eq_false HB.out;have hst2:=HST.out;rw[if_neg hc] at hst2;clear hc;go_wp2_with fail
    go_roundg (n - (k+1))
    case rel=>exact ⟨k+1,aR,rfl,aZ,by rw[hst2];rfl,rfl⟩
    case measure=>omega
   have hc:(L s)[k]=46:=of_decide_eq_true HB.out;have hst2:=HST.out;rw[if_pos hc] at hst2;clear hc;go_wp2_with fail
   go_roundg (n - (k+1))
   case rel=>exact ⟨k+1,aR,rfl,aZ,by rw[hst2];go_num,rfl⟩
   case measure=>omega
  have:k=n:=by omega
  subst this;have d1:decide (((k+1:Nat):Int)≤(k:Int))=false:=decide_eq_false bA;have d2:¬ (((k+1:Nat):Int)≤(k:Int)):=by omega
  have e4:decide ((k:Int)+1≤(k:Int))=false:=decide_eq_false bA;have e:(L s).take k=L s:=List.take_of_length_le bA;rw[e];go_wp2_with fail
  go_ret;exact ⟨rfl,rfl⟩
section
variable {E:Env} {comp:ByteArray} {sk:List Nat} {nd:Int} {i:Nat} {d:DoV}
theorem aBs (h1:d.p.s.data.toList[i]?≠some 46) (h2:d.p.s.data.toList[i]?≠some 47):iO E comp sk nd i d=d:=by
 unfold iO;rw[if_neg h1,if_neg h2]
theorem wN (h1:d.p.s.data.toList[i]? = some 46) (h2:kL sk i=true):iO E comp sk nd i d=d:=by
 unfold iO;rw[if_pos h1,if_pos h2]
theorem tE (h1:d.p.s.data.toList[i]? = some 46) (h2:kL sk i=false):iO E comp sk nd i d = { d with p:=mId E d.p comp i d.ld nd false,ld:=i }:=by
 unfold iO;rw[if_pos h1,if_neg (by rw[h2];simp)]
theorem pO {q:eG} (h1:d.p.s.data.toList[i]? = some 47) (hc:d.p.cHigh = -1) (hq:q=if 0 < d.ld then mId E d.p comp i d.ld nd true else d.p) :
 iO E comp sk nd i d = { d with p:=if 0 < i then { q with cHigh:=((i:Int)+1),sec:=i } else { q with cHigh:=((i:Int)+1) },sc:=d.sc+1 }:=by
 unfold iO;rw[if_neg (by rw[h1];intro h;cases h),if_pos h1];simp only[hc,if_true,← hq]
theorem pN (h1:d.p.s.data.toList[i]? = some 47) (hc:d.p.cHigh≠-1) :
 iO E comp sk nd i d = { d with p:=if 0 < i then { (if d.p.cLow = -1 then { d.p with cLow:=((i:Int)+1) } else d.p) with sec:=i } else (if d.p.cLow = -1 then { d.p with cLow:=((i:Int)+1) } else d.p),sc:=d.sc+1 }:=by
 unfold iO;rw[if_neg (by rw[h1];intro h;cases h),if_pos h1];simp only[hc,if_false]
end
theorem aCi {p:eG} {a n:Int} (h:¬ p.cHigh≤p.nEnd) (ha:p.cHigh=a) (hn:(p.s.size:Int)=n):{ p with nLow:=a,nHigh:=n }=gI p:=by
 subst ha hn;unfold gI;rw[if_neg h]
theorem aDo {p:eG} {a:Int} (h:p.cHigh≤p.nEnd) (ha:p.cHigh=a):{ p with nLow:=a,nHigh:=p.nEnd }=gI p:=by
 subst ha;unfold gI;rw[if_pos h]
section
variable {E:Env} {p:eG} {sc:Nat} {comp:ByteArray}
theorem vE (hk:p.known≠[]) (h:p.nLow < p.nHigh) (hi:((jY p.comp || kT p.comp) && E.cont (fH p 0))=true) (hb:(sub p.s p.nLow p.nHigh).toList=nU):{ p with typ:=3,sec:=if sc=2 then 0 else p.sec }=iG E sc p:=by
 unfold iG;rw[if_neg hk];simp only;rw[if_pos h,if_pos hi,if_pos hb]
theorem uB (hk:p.known≠[]) (h:p.nLow < p.nHigh) (hi:((jY p.comp || kT p.comp) && E.cont (fH p 0))=true) (hb:(sub p.s p.nLow p.nHigh).toList=mU):{ p with typ:=4 }=iG E sc p:=by
 unfold iG;rw[if_neg hk];simp only;rw[if_pos h,if_pos hi,if_neg (by rw[hb];decide),if_pos hb]
theorem uA (hk:p.known≠[]) (h:p.nLow < p.nHigh) (hi:((jY p.comp || kT p.comp) && E.cont (fH p 0))=true) (hb:(sub p.s p.nLow p.nHigh).toList≠nU) (hb2:(sub p.s p.nLow p.nHigh).toList≠mU):{ p with typ:=2 }=iG E sc p:=by
 unfold iG;rw[if_neg hk];simp only;rw[if_pos h,if_pos hi,if_neg hb,if_neg hb2]
theorem aDu (hk:p.known≠[]) (h:p.nLow < p.nHigh) (hi:((jY p.comp || kT p.comp) && E.cont (fH p 0))=false) (hb:(sub p.s p.nLow p.nHigh).toList=lN) (he:(fH p 0).toList=mT):{ p with typ:=5 }=iG E sc p:=by
 unfold iG;rw[if_neg hk];simp only;rw[if_pos h,if_neg (by rw[hi];simp),if_pos ⟨hb,he⟩]
theorem wQ (hk:p.known≠[]) (h:p.nLow < p.nHigh) (hi:((jY p.comp || kT p.comp) && E.cont (fH p 0))=false) (hb:¬ ((sub p.s p.nLow p.nHigh).toList=lN∧(fH p 0).toList=mT)):p=iG E sc p:=by
 unfold iG;rw[if_neg hk];simp only;rw[if_pos h,if_neg (by rw[hi];simp),if_neg hb]
theorem aDv (E:Env) (sc:Nat) (p:eG):∃ t c,iG E sc p = { p with typ:=t,sec:=c }:=by
 unfold iG;simp only
 repeat' split
 all_goals exact ⟨_,_,rfl⟩
theorem aDx (comp:ByteArray) (p:eG):∃ t,lE comp p = { p with typ:=t }:=by
 unfold lE
 repeat' split
 all_goals exact ⟨_,rfl⟩
theorem aGc (h:(decide (p.typ < 6) && eQ comp)=false):p=lE comp p:=by
 unfold lE;rw[if_neg];rintro ⟨h1,h2⟩;rw[h2,decide_eq_true h1] at h;cases h
theorem aDw (h:(decide (p.typ < 6) && eQ comp)=true) (hb:(p.base != -1)=true):{ p with typ:=9 }=lE comp p:=by
 unfold lE;simp only[Bool.and_eq_true,decide_eq_true_eq] at h;rw[if_pos h,if_pos (by simpa using hb)]
theorem qJ (h:(decide (p.typ < 6) && eQ comp)=true) (hb:(p.base != -1)=false) {T:ByteArray} (ht:nrm p.trim p.s=T) :
 lE comp p=if fC (L T) fV then { p with typ:=7 } else if fC (L T) kA then { p with typ:=6 } else if jD.isPrefixOf (L T) then { p with typ:=8 } else p:=by
 unfold lE;simp only[Bool.and_eq_true,decide_eq_true_eq] at h;rw[if_pos h,if_neg (by simpa using hb),ht];rfl
theorem aGd (h:((p.typ==7) && (p.lay != -1))=false):p=nK p:=by
 unfold nK;rw[if_neg];rintro ⟨h1,h2,_⟩;rw[h1] at h
 simp at h
 exact h2 h
theorem aAh (h:((p.typ==7) && (p.lay != -1))=true) {j:Nat} {x:Int×Int} (hj:p.lay=(j:Int)) (hx:p.known[j]? = some x):nK p=if x.1=p.cHigh then { p with lay:=-1 } else p:=by
 unfold nK;simp only[Bool.and_eq_true,beq_iff_eq,bne_iff_ne] at h;have e:p.known.getD p.lay.toNat (0,0)=x:=by rw[hj,Int.toNat_natCast,List.getD_eq_getElem?_getD,hx];rfl
 rw[e]
 by_cases c:x.1=p.cHigh
 ·rw[if_pos c,if_pos ⟨h.1,h.2,c⟩]
 rw[if_neg c,if_neg (fun g=>c g.2.2)]
end
def Apart (b:Nat) (vk vu vl:Value) (k:Nat):Prop:=k≠b∧some k≠vk.ownBlock∧some k≠vu.ownBlock∧some k≠vl.ownBlock
section
variable {w w' : World} {base b:Nat} {vk vu vl vk' vu' vl' v u:Value} {xs:List Int} {p:eG} {B:Nat}
theorem jZ (h:(Kd.int .i64).R 3 w base (Apart b vk vu vl) v xs) (m:eZ w w' b vk vu vl vk' vu' vl'):(Kd.int .i64).R 3 w' base (Apart b vk' vu' vl') v xs:=by
 have h1:=Kd.R_bound h;refine Kd.R_mono (Kd.R_move h1 (fun k hk=>m.block k hk.2.2.1 hk.1.1 hk.1.2.1 hk.1.2.2.1 hk.1.2.2.2)) (fun k hk=>?_);obtain ⟨_,_,f1,f2,f3⟩:=m.far hk.2.2.1 hk.1.1 hk.1.2.1 hk.1.2.2.1 hk.1.2.2.2;exact ⟨hk.1.1,f1,f2,f3⟩
theorem aHp (H:eH w B b p vk vu vl u) (h:(Kd.int .i64).R 3 w' w.heap.size (fun _=>True) v xs):(Kd.int .i64).R 3 w' w.heap.size (Apart b vk vu vl) v xs :=
 Kd.R_mono (Kd.R_bound h) (fun _ hk=>H.new_ne hk.2.1)
theorem yR (h:(Kd.int .i64).R 3 w base (Apart b vk vu vl) v xs) (hb:Below w.heap.size w w'):(Kd.int .i64).R 3 w' base (Apart b vk vu vl) v xs:=Kd.R_below h hb
end
theorem aBu (l:List UInt8) (a n:Nat):(kB l a n).length≤n:=by unfold kB;refine Nat.le_trans (List.length_filter_le _ _) ?_;simp
theorem tR (l:List UInt8):∀ (g i:Nat),(skF l g i).length≤l.length - i
 | 0,i=>by simp[skF]
 | g+1,i=>by
  have h1:=tR l g (i+1);unfold skF;split
  ·simp
  split
  ·split
   ·rename_i e he
    obtain ⟨q1,q2⟩:=qF _ _ _ _ he;have h2:=tR l g (e+1);have h3:=aBu l (i+2) (e - (i+2));rw[List.length_append];omega
   omega
  omega
theorem mem_mText (l:List UInt8) (c:UInt8) (h:c∈iE l):c=47∨c∈l:=by
 have h1:∀ c,c∈kR l→c=47∨c∈l:=by
  intro c h;unfold kR at h;split at h
  ·exact .inl (by simpa using h)
  split at h
  ·exact .inr h
  rcases List.mem_cons.1 h with h | h
  ·exact .inl h
  exact .inr h
 unfold iE at h;simp only at h;split at h
 ·exact h1 c (List.dropLast_subset _ h)
 exact h1 c h
theorem aFw (s:ByteArray) (h:asc s):asc ⟨(iE (L s)).toArray⟩:=by
 intro j c hc
 have hm:c∈iE (L s):=by
  have:(⟨(iE (L s)).toArray⟩:ByteArray).data.toList=iE (L s):=by simp
  rw[this] at hc;exact List.mem_of_getElem? hc
 rcases mem_mText _ _ hm with h1 | h1
 ·rw[h1];decide
 obtain ⟨k,hk⟩:=List.mem_iff_getElem?.1 h1;exact h k c hk
def gC:eG where
 s:=⟨#[]⟩
 cLow:=-1
 cHigh:=-1
 sec:=-1
 comp:=⟨#[]⟩
 typ:=0
 known:=[]
 unknown:=[]
 lang:=-1
 fmt:=-1
 kind:=-1
 lay:=-1
 base:=-1
 cust:=-1
 plangs:=[]
 pfmt:=-1
 pkind:=-1
 play:=-1
 nLow:=0
 nHigh:=0
 nEnd:=-1
 dis:=false
 trim:=false
theorem Row.eq {w:World} {b:Nat} {cs cs' : List Value} (R:Row w b cs) (h:cs=cs'):Row w b cs':=h▸R
section
variable {w:World} {b:Nat} {p:eG} {vu u:Value}
theorem aD4 {A A2:Option Addr} {n c n2 c2:Nat} (R:Row w b (cells p (.slice A n c) vu (.slice A2 n2 c2) u)) :
 Calls Tryz.prog 131 #[.pointer (some ⟨b,0,none⟩)] w fun e w'=>e = .returned (.tuple #[])∧Row w' b (cells gC (.slice A 0 c) vu (.slice A2 0 c2) (.pointer none))∧Below b w w':=by
 have r0:=R.at 0 _ rfl;have f0:=R.free 0 bI;have r1:=R.at 1 _ rfl;have f1:=R.free 1 bI;have r2:=R.at 2 _ rfl;have f2:=R.free 2 bI;have r3:=R.at 3 _ rfl;have f3:=R.free 3 bI;have r4:=R.at 4 _ rfl;have f4:=R.free 4 bI;have r5:=R.at 5 _ rfl;have f5:=R.free 5 bI;have r6:=R.at 6 _ rfl;have f6:=R.free 6 bI;have r8:=R.at 8 _ rfl;have f8:=R.free 8 bI;have r9:=R.at 9 _ rfl;have f9:=R.free 9 bI;have r10:=R.at 10 _ rfl;have f10:=R.free 10 bI;have r11:=R.at 11 _ rfl;have f11:=R.free 11 bI;have r12:=R.at 12 _ rfl;have f12:=R.free 12 bI;have r13:=R.at 13 _ rfl;have f13:=R.free 13 bI;have r14:=R.at 14 _ rfl;have f14:=R.free 14 bI
 have r15:=R.at 15 _ rfl;have f15:=R.free 15 bI;have r16:=R.at 16 _ rfl;have f16:=R.free 16 bI;have r17:=R.at 17 _ rfl;have f17:=R.free 17 bI;have r18:=R.at 18 _ rfl;have f18:=R.free 18 bI;have r19:=R.at 19 _ rfl;have f19:=R.free 19 bI;have r20:=R.at 20 _ rfl;have f20:=R.free 20 bI;have r21:=R.at 21 _ rfl;have f21:=R.free 21 bI;have r22:=R.at 22 _ rfl;have f22:=R.free 22 bI;have r23:=R.at 23 _ rfl;have f23:=R.free 23 bI;have r24:=R.at 24 _ rfl;have f24:=R.free 24 bI;have r25:=R.at 25 _ rfl;have f25:=R.free 25 bI;have HR:=bX R;clear R;go_enter Tryz.func131,Tryz.ntmps131;go_wp2_with fail
 refine ⟨rfl,.tuple #[],by simp[results,Tryz.results131],rfl,Row.eq (((((((((((((((((((((((((HR.out.set 0 (.string ⟨#[]⟩) bI).set 1 (.int .i64 (-1)) bI).set 2 (.int .i64 (-1)) bI).set 3 (.int .i64 (-1)) bI).set 4 (.string ⟨#[]⟩) bI).set 5 (.int .i64 0) bI).set 6 (.slice A 0 c) bI).set 8 (.int .i64 (-1)) bI).set 9 (.int .i64 (-1)) bI).set 10 (.int .i64 (-1)) bI).set 11 (.int .i64 (-1)) bI).set 12 (.int .i64 (-1)) bI).set 13 (.int .i64 (-1)) bI).set 14 (.slice A2 0 c2) bI).set 15 (.slice none 0 0) bI).set 16 (.slice none 0 0) bI).set 17 (.int .i64 (-1)) bI).set 18 (.int .i64 (-1)) bI).set 19 (.int .i64 (-1)) bI).set 20 (.int .i64 0) bI).set 21 (.int .i64 0) bI).set 22 (.int .i64 (-1)) bI).set 23 (.bool false) bI).set 24 (.bool false) bI).set 25 (.pointer none) bI) bB,?_⟩
 exact ((((((((((((((((((((((((((Below.refl b w).setCell (p:=⟨b,0,none⟩) (Nat.le_refl _) _).setCell (p:=⟨b,1,none⟩) (Nat.le_refl _) _).setCell (p:=⟨b,2,none⟩) (Nat.le_refl _) _).setCell (p:=⟨b,3,none⟩) (Nat.le_refl _) _).setCell (p:=⟨b,4,none⟩) (Nat.le_refl _) _).setCell (p:=⟨b,5,none⟩) (Nat.le_refl _) _).setCell (p:=⟨b,6,none⟩) (Nat.le_refl _) _).setCell (p:=⟨b,8,none⟩) (Nat.le_refl _) _).setCell (p:=⟨b,9,none⟩) (Nat.le_refl _) _).setCell (p:=⟨b,10,none⟩) (Nat.le_refl _) _).setCell (p:=⟨b,11,none⟩) (Nat.le_refl _) _).setCell (p:=⟨b,12,none⟩) (Nat.le_refl _) _).setCell (p:=⟨b,13,none⟩) (Nat.le_refl _) _).setCell (p:=⟨b,14,none⟩) (Nat.le_refl _) _).setCell (p:=⟨b,15,none⟩) (Nat.le_refl _) _).setCell (p:=⟨b,16,none⟩) (Nat.le_refl _) _).setCell (p:=⟨b,17,none⟩) (Nat.le_refl _) _).setCell (p:=⟨b,18,none⟩) (Nat.le_refl _) _).setCell (p:=⟨b,19,none⟩) (Nat.le_refl _) _).setCell (p:=⟨b,20,none⟩) (Nat.le_refl _) _).setCell (p:=⟨b,21,none⟩) (Nat.le_refl _) _).setCell (p:=⟨b,22,none⟩) (Nat.le_refl _) _).setCell (p:=⟨b,23,none⟩) (Nat.le_refl _) _).setCell (p:=⟨b,24,none⟩) (Nat.le_refl _) _).setCell (p:=⟨b,25,none⟩) (Nat.le_refl _) _)
theorem eH.fresh {w:World} {b:Nat} {p:eG} (R:Row w b (cells p (.slice none 0 0) (.slice none 0 0) (.slice none 0 0) u)) (h1:p.known=[]) (h2:p.unknown=[]) (h3:p.plangs=[]):eH w b b p (.slice none 0 0) (.slice none 0 0) (.slice none 0 0) u:=by
 refine ⟨Nat.le_refl _,R,?_,?_,?_,(fun h=>by cases h),(fun h=>by cases h),(fun h=>by cases h),.inl rfl⟩
 ·rw[h1];exact ⟨rfl,.inl ⟨rfl,rfl⟩⟩
 ·rw[h2];exact ⟨rfl,.inl ⟨rfl,rfl⟩⟩
 rw[h3];exact ⟨rfl,.inl ⟨rfl,rfl⟩⟩
def zeroCells:List Value:=cells { gC with cLow:=0,cHigh:=0,sec:=0,lang:=0,fmt:=0,kind:=0,lay:=0,base:=0,cust:=0,pfmt:=0,pkind:=0,play:=0,nEnd:=0 } (.slice none 0 0) (.slice none 0 0) (.slice none 0 0) (.pointer none)
theorem uC (w:World) (v:Value) (comp:ByteArray):Calls Tryz.prog 126 #[v,.string comp] w fun e w'=>e = .returned (.pointer (some ⟨w.heap.size,0,none⟩))∧eH w' w.heap.size w.heap.size { gC with comp:=comp } (.slice none 0 0) (.slice none 0 0) (.slice none 0 0) (.pointer none)∧Below w.heap.size w w':=by
 have hR:=Row.new w zeroCells 80;have hB:Below w.heap.size w (w.alloc (.cells zeroCells.toArray 80)):=(Below.refl _ _).alloc (Nat.le_refl _) _;have hs:w.heap.size < (w.alloc (.cells zeroCells.toArray 80)).heap.size:=by simp
 simp only[zeroCells,cells,gC] at hR hB hs;go_enter Tryz.func126,Tryz.ntmps126;go_wp2_with fail
 refine (aD4 (p:={ gC with cLow:=0,cHigh:=0,sec:=0,lang:=0,fmt:=0,kind:=0,lay:=0,base:=0,cust:=0,pfmt:=0,pkind:=0,play:=0,nEnd:=0 }) (A:=none) (A2:=none) (n:=0) (c:=0) (n2:=0) (c2:=0) hR).mono ?_;rintro e w' ⟨rfl,hr,hb⟩;have HB:=bX (hB.trans hb);have h4:=hr.at 4 _ rfl;have f4:=hr.free 4 bI;have HR:=bX hr;clear hR hB hs hr hb;go_wp2_with fail
 go_ret;refine ⟨rfl,eH.fresh (Row.eq (HR.out.set 4 (.string comp) bI) bB) rfl rfl rfl,HB.out.setCell (Nat.le_refl _) _⟩
end
def hJ (E:Env) (comp s:ByteArray):eG:=mDo E comp s { gC with comp:=comp }
theorem tO (E:Env) (comp s:ByteArray) (hs:s.size≤900000):hO (hJ E comp s)∧-1≤(hJ E comp s).fmt∧-1≤(hJ E comp s).lang:=by
 obtain ⟨T,hT⟩:∃ T:ByteArray,⟨(iE s.data.toList).toArray⟩=T:=⟨_,rfl⟩
 have hl:L T=iE (L s):=by rw[← hT];exact kD _
 have h0:T.data.toList[0]? = some 47:=by show (L T)[0]? = _;rw[hl,← List.head?_eq_getElem?];exact mText_head _
 have hz:T.size≤1000000:=by have:=mText_length (L s);rw[← eF,hl];have:=eF s;omega
 have hI:In1 T comp T.size ⟨jP { gC with comp:=comp } T,0,0⟩:=In1.start rfl rfl rfl rfl rfl rfl rfl rfl rfl rfl rfl rfl rfl;have h2:=(InD.loop (E:=E) (sk:=lP T.data.toList) (nd:=qX T.data.toList) h0 T.size _ (Nat.le_refl _) (.inl hI)).last h0;have h3:=h2.fin (E:=E) hz;unfold hJ mDo;rw[hT];exact h3
end Go.Proofs.YtlkoeeccebmjmaaGreatDoor.Path
namespace Go.Proofs.YtlkoeeccebmjmaaGreatDoor.Index
open Go.RowKit Go.ZW.PrintWords Go.Proofs.YtlkoeeccebmjmaaGreatDoor.Base Go.Proofs.YtlkoeeccebmjmaaGreatDoor.PCore
def idx (t:List UInt8):List UInt8→Option Nat
 | []=>if t.isEmpty then some 0 else none
 | c::r=>if t.isPrefixOf (c::r) then some 0 else (idx t r).map (· + 1)
def zM:Option Nat→Int
 | none=>-1
 | some n=>n
theorem uV (t:List UInt8):∀ l:List UInt8,l.length < t.length→idx t l=none
 | [],h=>by cases t with | nil=>simp at h | cons=>rfl
 | c::r,h=>by
  have h1:t.isPrefixOf (c::r)=false:=by
   rw[Bool.eq_false_iff];intro hp;have:=(List.isPrefixOf_iff_prefix.1 hp).length_le;omega
  simp only[idx,h1];rw[uV t r (by simp at h;omega)];rfl
theorem wX (t l:List UInt8):t.isPrefixOf l=decide (l.take t.length=t):=by
 rw[Bool.eq_iff_iff,List.isPrefixOf_iff_prefix,decide_eq_true_iff];constructor
 ·rintro ⟨u,rfl⟩;simp
 intro h;rw[← h];exact List.take_prefix _ _
theorem aEy (s:ByteArray) (i n:Nat):(s.extract i (i+n)).toList=((L s).drop i).take n:=by
 rw[L_toList,eR];congr 1;omega
theorem aA0 (s t:ByteArray) (hs:s.size≤140737488355328) (ht:t.size≤140737488355328) (ht0:0 < t.size) (d:Nat):∀ i:Nat,s.size - i=d→i≤s.size →
 Ev (fun k=>fE.l0 k s t i) (zM ((idx (L t) ((L s).drop i)).map (· + i))):=by
 have hl:=eF s;have hlt:=eF t
 induction d with
 | zero =>
  intro i h1 h2;rw[uV (L t) _ (by simp;omega)];refine Ev.step (f:=fun _=>some (-1)) (fun k=>?_) (Ev.now _);simp only[fE.l0];rw[if_neg (by rw[w64 bA bA];omega)]
 | succ d ih =>
  intro i h1 h2
  by_cases hfit:i+t.size≤s.size
  ·have hi:i < (L s).length:=by omega
   have e:(L s).drop i=(L s)[i]::(L s).drop (i+1):=List.drop_eq_getElem_cons hi;have hx:(s.extract i (i+t.size)).toList=((L s).drop i).take (L t).length:=by rw[aEy,hlt]
   by_cases h:((L s).drop i).take (L t).length=L t
   ·have e2:idx (L t) ((L s).drop i)=some 0:=by
     have:(L t).isPrefixOf ((L s)[i]::(L s).drop (i+1))=true:=by rw[wX,← e];simpa using h
     rw[e];simp only[idx,this,if_true]
    rw[e2];refine Ev.step (f:=fun _=>some (i:Int)) (fun k=>?_) (by simpa [zM] using Ev.now (i:Int));simp only[fE.l0];rw[w64 (n:=(i:Int)+t.size) bA bA,if_pos bA,if_pos bA,if_pos bA];rw[show ((i:Int)+(t.size:Int)).toNat=i+t.size from by omega,show ((i:Nat):Int).toNat=i from by omega,hx,if_pos (by rw[h,L_toList])]
   have e2:idx (L t) ((L s).drop i)=(idx (L t) ((L s).drop (i+1))).map (· + 1):=by
    have:(L t).isPrefixOf ((L s)[i]::(L s).drop (i+1))=false:=by rw[wX,← e];simpa using h
    rw[e];simp only[idx,this];rfl
   have e3:(idx (L t) ((L s).drop i)).map (· + i)=(idx (L t) ((L s).drop (i+1))).map (· + (i+1)):=by
    rw[e2,Option.map_map];congr 1;funext x;simp only[Function.comp];omega
   rw[e3];refine Ev.step (f:=fun k=>fE.l0 k s t ((i+1:Nat):Int)) (fun k=>?_) (ih (i+1) bA bA);simp only[fE.l0];rw[w64 (n:=(i:Int)+t.size) bA bA,if_pos bA,if_pos bA,if_pos bA];rw[show ((i:Int)+(t.size:Int)).toNat=i+t.size from by omega,show ((i:Nat):Int).toNat=i from by omega,hx,if_neg (by rw[L_toList];exact h),w64 bA bA];rfl
  rw[uV (L t) _ (by simp;omega)];refine Ev.step (f:=fun _=>some (-1)) (fun k=>?_) (Ev.now _);simp only[fE.l0];rw[if_neg (by rw[w64 bA bA];omega)]
theorem aEx (s t:ByteArray) (hs:s.size≤140737488355328) (ht:t.size≤140737488355328) (ht0:0 < t.size):Ev (fun k=>fE.f k s t) (zM (idx (L t) (L s))):=by
 have h:=aA0 s t hs ht ht0 s.size 0 bA bA;simp only[List.drop_zero,Nat.add_zero] at h;have e:(idx (L t) (L s)).map (fun x=>x)=idx (L t) (L s):=by cases idx (L t) (L s) <;> rfl
 rw[e] at h;exact h
theorem yX (s t:ByteArray) (r:Int) (w:World) (hs:s.size≤140737488355328) (ht:t.size≤140737488355328) (ht0:0 < t.size) (hr:zM (idx (L t) (L s))=r) :
 Calls Tryz.prog 159 #[.string s,.string t] w fun e w'=>e = .returned (.int .i64 r)∧eY w w':=by
 obtain ⟨k,hk⟩:=(aEx s t hs ht ht0).rounds;exact fE.calls k s t r w (by rw[hk,hr])
theorem idx_one (c:UInt8):∀ l:List UInt8,(idx [c] l=none∧∀ x∈l,x≠c)∨∃ n,idx [c] l=some n∧n < l.length∧l=l.take n++c::l.drop (n+1)∧∀ x∈l.take n,x≠c
 | []=>.inl ⟨rfl,dW⟩
 | a::r=>by
  by_cases h:a=c
  ·subst h;exact .inr ⟨0,by simp[idx,List.isPrefixOf],dW,dW,dW⟩
  have hp:List.isPrefixOf [c] (a::r)=false:=by simp[List.isPrefixOf];exact fun e=>h e.symm
  rcases idx_one c r with ⟨h1,h2⟩ | ⟨n,h1,h2,h3,h4⟩
  ·left;refine ⟨by simp[idx,hp,h1],?_⟩;intro x hx;rcases List.mem_cons.1 hx with rfl | hx
   ·exact h
   exact h2 x hx
  right;refine ⟨n+1,by simp[idx,hp,h1],by simp;omega,?_,?_⟩
  ·simp only[List.take_succ_cons,List.drop_succ_cons,List.cons_append];congr 1
  intro x hx;simp only[List.take_succ_cons,List.mem_cons] at hx;rcases hx with rfl | hx
  ·exact h
  exact h4 x hx
end Go.Proofs.YtlkoeeccebmjmaaGreatDoor.Index
namespace Go.Proofs.YtlkoeeccebmjmaaGreatDoor.Norm
open Go.RowKit Go.ZW.PrintWords Go.Proofs.YtlkoeeccebmjmaaGreatDoor.Base Go.Proofs.YtlkoeeccebmjmaaGreatDoor.Lower Go.Proofs.YtlkoeeccebmjmaaGreatDoor.Index
theorem oK (a b:ByteArray):bytesOf (a++b)=bytesOf a++bytesOf b:=by simp[bytesOf]
theorem aD7 (a:ByteArray):strOfNums (bytesOf a)=a:=by
 apply L_inj;have e:L (strOfNums (bytesOf a))=(bytesOf a).map fun n=>UInt8.ofNat n.toNat:=strOfNums_data _;rw[e,bytesOf,List.map_map]
 conv=>rhs;rw[← List.map_id (L a)]
 refine List.map_congr_left fun b _=>?_
 simp
theorem aB8 (l:List UInt8) (h:∀ x∈l,x≠32):l.map lT=l:=by
 conv=>rhs;rw[← List.map_id l]
 refine List.map_congr_left fun b hb=>?_;unfold lT;rw[if_neg (h b hb)];rfl
theorem info5:(Tryz.prog.info? 5).map (fun i=>(i.zero,i.size,i.bytes))=some (some (.int .u8 0),1,1):=by kernel_rfl
def strLen:Value→Nat
 | .string r=>r.size
 | _=>0
theorem aA7 (s:ByteArray) (w:World) (hs:s.size≤140737488351232) :
 Calls Tryz.prog 142 #[.string s,.string ⟨#[32]⟩,.string ⟨#[45]⟩] w fun e w'=>e = .returned (.string (hyp s))∧Below w.heap.size w w':=by
 have hinf:=info5;have HINF:=bX hinf;clear hinf;go_enter Tryz.func142,Tryz.ntmps142;go_wp2_with fail
 go_loopw [0,7] (fun sv ov wr=>∃ (rest done:ByteArray),sv = .string rest∧Aside0 (wr.ownsRow w.heap.size 5 1 ov (bytesOf done).length (nums .u8 (bytesOf done)))∧Aside0 (L done++(L rest).map lT=(L s).map lT)∧done.size+rest.size≤140737488351232∧Aside0 (Below w.heap.size w wr))
  (fun sv _ _=>strLen sv)
 case atStart=>exact ⟨s,ByteArray.empty,rfl,⟨rI _ _ _ _⟩,⟨by simp[L]⟩,by simp;exact hs,⟨Below.refl _ _⟩⟩
 case round =>
  obtain ⟨rest,done,rfl,HO,HT,hsz,HB⟩:=hrel;have hl:=eF rest;have hld:(bytesOf done).length=done.size:=bytesOf_length done;have hb:=HB.out.size;rcases idx_one 32 (L rest) with ⟨h1,h2⟩ | ⟨n,h1,h2,h3,h4⟩
  ·have e:hyp s=done++rest:=by
    apply L_inj;rw[aEk,← HT.out,nC,aB8 _ h2]
   have HE:=bX e;have hz:=fun w=>yX rest ⟨#[32]⟩ (-1) w bA bG bG (by show zM (idx [32] (L rest)) = -1;rw[h1];rfl);have HLD:=bX hld;clear e h1 h2 hld hl;go_wp2_with fail
   (with_reducible refine (hz _).mono ?_)
   rintro e w' ⟨rfl,⟨nd,rfl⟩⟩
   go_wp2_with (at_builtin;refine pF (w0:=w) w.heap.size rfl _ _ 108 9 5 rfl Tryz.underlying108 Tryz.underlying9 HINF.out _ (bytesOf done) rest rfl rfl (vJ HO.out _) ?hb ?hs ?hz ?_)
   case hb=>exact pM HB.out hb (eY.below ⟨⟨_,rfl⟩⟩)
   case hs=>simpa using hb
   case hz=>rw[HLD.out];omega
   intro v1 w1 ho1 hb1 hg1;have hstr:=aFe (P:=Tryz.prog) (src:=108) (dst:=9) Tryz.underlying108 Tryz.underlying5 Tryz.underlying9 ho1;have HO1:=bX ho1;have HB1:=bX hb1;clear ho1 hb1 hg1;obtain ⟨A1,c1,rfl⟩:=fP HO1.out;go_wp2_with fail
   go_ret;exact ⟨by rw[HE.out,← aD7 (done++rest),oK];rfl,HB1.out⟩
  have hn:n < rest.size:=by omega
  have hz:=fun w=>yX rest ⟨#[32]⟩ n w bA bG bG (by show zM (idx [32] (L rest))=n;rw[h1];rfl);have es1:(rest.extract 0 n).size=n:=by rw[← eF,eR];simp;omega
  have es2:(rest.extract (n+1) rest.size).size=rest.size - (n+1):=by rw[← eF,eR];simp;omega
  have eL:L ((done++rest.extract 0 n)++(⟨#[45]⟩:ByteArray))++(L (rest.extract (n+1) rest.size)).map lT=(L s).map lT:=by
   rw[← HT.out,nC,nC,eR,eR];simp only[List.drop_zero,Nat.sub_zero];rw[List.take_of_length_le (l:=(L rest).drop (n+1)) (by simp;omega)]
   conv=>rhs;rw[h3]
   rw[List.map_append,aB8 _ h4,List.map_cons];simp only[List.append_assoc];rfl
  have HE:=bX eL;have HS1:=bX es1;have HS2:=bX es2;have HLD:=bX hld;clear h1 h2 h3 h4 hld hl eL es1 es2;go_wp2_with fail
  (with_reducible refine (hz _).mono ?_)
  rintro e w' ⟨rfl,⟨nd,rfl⟩⟩
  go_wp2_with (at_builtin;refine pF (w0:=w) w.heap.size rfl _ _ 108 9 5 rfl Tryz.underlying108 Tryz.underlying9 HINF.out _ (bytesOf done) (rest.extract 0 n) rfl rfl (vJ HO.out _) ?hb ?hs ?hz ?_)
  case hb=>exact pM HB.out hb (eY.below ⟨⟨_,rfl⟩⟩)
  case hs=>simpa using hb
  case hz=>rw[HLD.out,HS1.out];omega
  intro v1 w1 ho1 hb1 hg1;have hsz1:w.heap.size≤w1.heap.size:=hb1.size
  obtain ⟨xs1,hx1⟩:∃ xs1,bytesOf done++bytesOf (rest.extract 0 n)=xs1:=⟨_,rfl⟩
  try rw[← List.length_append] at ho1
  rw[hx1] at ho1;have HX1:=bX hx1;clear hx1;have HO1:=bX ho1;have HB1:=bX hb1;clear ho1 hb1 hg1
  go_wp2_with (at_builtin;refine pF (w0:=w) w.heap.size rfl _ _ 108 9 5 rfl Tryz.underlying108 Tryz.underlying9 HINF.out _ xs1 ⟨#[45]⟩ rfl rfl HO1.out HB1.out ?hs2 ?hz2 ?_)
  case hs2=>exact hsz1
  case hz2=>rw[← HX1.out,← oK,bytesOf_length,size_append,HS1.out];show _+1≤_;omega
  intro v2 w2 ho2 hb2 hg2;have HO2:=bX ho2;have HB2:=bX hb2;clear ho2 hb2 hg2;obtain ⟨A2,c2,rfl⟩:=fP HO2.out;go_wp2_with fail
  go_roundw
  case rel =>
   refine ⟨rest.extract (n+1) rest.size,(done++rest.extract 0 n)++(⟨#[45]⟩:ByteArray),rfl,⟨?_⟩,HE,?_,HB2⟩
   ·rw[oK,oK,HX1.out];simpa using HO2.out
   rw[size_append,size_append,HS1.out,HS2.out];show _+1+_≤_;omega
  case measure=>simp[strLen];omega
theorem tQ (s:ByteArray) (w:World) (hs:s.size≤140737488351232) (ha:∀ c∈L s,c.toNat≤127) :
 Calls Tryz.prog 124 #[.string s] w fun e w'=>e = .returned (.string (norm s))∧Below w.heap.size w w':=by
 have e:(⟨(Lib.toLowerA s.data.toList).toArray⟩:ByteArray)=low s:=by
  unfold low Lib.toLowerA;congr 2;refine List.map_congr_left fun c _=>?_;unfold Lib.lowerB Lib.isUpperB jI
  simp[UInt8.le_iff_toNat_le]
 have h1:=fun w=>Tryz.strings_ToLower_ascii s w bA (fun j b hb=>by have:=ha b (List.mem_of_getElem? hb);omega);rw[e] at h1;have hn:norm s=hyp (low s):=rfl;have HN:=bX hn;have hsz:(low s).size≤140737488351232:=by rw[pX];exact hs
 clear hn e;go_enter Tryz.func124,Tryz.ntmps124;go_wp2_with fail
 (with_reducible refine (h1 _).mono ?_)
 rintro e w1 ⟨rfl,HB1⟩;have HB1:=bX HB1;go_wp2_with fail
 (with_reducible refine (aA7 (low s) _ hsz).mono ?_)
 rintro e w2 ⟨rfl,HB2⟩;have HB2:=bX HB2;go_wp2_with fail
 go_ret;exact ⟨by rw[HN.out];rfl,pM HB1.out HB1.out.size HB2.out⟩
end Go.Proofs.YtlkoeeccebmjmaaGreatDoor.Norm
