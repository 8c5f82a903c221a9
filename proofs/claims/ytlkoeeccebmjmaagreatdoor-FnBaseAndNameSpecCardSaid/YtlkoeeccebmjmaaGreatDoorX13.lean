/- Texts that the law leans on: PCorex11, PCorex, Find, Count, Do3, New, MPath, Index, Norm. Condition: as told at each. -/
import Derived.Deep.LoopGhost
import Derived.Test.YtlkoeeccebmjmaaGreatDoorXa
import Derived.Test.YtlkoeeccebmjmaaGreatDoorX12
set_option linter.unusedVariables false
set_option linter.unusedSimpArgs false
set_option maxRecDepth 100000
set_option maxHeartbeats 16000000
namespace Go.Proofs.YtlkoeeccebmjmaaGreatDoor.PCore
open Go.RowKit Go.ZW.PrintWords Go.ZW.PrintLast Go.ZW.PrintMore
attribute [local go_sem] lD lF mD mE kR kS lE lG   -- for this text's walks alone
def jE.f (a0_0:ByteArray) (a0_1:ByteArray) (a0_2:ByteArray) (a0_3:Int) (l0_4:List ByteArray) (l0_5:List ByteArray) (l0_6:List ByteArray) (a0_7:ByteArray) (a0_8:ByteArray) (a0_9:ByteArray) (a0_10:ByteArray) (a0_11:ByteArray) (a0_12:ByteArray) (a0_13:Bool) (a0_14:Int):Option (ByteArray):=if a0_11.toList=([]:List UInt8) then (some a0_1) else ((lK.f a0_0 a0_1 a0_2 a0_3 l0_4 l0_5 l0_6 a0_7 a0_8 a0_9 a0_10 a0_11 a0_12 a0_13 a0_14).bind fun t207=>(if 0≤a0_3 then (if a0_3≤(a0_2.size:Int) then (if t207.size+(a0_2.extract 0 (a0_3:Int).toNat).size≤9223372036854775807 then (if (t207++(a0_2.extract 0 (a0_3:Int).toNat)).size+1≤9223372036854775807 then (if ((t207++(a0_2.extract 0 (a0_3:Int).toNat))++(⟨#[46]⟩:ByteArray)).size+a0_7.size≤9223372036854775807 then (some (((t207++(a0_2.extract 0 (a0_3:Int).toNat))++(⟨#[46]⟩:ByteArray))++a0_7)) else (none)) else (none)) else (none)) else (none)) else (none)))
def jE.T3:Bool×List (List Nat×List Nat):=(true,[([],[]),([0],[0]),([],[]),([2],[2]),([],[]),([4],[4]),([3,5],[3,5]),([1,6],[1,6]),([7],[7]),([],[]),([9],[9]),([8,10],[8,10]),([11,1,0,1,2,3,4,5,6,7,8,9,10,11],[11])])
def jE.B3:List Nat:=[0,1,0,4,0,16,60,127,255,0,512,2047,4095]
theorem jE.tab3:mP .any (opsOf Tryz.f107 3)=jE.T3:=by kernel_rfl
theorem jE.bits3:rC jE.T3.2 jE.B3=true:=by kernel_rfl
theorem jE.calls (a0_0:ByteArray) (a0_1:ByteArray) (a0_2:ByteArray) (a0_3:Int) (A0_4:Option Addr) (c0_4:Nat) (l0_4:List ByteArray) (A0_5:Option Addr) (c0_5:Nat) (l0_5:List ByteArray) (A0_6:Option Addr) (c0_6:Nat) (l0_6:List ByteArray) (a0_7:ByteArray) (a0_8:ByteArray) (a0_9:ByteArray) (a0_10:ByteArray) (a0_11:ByteArray) (a0_12:ByteArray) (a0_13:Bool) (a0_14:Int) (r:ByteArray) (w:World) (hr0_4:Kd.C Kd.string w A0_4 l0_4.length l0_4) (hc0_4:l0_4.length≤c0_4) (hr0_5:Kd.C Kd.string w A0_5 l0_5.length l0_5) (hc0_5:l0_5.length≤c0_5) (hr0_6:Kd.C Kd.string w A0_6 l0_6.length l0_6) (hc0_6:l0_6.length≤c0_6) (h:jE.f a0_0 a0_1 a0_2 a0_3 l0_4 l0_5 l0_6 a0_7 a0_8 a0_9 a0_10 a0_11 a0_12 a0_13 a0_14=some r) :
 Calls Tryz.prog 107 #[.agg #[.string a0_0,.string a0_1,.string a0_2,.int .i64 a0_3,.slice A0_4 l0_4.length c0_4,.slice A0_5 l0_5.length c0_5,.slice A0_6 l0_6.length c0_6,.string a0_7,.string a0_8,.string a0_9,.string a0_10,.string a0_11,.string a0_12,.bool a0_13,.int .i64 a0_14]] w fun e w'=>e = .returned (.string r)∧Below w.heap.size w w':=by
 have hu58:=Tryz.underlying58;have HR0_4:=bW hr0_4;have HC0_4:=bW hc0_4;clear hr0_4 hc0_4;have HR0_5:=bW hr0_5;have HC0_5:=bW hc0_5;clear hr0_5 hc0_5;have HR0_6:=bW hr0_6;have HC0_6:=bW hc0_6;clear hr0_6 hc0_6;have HB:=bW (Below.refl w.heap.size w)
 unfold jE.f at h;have H:=h;clear h
 by_cases c2:a0_11.toList=([]:List UInt8)
 ·rw[if_pos c2] at H;have c2b0:=beq_iff_eq.mpr c2;have c2b1:=bne_eq_false_iff_eq.mpr c2;clear c2;obtain rfl:=Option.some.inj H;go_enter Tryz.func107,Tryz.ntmps107
  go_wp2_with (first | ((with_reducible refine gO (N:=1) rfl ?_);refine gH ?hg (N:=1) ?hd (cs:=#[.string a0_0,.string a0_1,.string a0_2,.int .i64 a0_3,.slice A0_4 l0_4.length c0_4,.slice A0_5 l0_5.length c0_5,.slice A0_6 l0_6.length c0_6,.string a0_7,.string a0_8,.string a0_9,.string a0_10,.string a0_11,.string a0_12,.bool a0_13,.int .i64 a0_14]) (t:=58) ?hr ?_;(case hd=>rfl);(case hg=>rfl);(case hr=>exact cA);intro gb206 hg w3 hbox hb;have BK206:=bW (hbox);have GW206:=bW ((by rw[hg];exact (eJ bC):w.heap.size≤gb206));have GE206:=bW ((by rw[hg];exact (eJ bC):w.heap.size≤gb206));replace HB:=bW (eA bC hb);clear hb hbox hg;have hcz4_1:w3.cell? ⟨gb206,1,none⟩=some (.string a0_1):=(dY BK206.out 1).trans rfl;have hcz4_2:w3.cell? ⟨gb206,2,none⟩=some (.string a0_2):=(dY BK206.out 2).trans rfl;have hcz4_3:w3.cell? ⟨gb206,3,none⟩=some (.int .i64 a0_3):=(dY BK206.out 3).trans rfl;have hcz4_7:w3.cell? ⟨gb206,7,none⟩=some (.string a0_7):=(dY BK206.out 7).trans rfl;have hcz4_11:w3.cell? ⟨gb206,11,none⟩=some (.string a0_11):=(dY BK206.out 11).trans rfl))
  go_ret;exact ⟨aC,dM⟩
 rw[if_neg c2] at H;have c2b0:=beq_eq_false_iff_ne.mpr c2;have c2b1:=bne_iff_ne.mpr c2;replace H:=Option.bind_eq_some_iff.mp H;obtain ⟨t207,A50,H⟩:=H;have A5:=bW A50;clear A50
 by_cases c6:0≤a0_3
 ·rw[if_pos c6] at H;have c6b0:=eq_true c6;have c6b1:=decide_eq_true c6;clear c6
  by_cases c7:a0_3≤(a0_2.size:Int)
  ·rw[if_pos c7] at H;have c7b0:=eq_true c7;have c7b1:=decide_eq_true c7;clear c7
   by_cases c8:t207.size+(a0_2.extract 0 (a0_3:Int).toNat).size≤9223372036854775807
   ·rw[if_pos c8] at H;have c8b0:=eq_true c8;have c8b1:=decide_eq_true c8
    try have c8b2:(9223372036854775807 < t207.size+(a0_2.extract 0 (a0_3:Int).toNat).size)=False:=eq_false (Nat.not_lt.2 c8)
    try have c8b3:(9223372036854775807 < t207.size+a0_3.toNat)=False:=eq_false (by have e_:(a0_2.extract 0 (a0_3:Int).toNat).size=a0_3.toNat:=(by have h_:a0_3≤(a0_2.size:Int):=of_decide_eq_true (by assumption);rw[ByteArray.size_extract];omega);have l_:=of_decide_eq_true c8b1;omega)
    by_cases c9:(t207++(a0_2.extract 0 (a0_3:Int).toNat)).size+1≤9223372036854775807
    ·rw[if_pos c9] at H;have c9b0:=eq_true c9;have c9b1:=decide_eq_true c9
     try have c9b2:(9223372036854775807 < (t207++(a0_2.extract 0 (a0_3:Int).toNat)).size+1)=False:=eq_false (Nat.not_lt.2 c9)
     try have c9b3:(9223372036854775807 < t207.size+a0_3.toNat+1)=False:=eq_false (by have e_:(a0_2.extract 0 (a0_3:Int).toNat).size=a0_3.toNat:=(by have h_:a0_3≤(a0_2.size:Int):=of_decide_eq_true (by assumption);rw[ByteArray.size_extract];omega);have l_:=of_decide_eq_true c9b1;simp only[ByteArray.size_append] at l_;omega)
     by_cases c10:((t207++(a0_2.extract 0 (a0_3:Int).toNat))++(⟨#[46]⟩:ByteArray)).size+a0_7.size≤9223372036854775807
     ·rw[if_pos c10] at H;have c10b0:=eq_true c10;have c10b1:=decide_eq_true c10
      try have c10b2:(9223372036854775807 < ((t207++(a0_2.extract 0 (a0_3:Int).toNat))++(⟨#[46]⟩:ByteArray)).size+a0_7.size)=False:=eq_false (Nat.not_lt.2 c10)
      try have c10b3:(9223372036854775807 < t207.size+a0_3.toNat+1+a0_7.size)=False:=eq_false (by have e_:(a0_2.extract 0 (a0_3:Int).toNat).size=a0_3.toNat:=(by have h_:a0_3≤(a0_2.size:Int):=of_decide_eq_true (by assumption);rw[ByteArray.size_extract];omega);have l_:=of_decide_eq_true c10b1;have d_:(⟨#[46]⟩:ByteArray).size=1:=rfl;simp only[ByteArray.size_append] at l_;omega)
      obtain rfl:=Option.some.inj H;go_enter Tryz.func107,Tryz.ntmps107
      try go_wp2_with (first | ((with_reducible refine gO (N:=1) rfl ?_);refine gH ?hg (N:=1) ?hd (cs:=#[.string a0_0,.string a0_1,.string a0_2,.int .i64 a0_3,.slice A0_4 l0_4.length c0_4,.slice A0_5 l0_5.length c0_5,.slice A0_6 l0_6.length c0_6,.string a0_7,.string a0_8,.string a0_9,.string a0_10,.string a0_11,.string a0_12,.bool a0_13,.int .i64 a0_14]) (t:=58) ?hr ?_;(case hd=>rfl);(case hg=>rfl);(case hr=>exact cA);intro gb206 hg w11 hbox hb;have BK206:=bW (hbox);have GW206:=bW ((by rw[hg];exact (eJ bC):w.heap.size≤gb206));have GE206:=bW ((by rw[hg];exact (eJ bC):w.heap.size≤gb206));replace HB:=bW (eA bC hb);clear hb hbox hg;have hcz12_0:w11.cell? ⟨gb206,0,none⟩=some (.string a0_0):=(dY BK206.out 0).trans rfl;have hcz12_1:w11.cell? ⟨gb206,1,none⟩=some (.string a0_1):=(dY BK206.out 1).trans rfl;have hcz12_2:w11.cell? ⟨gb206,2,none⟩=some (.string a0_2):=(dY BK206.out 2).trans rfl;have hcz12_3:w11.cell? ⟨gb206,3,none⟩=some (.int .i64 a0_3):=(dY BK206.out 3).trans rfl;have hcz12_4:w11.cell? ⟨gb206,4,none⟩=some (.slice A0_4 l0_4.length c0_4):=(dY BK206.out 4).trans rfl;have hcz12_5:w11.cell? ⟨gb206,5,none⟩=some (.slice A0_5 l0_5.length c0_5):=(dY BK206.out 5).trans rfl;have hcz12_6:w11.cell? ⟨gb206,6,none⟩=some (.slice A0_6 l0_6.length c0_6):=(dY BK206.out 6).trans rfl;have hcz12_7:w11.cell? ⟨gb206,7,none⟩=some (.string a0_7):=(dY BK206.out 7).trans rfl;have hcz12_8:w11.cell? ⟨gb206,8,none⟩=some (.string a0_8):=(dY BK206.out 8).trans rfl;have hcz12_9:w11.cell? ⟨gb206,9,none⟩=some (.string a0_9):=(dY BK206.out 9).trans rfl;have hcz12_10:w11.cell? ⟨gb206,10,none⟩=some (.string a0_10):=(dY BK206.out 10).trans rfl;have hcz12_11:w11.cell? ⟨gb206,11,none⟩=some (.string a0_11):=(dY BK206.out 11).trans rfl;have hcz12_12:w11.cell? ⟨gb206,12,none⟩=some (.string a0_12):=(dY BK206.out 12).trans rfl;have hcz12_13:w11.cell? ⟨gb206,13,none⟩=some (.bool a0_13):=(dY BK206.out 13).trans rfl;have hcz12_14:w11.cell? ⟨gb206,14,none⟩=some (.int .i64 a0_14):=(dY BK206.out 14).trans rfl))
      replace BK206:=bW (gC BK206.out);replace HB:=bW (fG HB.out)
      refine hY (n:=13) (S:=fun w'=>w'.cell? ⟨gb206,0,none⟩=some (.string a0_0)∧w'.cell? ⟨gb206,1,none⟩=some (.string a0_1)∧w'.cell? ⟨gb206,2,none⟩=some (.string a0_2)∧w'.cell? ⟨gb206,3,none⟩=some (.int .i64 a0_3)∧w'.cell? ⟨gb206,4,none⟩=some (.slice A0_4 l0_4.length c0_4)∧w'.cell? ⟨gb206,5,none⟩=some (.slice A0_5 l0_5.length c0_5)∧w'.cell? ⟨gb206,6,none⟩=some (.slice A0_6 l0_6.length c0_6)∧w'.cell? ⟨gb206,7,none⟩=some (.string a0_7)∧w'.cell? ⟨gb206,8,none⟩=some (.string a0_8)∧w'.cell? ⟨gb206,9,none⟩=some (.string a0_9)∧w'.cell? ⟨gb206,10,none⟩=some (.string a0_10)∧w'.cell? ⟨gb206,11,none⟩=some (.string a0_11)∧w'.cell? ⟨gb206,12,none⟩=some (.string a0_12)∧w'.cell? ⟨gb206,13,none⟩=some (.bool a0_13)∧w'.cell? ⟨gb206,14,none⟩=some (.int .i64 a0_14)) (ds:=[]) _ bB rfl rfl ⟨(dY BK206.out 0).trans rfl,(dY BK206.out 1).trans rfl,(dY BK206.out 2).trans rfl,(dY BK206.out 3).trans rfl,(dY BK206.out 4).trans rfl,(dY BK206.out 5).trans rfl,(dY BK206.out 6).trans rfl,(dY BK206.out 7).trans rfl,(dY BK206.out 8).trans rfl,(dY BK206.out 9).trans rfl,(dY BK206.out 10).trans rfl,(dY BK206.out 11).trans rfl,(dY BK206.out 12).trans rfl,(dY BK206.out 13).trans rfl,(dY BK206.out 14).trans rfl⟩ (fun hHeld=>?_);refine aA2 jE.tab3 jE.bits3 (fun HT_ HW_=>?_)
      generalize w11.drew=w13 at BK206 HB hHeld ⊢;refine nP (i:=2) (N:=some 10) (v:=?_) (a':=?_) #[false,false,true,false,false,false,false,false,false,false,false,false,false] rfl rfl (nH HT_.out bB) (fun _ _ _ h=>h) (Or.inl ⟨by rfl,?_⟩) ?_ ?_;rotate_left
      ·intro w';go_simp
       with_reducible rfl
      rotate_left
      ·simp only[Act.put,bX,bY,bZ,gU,iG];rfl
      refine nP (i:=4) (N:=some 12) (v:=?_) (a':=?_) #[false,false,true,false,true,false,false,false,false,false,false,false,false] rfl rfl (nH HT_.out bB) (fun _ _ _ h=>h) (Or.inl ⟨by rfl,?_⟩) ?_ ?_;rotate_left
      ·intro w';go_simp
       with_reducible rfl
      rotate_left
      ·simp only[Act.put,bX,bY,bZ,gU,iG];rfl
      refine nP (i:=9) (N:=some 17) (v:=?_) (a':=?_) #[false,false,true,false,true,false,false,false,false,true,false,false,false] rfl rfl (nH HT_.out bB) (fun _ _ _ h=>h) (Or.inl ⟨by rfl,?_⟩) ?_ ?_;rotate_left
      ·intro w';go_simp
       with_reducible rfl
      rotate_left
      ·simp only[Act.put,bX,bY,bZ,gU,iG];rfl
      refine take_ (i:=0) (N:=some 8) (v:=?_) (a':=?_) #[true,false,true,false,true,false,false,false,false,true,false,false,false] rfl rfl (oY HT_.out HW_.out bB) (fun _ _ _ h=>h) (Or.inl ⟨by rfl,?_⟩) hHeld ?_ ?_;rotate_left
      ·rintro w' ⟨s0,s1,s2,s3,s4,s5,s6,s7,s8,s9,s10,s11,s12,s13,s14⟩;go_simp
       with_reducible rfl
      rotate_left
      ·simp only[Act.put,bX,bY,bZ,gU,iG];rfl
      refine take_ (i:=3) (N:=some 11) (v:=?_) (a':=?_) #[true,false,true,true,true,false,false,false,false,true,false,false,false] rfl rfl (oY HT_.out HW_.out bB) (fun _ _ _ h=>h) (Or.inl ⟨by rfl,?_⟩) hHeld ?_ ?_;rotate_left
      ·rintro w' ⟨s0,s1,s2,s3,s4,s5,s6,s7,s8,s9,s10,s11,s12,s13,s14⟩;go_simp
       with_reducible rfl
      rotate_left
      ·simp only[Act.put,bX,bY,bZ,gU,iG];rfl
      refine take_ (i:=5) (N:=some 13) (v:=?_) (a':=?_) #[true,false,true,true,true,true,false,false,false,true,false,false,false] rfl rfl (oY HT_.out HW_.out bB) (fun _ _ _ h=>h) (Or.inl ⟨by rfl,?_⟩) hHeld ?_ ?_;rotate_left
      ·rintro w' ⟨s0,s1,s2,s3,s4,s5,s6,s7,s8,s9,s10,s11,s12,s13,s14⟩;go_simp
       with_reducible rfl
      rotate_left
      ·simp only[Act.put,bX,bY,bZ,gU,iG];rfl
      refine nP (i:=6) (N:=some 14) (v:=?_) (a':=?_) #[true,false,true,true,true,true,true,false,false,true,false,false,false] rfl rfl (nH HT_.out bB) (fun _ _ _ h=>h) (Or.inl ⟨by rfl,?_⟩) ?_ ?_;rotate_left
      ·intro w';go_simp
       with_reducible rfl
      rotate_left
      ·simp only[Act.put,bX,bY,bZ,gU,iG];rfl
      refine take_ (i:=10) (N:=some 18) (v:=?_) (a':=?_) #[true,false,true,true,true,true,true,false,false,true,true,false,false] rfl rfl (oY HT_.out HW_.out bB) (fun _ _ _ h=>h) (Or.inl ⟨by rfl,?_⟩) hHeld ?_ ?_;rotate_left
      ·rintro w' ⟨s0,s1,s2,s3,s4,s5,s6,s7,s8,s9,s10,s11,s12,s13,s14⟩;go_simp
       with_reducible rfl
      rotate_left
      ·simp only[Act.put,bX,bY,bZ,gU,iG];rfl
      refine aHu (i:=1) (N:=some 9) #[true,true,true,true,true,true,true,false,false,true,true,false,false] rfl rfl (aGt HT_.out bB) bF (fun K hK=>?_);refine lA Tryz.func137 bB rfl #[.agg #[.string a0_0,.string a0_1,.string a0_2,.int .i64 a0_3,.slice A0_4 l0_4.length c0_4,.slice A0_5 l0_5.length c0_5,.slice A0_6 l0_6.length c0_6,.string a0_7,.string a0_8,.string a0_9,.string a0_10,.string a0_11,.string a0_12,.bool a0_13,.int .i64 a0_14]] bH rfl rfl bD ?_
      with_reducible refine (lK.calls a0_0 a0_1 a0_2 a0_3 _ _ l0_4 _ _ l0_5 _ _ l0_6 a0_7 a0_8 a0_9 a0_10 a0_11 a0_12 a0_13 a0_14 t207 _ ?side1 ?side2 ?side3 ?side4 ?side5 ?side6 A5.out).mono ?_
      (case side1=>exact cT)
      (case side2=>exact HC0_4.out)
      (case side3=>exact cU)
      (case side4=>exact HC0_5.out)
      (case side5=>exact cV)
      (case side6=>exact HC0_6.out)
      rintro e w14 ⟨rfl,hb⟩;refine ⟨_,rfl,?_⟩;replace BK206:=bW (hJ (g:=gb206) (o:=.cells #[.string a0_0,.string a0_1,.string a0_2,.int .i64 a0_3,.slice A0_4 l0_4.length c0_4,.slice A0_5 l0_5.length c0_5,.slice A0_6 l0_6.length c0_6,.string a0_7,.string a0_8,.string a0_9,.string a0_10,.string a0_11,.string a0_12,.bool a0_13,.int .i64 a0_14] 58 (0,0)) (by (with_reducible repeat (first | refine fZ ?_ _ | refine gC ?_ | refine fY ?_ _));exact BK206.out) hb);replace HB:=bW (eA (by repeat (first | (with_reducible first | exact HB.out | apply fC | apply eU | apply fG | refine fT ?_ GE206.out) | exact HB.out)) hb)
      (try clear hb)
      (try clear hb2)
      (try clear hk)
      (try clear hi)
      refine hK.out _ _ ⟨(dY BK206.out 0).trans rfl,(dY BK206.out 1).trans rfl,(dY BK206.out 2).trans rfl,(dY BK206.out 3).trans rfl,(dY BK206.out 4).trans rfl,(dY BK206.out 5).trans rfl,(dY BK206.out 6).trans rfl,(dY BK206.out 7).trans rfl,(dY BK206.out 8).trans rfl,(dY BK206.out 9).trans rfl,(dY BK206.out 10).trans rfl,(dY BK206.out 11).trans rfl,(dY BK206.out 12).trans rfl,(dY BK206.out 13).trans rfl,(dY BK206.out 14).trans rfl⟩ (fun hHeld=>?_);clear hK K;refine gJ sJ1 ?_
      refine nP (i:=7) (N:=some 15) (v:=?_) (a':=?_) #[true,true,true,true,true,true,true,true,false,true,true,false,false] rfl rfl (nH HT_.out bB) (fun _ _ _ h=>h) (Or.inl ⟨by rfl,?_⟩) ?_ ?_;rotate_left
      ·intro w';go_simp
       with_reducible rfl
      rotate_left
      ·simp only[Act.put,bX,bY,bZ,gU,iG];rfl
      refine nP (i:=8) (N:=some 16) (v:=?_) (a':=?_) #[true,true,true,true,true,true,true,true,true,true,true,false,false] rfl rfl (nH HT_.out bB) (fun _ _ _ h=>h) (Or.inl ⟨by rfl,?_⟩) ?_ ?_;rotate_left
      ·intro w';go_simp
       with_reducible rfl
      rotate_left
      ·simp only[Act.put,bX,bY,bZ,gU,iG];rfl
      refine nP (i:=11) (N:=some 19) (v:=?_) (a':=?_) #[true,true,true,true,true,true,true,true,true,true,true,true,false] rfl rfl (nH HT_.out bB) (fun _ _ _ h=>h) (Or.inl ⟨by rfl,?_⟩) ?_ ?_;rotate_left
      ·intro w';go_simp
       with_reducible rfl
      rotate_left
      ·simp only[Act.put,bX,bY,bZ,gU,iG];rfl
      refine nP (i:=12) (N:=some 2) (v:=?_) (a':=?_) #[true,true,true,true,true,true,true,true,true,true,true,true,true] rfl rfl (nH HT_.out bB) (fun _ _ _ h=>h) (Or.inl ⟨by rfl,?_⟩) ?_ ?_;rotate_left
      ·intro w';go_simp
       with_reducible rfl
      rotate_left
      ·simp only[Act.put,bX,bY,bZ,gU,iG];rfl
      refine iK (aEh HT_.out bB) ?_
      try go_wp2
      go_ret;exact ⟨aC,dM⟩
     rw[if_neg c10] at H;exact absurd H bJ
    rw[if_neg c9] at H;exact absurd H bJ
   rw[if_neg c8] at H;exact absurd H bJ
  rw[if_neg c7] at H;exact absurd H bJ
 rw[if_neg c6] at H;exact absurd H bJ
def mF.f (a0_0:ByteArray) (a0_1:ByteArray) (a0_2:ByteArray) (a0_3:Int) (l0_4:List ByteArray) (l0_5:List ByteArray) (l0_6:List ByteArray) (a0_7:ByteArray) (a0_8:ByteArray) (a0_9:ByteArray) (a0_10:ByteArray) (a0_11:ByteArray) (a0_12:ByteArray) (a0_13:Bool) (a0_14:Int) (a1:ByteArray):Option (ByteArray):=if (l0_4.length:Int)=0 then (some a1) else (if 0≤(wrap64 ((wrap64 ((a1.size:Int) - (a0_7.size:Int))) - 1)) then (if (wrap64 ((wrap64 ((a1.size:Int) - (a0_7.size:Int))) - 1))≤(a1.size:Int) then (some (a1.extract 0 ((wrap64 ((wrap64 ((a1.size:Int) - (a0_7.size:Int))) - 1)):Int).toNat)) else (none)) else (none))
theorem mF.calls (a0_0:ByteArray) (a0_1:ByteArray) (a0_2:ByteArray) (a0_3:Int) (A0_4:Option Addr) (c0_4:Nat) (l0_4:List ByteArray) (A0_5:Option Addr) (c0_5:Nat) (l0_5:List ByteArray) (A0_6:Option Addr) (c0_6:Nat) (l0_6:List ByteArray) (a0_7:ByteArray) (a0_8:ByteArray) (a0_9:ByteArray) (a0_10:ByteArray) (a0_11:ByteArray) (a0_12:ByteArray) (a0_13:Bool) (a0_14:Int) (a1:ByteArray) (r:ByteArray) (w:World) (hr0_4:Kd.C Kd.string w A0_4 l0_4.length l0_4) (hc0_4:l0_4.length≤c0_4) (hr0_5:Kd.C Kd.string w A0_5 l0_5.length l0_5) (hc0_5:l0_5.length≤c0_5) (hr0_6:Kd.C Kd.string w A0_6 l0_6.length l0_6) (hc0_6:l0_6.length≤c0_6) (h:mF.f a0_0 a0_1 a0_2 a0_3 l0_4 l0_5 l0_6 a0_7 a0_8 a0_9 a0_10 a0_11 a0_12 a0_13 a0_14 a1=some r) :
 Calls Tryz.prog 104 #[.agg #[.string a0_0,.string a0_1,.string a0_2,.int .i64 a0_3,.slice A0_4 l0_4.length c0_4,.slice A0_5 l0_5.length c0_5,.slice A0_6 l0_6.length c0_6,.string a0_7,.string a0_8,.string a0_9,.string a0_10,.string a0_11,.string a0_12,.bool a0_13,.int .i64 a0_14],.string a1] w fun e w'=>e = .returned (.string r)∧Below w.heap.size w w':=by
 have hu58:=Tryz.underlying58;have HR0_4:=bW hr0_4;have HC0_4:=bW hc0_4;clear hr0_4 hc0_4;have HR0_5:=bW hr0_5;have HC0_5:=bW hc0_5;clear hr0_5 hc0_5;have HR0_6:=bW hr0_6;have HC0_6:=bW hc0_6;clear hr0_6 hc0_6;have HB:=bW (Below.refl w.heap.size w);unfold mF.f at h;have H:=h;clear h
 by_cases c3:(l0_4.length:Int)=0
 ·rw[if_pos c3] at H;have c3b0:=beq_iff_eq.mpr c3;have c3b1:=bne_eq_false_iff_eq.mpr c3;clear c3;obtain rfl:=Option.some.inj H;go_enter Tryz.func104,Tryz.ntmps104
  go_wp2_with (first | ((with_reducible refine gO (N:=2) rfl ?_);refine gH ?hg (N:=2) ?hd (cs:=#[.string a0_0,.string a0_1,.string a0_2,.int .i64 a0_3,.slice A0_4 l0_4.length c0_4,.slice A0_5 l0_5.length c0_5,.slice A0_6 l0_6.length c0_6,.string a0_7,.string a0_8,.string a0_9,.string a0_10,.string a0_11,.string a0_12,.bool a0_13,.int .i64 a0_14]) (t:=58) ?hr ?_;(case hd=>rfl);(case hg=>rfl);(case hr=>exact cA);intro gb208 hg w4 hbox hb;have BK208:=bW (hbox);have GW208:=bW ((by rw[hg];exact (eJ bC):w.heap.size≤gb208));have GE208:=bW ((by rw[hg];exact (eJ bC):w.heap.size≤gb208));replace HB:=bW (eA bC hb);clear hb hbox hg;have hcz5_4:w4.cell? ⟨gb208,4,none⟩=some (.slice A0_4 l0_4.length c0_4):=(dY BK208.out 4).trans rfl;have hcz5_7:w4.cell? ⟨gb208,7,none⟩=some (.string a0_7):=(dY BK208.out 7).trans rfl))
  go_ret;exact ⟨aC,dN⟩
 rw[if_neg c3] at H;have c3b0:=beq_eq_false_iff_ne.mpr c3;have c3b1:=bne_iff_ne.mpr c3;have c3b2:¬ (l0_4=[]):=fun h_=>c3 (by rw[h_];rfl)
 obtain ⟨ji6,hji6⟩:∃ j_:Int,(wrap64 ((wrap64 ((a1.size:Int) - (a0_7.size:Int))) - 1))=j_:=⟨_,rfl⟩
 replace H:(if 0≤(ji6) then (if (ji6)≤(a1.size:Int) then (some (a1.extract 0 ((ji6):Int).toNat)) else (none)) else (none))=some r:=by first | (rw[hji6] at H;exact H) | (simp only[hji6] at H ⊢;exact H)
 have hji6w:(IntKind.i64.wrap ((wrap64 ((a1.size:Int) - (a0_7.size:Int))) - 1))=ji6:=(gU _).trans hji6
 by_cases c7:0≤(ji6)
 ·rw[if_pos c7] at H;have c7b0:=eq_true c7;have c7b1:=decide_eq_true c7;clear c7
  by_cases c8:(ji6)≤(a1.size:Int)
  ·rw[if_pos c8] at H;have c8b0:=eq_true c8;have c8b1:=decide_eq_true c8;clear c8;obtain rfl:=Option.some.inj H;go_enter Tryz.func104,Tryz.ntmps104
   go_wp2_with (first | ((with_reducible refine gO (N:=2) rfl ?_);refine gH ?hg (N:=2) ?hd (cs:=#[.string a0_0,.string a0_1,.string a0_2,.int .i64 a0_3,.slice A0_4 l0_4.length c0_4,.slice A0_5 l0_5.length c0_5,.slice A0_6 l0_6.length c0_6,.string a0_7,.string a0_8,.string a0_9,.string a0_10,.string a0_11,.string a0_12,.bool a0_13,.int .i64 a0_14]) (t:=58) ?hr ?_;(case hd=>rfl);(case hg=>rfl);(case hr=>exact cA);intro gb208 hg w9 hbox hb;have BK208:=bW (hbox);have GW208:=bW ((by rw[hg];exact (eJ bC):w.heap.size≤gb208));have GE208:=bW ((by rw[hg];exact (eJ bC):w.heap.size≤gb208));replace HB:=bW (eA bC hb);clear hb hbox hg;have hcz10_4:w9.cell? ⟨gb208,4,none⟩=some (.slice A0_4 l0_4.length c0_4):=(dY BK208.out 4).trans rfl;have hcz10_7:w9.cell? ⟨gb208,7,none⟩=some (.string a0_7):=(dY BK208.out 7).trans rfl))
   go_ret;exact ⟨by first | rfl | (simp[oZ,pA] <;> rfl) | (simp only[← hji6];first | rfl | (simp[oZ,pA] <;> rfl)) | (simp[*,oZ,pA] <;> rfl),dN⟩
  rw[if_neg c8] at H;exact absurd H bJ
 rw[if_neg c7] at H;exact absurd H bJ
end Go.Proofs.YtlkoeeccebmjmaaGreatDoor.PCore
namespace Go.Proofs.YtlkoeeccebmjmaaGreatDoor.PCore
open Go.RowKit Go.ZW.PrintWords Go.ZW.PrintLast Go.ZW.PrintMore
attribute [local go_sem] lD lF mD mE kR kS lE lG   -- for this text's walks alone
end Go.Proofs.YtlkoeeccebmjmaaGreatDoor.PCore
namespace Go.Proofs.YtlkoeeccebmjmaaGreatDoor.Path
open Go.RowKit Go.ZW.PrintWords Go.Proofs.YtlkoeeccebmjmaaGreatDoor.Base Go.Proofs.YtlkoeeccebmjmaaGreatDoor.PCore
theorem lV (s:ByteArray) (i:Nat) (hi:i < s.size) (n:Int) (c:UInt8) (hn:(c.toNat:Int)=n):(bt s (i:Int)=n)↔(L s)[i]? = some c:=by
 have h:i < (L s).length:=by rw[eD];exact hi
 rw[sN s i h,List.getElem?_eq_getElem h,← hn];constructor
 ·intro e;have e' : ((L s)[i]'h).toNat=c.toNat:=by omega
  rw[UInt8.toNat_inj.1 e']
 intro e;injection e with e
 rw[e]
def ints (l:List Nat):List Int:=l.map fun (n:Nat)=>(n:Int)
section
variable (s:ByteArray) (hs:s.size≤1000000)
include hs
theorem aJv (R:List Int) (e:Nat) (he:e < s.size):∀ (n a:Nat) (acc:List Int),e - a=n→a≤e→acc.length≤a→Ev (fun k=>dZ.l0 k s (acc++ints (jW (L s) a (e - a))) ((e+1:Nat):Int)) R→Ev (fun k=>dZ.l2 k s acc (e:Int) (a:Int)) R:=by
 intro n
 induction n with
 | zero =>
  intro a acc h1 h2 h3 h;have e1:e=a:=by omega
  subst e1;have e2:acc++ints (jW (L s) e (e - e))=acc:=by simp[jW,ints]
  rw[e2] at h;refine Ev.step (fun k=>?_) h;simp only[dZ.l2];rw[if_neg bA,w64 bA bA];rfl
 | succ n ih =>
  intro a acc h1 h2 h3 h;have hb:=lV s a bA 46 46 bF
  have hd:jW (L s) a (e - a)=(if (L s)[a]? = some 46 then [a] else [])++jW (L s) (a+1) (e - (a+1)):=by
   have e3:e - a=(e - (a+1))+1:=by omega
   unfold jW;rw[e3,List.range'_succ,List.filter_cons]
   by_cases c:(L s)[a]? = some 46
   ·simp[c]
   simp[c]
  by_cases c:(L s)[a]? = some 46
  ·have c':=hb.2 c
   have hh:=ih (a+1) (acc++[(a:Int)]) bA bA (by simp;omega) (by
    rw[hd,if_pos c] at h
    simpa [ints] using h)
   refine Ev.step (fun k=>?_) hh;simp only[dZ.l2];rw[if_pos bA,if_pos bA,if_pos bA,if_pos c',if_pos bA,w64 bA bA];rfl
  have c' : ¬ (bt s (a:Int)=46):=fun x=>c (hb.1 x)
  have hh:=ih (a+1) acc bA bA bA (by
   rw[hd,if_neg c] at h
   simpa [ints] using h)
  refine Ev.step (fun k=>?_) hh;simp only[dZ.l2];rw[if_pos bA,if_pos bA,if_pos bA,if_neg c',w64 bA bA];rfl
def aIc:Option Nat→Int
 | none=>-1
 | some e=>e
omit hs in
theorem pX (l:List UInt8):∀ (g k e:Nat),kW l g k=some e→k≤e∧e < l.length
 | 0,_,_,h=>by cases h
 | g+1,k,e,h=>by
  unfold kW at h;split at h
  ·cases h
  split at h
  ·rename_i h1 h2
   cases h;exact ⟨Nat.le_refl _,(List.getElem?_eq_some_iff.1 h2.1).1⟩
  have:=pX l g (k+1) e h;omega
theorem aJu (R:List Int) (i:Nat) (acc:List Int):∀ (n p:Nat),s.size - p=n→p≤s.size→Ev (fun k=>dZ.j3 k s acc (i:Int) (aIc (kW (L s) n p))) R→Ev (fun k=>dZ.l1 k s acc (i:Int) (-1) (p:Int)) R:=by
 have hl:=eD s;intro n
 induction n with
 | zero =>
  intro p h1 h2 h;refine Ev.step (fun k=>?_) h;simp only[dZ.l1];rw[if_neg bA];rfl
 | succ n ih =>
  intro p h1 h2 h;have hb1:=lV s p bA 47 47 bF;have hb2:=lV s p bA 95 95 bF;unfold kW at h
  by_cases c1:(L s)[p]? = some 47
  ·rw[if_pos c1] at h;refine Ev.step (fun k=>?_) h;simp only[dZ.l1];rw[if_pos bA,if_pos bA,if_pos (hb1.2 c1)];rfl
  rw[if_neg c1] at h;have c1' : ¬ (bt s (p:Int)=47):=fun x=>c1 (hb1.1 x)
  by_cases c2:(L s)[p]? = some 95
  ·have c2':=hb2.2 c2
   by_cases c3:s.size≤p+1
   ·rw[if_pos ⟨c2,.inl bA⟩] at h;refine Ev.step (fun k=>?_) h;simp only[dZ.l1];rw[if_pos bA,if_pos bA,if_neg c1',if_pos c2',w64 bA bA,if_pos bA];rfl
   have hb3:=lV s (p+1) bA 46 46 bF;have ep:((p+1:Nat):Int)=(p:Int)+1:=by omega
   by_cases c4:(L s)[p+1]? = some 46
   ·rw[if_pos ⟨c2,.inr c4⟩] at h;refine Ev.step (fun k=>?_) h;simp only[dZ.l1];rw[if_pos bA,if_pos bA,if_neg c1',if_pos c2',w64 bA bA,if_neg bA,if_pos bA,if_pos bA,if_pos (by rw[← ep];exact hb3.2 c4)];rfl
   rw[if_neg (by rintro ⟨_,x | x⟩ <;> first | omega | exact c4 x)] at h;refine Ev.step (fun k=>?_) (ih (p+1) bA bA h);simp only[dZ.l1];rw[if_pos bA,if_pos bA,if_neg c1',if_pos c2',w64 bA bA,if_neg bA,if_pos bA,if_pos bA,if_neg (by rw[← ep];exact fun x=>c4 (hb3.1 x))];rfl
  rw[if_neg (fun x=>c2 x.1)] at h;refine Ev.step (fun k=>?_) (ih (p+1) bA bA h);simp only[dZ.l1];rw[if_pos bA,if_pos bA,if_neg c1',if_neg (fun x=>c2 (hb2.1 x)),w64 bA bA];rfl
theorem aJt:∀ (g i:Nat) (acc:List Int),s.size - i≤g→acc.length≤i→i≤1000001→Ev (fun k=>dZ.l0 k s acc (i:Int)) (acc++ints (skF (L s) g i)):=by
 have hl:=eD s;intro g
 induction g with
 | zero =>
  intro i acc h1 h2 h3;have e:acc++ints (skF (L s) 0 i)=acc:=by simp[skF,ints]
  rw[e];refine Ev.step (f:=fun _=>some acc) (fun k=>?_) (Ev.now _);simp only[dZ.l0];rw[if_neg bA]
 | succ g ih =>
  intro i acc h1 h2 h3;unfold skF
  by_cases c0:s.size≤i
  ·rw[if_pos bA];have e:acc++ints []=acc:=by simp[ints]
   rw[e];refine Ev.step (f:=fun _=>some acc) (fun k=>?_) (Ev.now _);simp only[dZ.l0];rw[if_neg bA]
  rw[if_neg bA]
  -- to j1
  have hj:Ev (fun k=>dZ.j1 k s acc (i:Int) (opens (L s) i)) (acc++ints (if opens (L s) i=true then (match pW (L s) (i+2) with | some e=>jW (L s) (i+2) (e - (i+2))++skF (L s) g (e+1) | none=>skF (L s) g (i+1)) else skF (L s) g (i+1))):=by
   have next:Ev (fun k=>dZ.l0 k s acc ((i+1:Nat):Int)) (acc++ints (skF (L s) g (i+1))):=ih (i+1) acc bA bA bA
   cases ho:opens (L s) i with
   | false =>
    simp only[Bool.false_eq_true,if_false];refine Ev.step (fun k=>?_) next;simp only[dZ.j1,Bool.false_eq_true,if_false];rw[w64 bA bA];rfl
   | true =>
    have ho2:i+2 < s.size:=by
     unfold opens at ho;simp only[Bool.and_eq_true,decide_eq_true_eq] at ho;omega
    simp only[if_true];refine Ev.step (f:=fun k=>dZ.l1 k s acc (i:Int) (-1) ((i+2:Nat):Int)) (fun k=>?_) (aJu s hs _ i acc (s.size - (i+2)) (i+2) rfl bA ?_)
    ·simp only[dZ.j1,if_true];rw[w64 bA bA];rfl
    have hw:pW (L s) (i+2)=kW (L s) (s.size - (i+2)) (i+2):=by unfold pW;rw[hl]
    rw[hw]
    cases he:kW (L s) (s.size - (i+2)) (i+2) with
    | none =>
     refine Ev.step (fun k=>?_) next;simp only[dZ.j3,aIc,if_true];rw[w64 bA bA];rfl
    | some e =>
     obtain ⟨q1,q2⟩:=pX _ _ _ _ he
     have hh:=ih (e+1) (acc++ints (jW (L s) (i+2) (e - (i+2)))) bA (by
      have:(jW (L s) (i+2) (e - (i+2))).length≤e - (i+2):=by unfold jW;refine Nat.le_trans (List.length_filter_le _ _) ?_;simp
      simp[ints];omega) bA
     have e5:acc++ints (jW (L s) (i+2) (e - (i+2))++skF (L s) g (e+1))=(acc++ints (jW (L s) (i+2) (e - (i+2))))++ints (skF (L s) g (e+1)):=by simp[ints]
     rw[e5];refine Ev.step (f:=fun k=>dZ.l2 k s acc (e:Int) ((i+2:Nat):Int)) (fun k=>?_) (aJv s hs _ e bA (e - (i+2)) (i+2) acc rfl bA bA hh);simp only[dZ.j3];rw[if_neg (show ¬ aIc (some e) = -1 by show ¬ (e:Int) = -1;omega),w64 bA bA];rfl
  have hb1:=lV s i bA 46 46 bF;refine Ev.step (fun k=>?_) hj;simp only[dZ.l0];rw[if_pos bA,w64 (n:=(i:Int)+2) bA bA];unfold opens
  by_cases c1:i+2 < s.size
  ·have hb2:=lV s (i+1) bA 95 95 bF;have ep:((i+1:Nat):Int)=(i:Int)+1:=by omega
   rw[if_pos bA,if_pos bA]
   by_cases c2:(L s)[i]? = some 46
   ·rw[if_pos (hb1.2 c2),w64 (n:=(i:Int)+1) bA bA,if_pos bA,if_pos bA]
    have e6:(bt s ((i:Int)+1)==95)=((L s)[i+1]? == some 95):=by
     rw[← ep,Bool.eq_iff_iff,beq_iff_eq,beq_iff_eq];exact hb2
    rw[e6,c2,decide_eq_true bA]
    simp
   rw[if_neg (fun x=>c2 (hb1.1 x))];have:((L s)[i]? == some 46)=false:=by simpa using c2
   rw[this]
   simp
  rw[if_neg bA,decide_eq_false bA]
  simp
omit hs in
theorem last_slash (h:∃ j:Nat,(L s)[j]? = some 47):∃ j:Nat,Go.Lib.lastIndexByte s 47=(j:Int)∧behind (L s)=j+1∧(L s)[j]? = some 47∧∀ k,j < k→(L s)[k]?≠some 47:=by
 have hl:=eD s;have hd:s.data.size=s.size:=rfl;have es:(⟨(L s).toArray⟩:ByteArray)=s:=L_inj (jQ _)
 have at_:∀ k,k < s.size→(((s.data[k]!).toNat:Int)=47↔(L s)[k]? = some 47):=by
  intro k hk;have h1:k < s.data.size:=hk;rw[getElem!_pos s.data k h1];have e:(L s)[k]? = some s.data[k]:=by unfold L;simp
  rw[e];constructor
  ·intro e2;have:(s.data[k]).toNat=(47:UInt8).toNat:=by have:(47:UInt8).toNat=47:=rfl;omega
   rw[UInt8.toNat_inj.1 this]
  intro e2;injection e2 with e2
  rw[e2];rfl
 rcases Go.Lib.lastIdx_spec s 47 s.size with ⟨_,h2⟩ | ⟨i,h1,h2,h3,h4⟩
 ·obtain ⟨j,hj⟩:=h;have:j < s.size:=by rw[← hl];exact (List.getElem?_eq_some_iff.1 hj).1
  exact absurd ((at_ j this).2 hj) (h2 j this)
 refine ⟨i,h2,?_,(at_ i h1).1 h3,fun k hk e=>?_⟩
 ·unfold behind;rw[es];show (Go.Lib.lastIdx s 47 s.size+1).toNat=i+1;rw[h2];omega
 have:k < s.size:=by rw[← hl];exact (List.getElem?_eq_some_iff.1 e).1
 exact h4 k hk this ((at_ k this).2 e)
theorem aIp (h:∃ j:Nat,(L s)[j]? = some 47):Ev (fun k=>dZ.f k s) (ints (lB (L s))):=by
 have hl:=eD s;obtain ⟨j,h1,h2,h3,_⟩:=last_slash s h;have hj:j < s.size:=by rw[← hl];exact (List.getElem?_eq_some_iff.1 h3).1
 have e:=aJt s hs (L s).length j [] bA bJ bA;have e9:[]++ints (skF (L s) (L s).length j)=ints (lB (L s)):=by unfold lB;rw[h2];rfl
 rw[e9] at e;refine Ev.congr (fun k=>?_) e;show ((strings_LastIndex.f s ⟨#[47]⟩).bind fun t=>if t = -1 then some ([]:List Int) else dZ.l0 k s [] t)=_;unfold strings_LastIndex.f;rw[if_pos ⟨by rw[L_toList];rfl,aM⟩,h1];have hne:¬ ((j:Int) = -1):=by omega
 show (if (j:Int) = -1 then some ([]:List Int) else dZ.l0 k s [] (j:Int))=dZ.l0 k s [] (j:Int);rw[if_neg hne]
end
theorem aIq (i:Nat):∀ (n j:Nat) (l:List Nat),l.length - j=n→j≤l.length→l.length≤1000000→Ev (fun k=>eS.l0 k (i:Int) (ints l) (l.length:Int) (j:Int)) (kF (l.drop j) i):=by
 intro n
 induction n with
 | zero =>
  intro j l h1 h2 h3;have e:l.drop j=[]:=List.drop_of_length_le bA;rw[e];refine Ev.step (f:=fun _=>some false) (fun k=>?_) (Ev.now _);simp only[eS.l0];rw[if_neg bA]
 | succ n ih =>
  intro j l h1 h2 h3;have hj:j < l.length:=by omega
  have e:l.drop j=l[j]::l.drop (j+1):=List.drop_eq_getElem_cons hj
  have hr:rd (ints l) (j:Int)=(l[j]:Int):=by
   unfold rd
   simp[ints,hj]
  rw[e];have hz:(ints l).length=l.length:=by simp[ints]
  by_cases c1:l[j]=i
  ·have e2:kF (l[j]::l.drop (j+1)) i=true:=by unfold kF;rw[if_pos c1]
   rw[e2];refine Ev.step (f:=fun _=>some true) (fun k=>?_) (Ev.now _);simp only[eS.l0];rw[if_pos bA,if_pos bA,if_pos bA,hr,if_pos bA]
  by_cases c2:i < l[j]
  ·have e2:kF (l[j]::l.drop (j+1)) i=false:=by unfold kF;rw[if_neg c1,if_pos c2]
   rw[e2];refine Ev.step (f:=fun _=>some false) (fun k=>?_) (Ev.now _);simp only[eS.l0];rw[if_pos bA,if_pos bA,if_pos bA,hr,if_neg bA,if_pos bA]
  have e2:kF (l[j]::l.drop (j+1)) i=kF (l.drop (j+1)) i:=by rw[kF,if_neg c1,if_neg c2]
  rw[e2];refine Ev.step (fun k=>?_) (ih (j+1) l bA bA h3);simp only[eS.l0];rw[if_pos bA,if_pos bA,if_pos bA,hr,if_neg bA,if_neg bA,w64 bA bA];rfl
theorem aE3 (i:Nat) (l:List Nat) (h:l.length≤1000000):Ev (fun k=>eS.f k (ints l) (i:Int)) (kF l i):=by
 have e:=aIq i l.length 0 l bA bA h;refine Ev.congr (fun k=>?_) e;show eS.l0 k (i:Int) (ints l) ((ints l).length:Int) 0=_;rw[show (ints l).length=l.length by simp[ints]];rfl
theorem aHh (s t:ByteArray) (hs:s.size≤1000000) (ht:t.size≤1000000):∀ (g i:Nat),s.size+1 - i≤g→i≤s.size+1→∃ r:Int,Ev (fun k=>fB.l0 k s t (i:Int)) r∧decide (r≥0)=xM (L s) (L t) g i:=by
 have hl:=eD s;have hlt:=eD t;intro g
 induction g with
 | zero =>
  intro i h1 h2;refine ⟨-1,Ev.step (f:=fun _=>some (-1)) (fun k=>?_) (Ev.now _),by simp[xM]⟩;simp only[fB.l0];rw[if_neg (by rw[w64 bA bA];omega)]
 | succ g ih =>
  intro i h1 h2;unfold xM
  by_cases c:s.size < i+t.size
  ·rw[if_pos bA];refine ⟨-1,Ev.step (f:=fun _=>some (-1)) (fun k=>?_) (Ev.now _),dV⟩;simp only[fB.l0];rw[if_neg (by rw[w64 bA bA];omega)]
  rw[if_neg bA];have hx:(s.extract i (i+t.size)).toList=((L s).drop i).take (L t).length:=by rw[L_toList,eN,hlt];congr 1;omega
  by_cases h:((L s).drop i).take (L t).length=L t
  ·refine ⟨i,Ev.step (f:=fun _=>some (i:Int)) (fun k=>?_) (Ev.now _),by rw[h];simp⟩;simp only[fB.l0];rw[w64 (n:=(i:Int)+t.size) bA bA,if_pos bA,if_pos bA,if_pos bA,if_pos ?_];rw[Int.toNat_natCast,show ((i:Int)+(t.size:Int)).toNat=i+t.size by omega,hx,h,L_toList]
  obtain ⟨r,h3,h4⟩:=ih (i+1) bA bA;refine ⟨r,Ev.step (fun k=>?_) h3,?_⟩
  ·simp only[fB.l0];rw[w64 (n:=(i:Int)+t.size) bA bA,if_pos bA,if_pos bA,if_pos bA,if_neg ?_,w64 bA bA]
   ·rfl
   rw[Int.toNat_natCast,show ((i:Int)+(t.size:Int)).toNat=i+t.size by omega,hx,L_toList];exact h
  rw[h4];have:(((L s).drop i).take (L t).length==L t)=false:=by simpa using h
  rw[this,Bool.false_or]
theorem sH (s t:ByteArray) (hs:s.size≤1000000) (ht:t.size≤1000000):Ev (fun k=>gS.f k s t) (eY (L s) (L t)):=by
 obtain ⟨r,h1,h2⟩:=aHh s t hs ht (s.size+1) 0 bA bA;have e:eY (L s) (L t)=decide (r≥0):=by unfold eY;rw[eD,h2]
 rw[e];refine Ev.bind (g:=fun k=>fB.f k s t) (f:=fun _ r=>some (decide (r≥0))) h1 (Ev.now _)
open Go.RowKit Go.ZW.PrintWords Go.Proofs.YtlkoeeccebmjmaaGreatDoor.Base
theorem uL (l:List UInt8):iD l≤l.length:=by unfold iD;exact List.length_filter_le _ _
theorem zR (l:List UInt8) (k:Nat) (h:k < l.length):iD (l.take (k+1))=iD (l.take k)+if l[k]=46 then 1 else 0:=by
 unfold iD;rw[List.take_succ_eq_append_getElem h,List.filter_append,List.length_append]
 by_cases c:l[k]=46
 ·simp[c]
 simp[c]
theorem aDj (s:ByteArray) (hs:s.size≤1000000) (w:World) :
 Calls Tryz.prog 146 #[.string s,.string ⟨#[46]⟩] w fun e w'=>e = .returned (.int .i64 (iD (L s)))∧w'=w:=by
 have hl:=eD s
 obtain ⟨n,hn⟩:∃ n,s.size=n:=⟨_,rfl⟩
 have HN:=bW hn;rw[hn] at hs;go_enter Tryz.func146,Tryz.ntmps146;go_wp2_with fail
 go_loopg [5,6] n (fun g c i wr=>∃ k:Nat,k≤n∧g=n - k∧i = .int .i64 k∧c = .int .i64 (iD ((L s).take k))∧wr=w)
 case atStart=>exact ⟨0,Nat.zero_le _,rfl,rfl,rfl,rfl⟩
 case round =>
  obtain ⟨k,hk,hg,rfl,rfl,rfl⟩:=hrel;have hsz:ByteArray.size ⟨#[46]⟩=1:=rfl;have hc0:=uL ((L s).take k);have hc1:((L s).take k).length≤n:=by simp;omega
  have d0:IntKind.i64.wrap ((k:Int)+1)=((k+1:Nat):Int):=by rw[IntWalk.i64_in _ bA];omega
  by_cases hlt:k < n
  ·have hkl:k < (L s).length:=by omega
   have hst:=zR (L s) k hkl;have d1:decide (((k+1:Nat):Int)≤(n:Int))=true:=decide_eq_true bA;have d2:((k+1:Nat):Int)≤(n:Int):=by omega
   have d3:(k:Int)≤((k+1:Nat):Int):=by omega
   have d4:(0:Int)≤(k:Int):=by omega
   have e1:(k:Int)+1≤(n:Int):=by omega
   have e2:(k:Int)≤(k:Int)+1:=by omega
   have e3:((k:Int)+1).toNat=k+1:=by omega
   have e4:decide ((k:Int)+1≤(n:Int))=true:=decide_eq_true e1
   obtain ⟨m,hm⟩:∃ m,iD ((L s).take k)=m:=⟨_,rfl⟩
   rw[hm] at hst hc0 ⊢;have d5:IntKind.i64.wrap ((m:Int)+1)=((m+1:Nat):Int):=by rw[IntWalk.i64_in _ bA];omega
   have hx:((s.extract k (k+1)).toList==(⟨#[46]⟩:ByteArray).toList)=decide ((L s)[k]=46):=by
    rw[L_toList,eN,L_toList,List.drop_eq_getElem_cons hkl];have:k+1 - k=1:=by omega
    rw[this,Bool.eq_iff_iff,beq_iff_eq,decide_eq_true_iff]
    simp[L]
   obtain ⟨b,hb⟩:∃ b,decide ((L s)[k]=46)=b:=⟨_,rfl⟩
   rw[hb] at hx;have HB:=bW hb;have HST:=bW hst;clear hst hb;rw[show (⟨#[46]⟩:ByteArray).toList=[46] by rw[L_toList];rfl] at hx;cases b
   ·have hc:¬ (L s)[k]=46:=of_decide_eq_false HB.out;have hst2:=HST.out;rw[if_neg hc] at hst2;clear hc;go_wp2_with fail
    go_roundg (n - (k+1))
    case rel=>exact ⟨k+1,aM,rfl,aZ,by rw[hst2];rfl,rfl⟩
    case measure=>omega
   have hc:(L s)[k]=46:=of_decide_eq_true HB.out;have hst2:=HST.out;rw[if_pos hc] at hst2;clear hc;go_wp2_with fail
   go_roundg (n - (k+1))
   case rel=>exact ⟨k+1,aM,rfl,aZ,by rw[hst2];go_num,rfl⟩
   case measure=>omega
  have:k=n:=by omega
  subst this;have d1:decide (((k+1:Nat):Int)≤(k:Int))=false:=decide_eq_false bA;have d2:¬ (((k+1:Nat):Int)≤(k:Int)):=by omega
  have e4:decide ((k:Int)+1≤(k:Int))=false:=decide_eq_false bA;have e:(L s).take k=L s:=List.take_of_length_le bA;rw[e];go_wp2_with fail
  go_ret;exact ⟨rfl,rfl⟩
section
variable {E:Env} {comp:ByteArray} {sk:List Nat} {nd:Int} {i:Nat} {d:DoV}
theorem aB3 (h1:d.p.s.data.toList[i]?≠some 46) (h2:d.p.s.data.toList[i]?≠some 47):iL E comp sk nd i d=d:=by
 unfold iL;rw[if_neg h1,if_neg h2]
theorem wN (h1:d.p.s.data.toList[i]? = some 46) (h2:kF sk i=true):iL E comp sk nd i d=d:=by
 unfold iL;rw[if_pos h1,if_pos h2]
theorem tC (h1:d.p.s.data.toList[i]? = some 46) (h2:kF sk i=false):iL E comp sk nd i d = { d with p:=mId E d.p comp i d.ld nd false,ld:=i }:=by
 unfold iL;rw[if_pos h1,if_neg (by rw[h2];simp)]
theorem pH {q:eE} (h1:d.p.s.data.toList[i]? = some 47) (hc:d.p.cHigh = -1) (hq:q=if 0 < d.ld then mId E d.p comp i d.ld nd true else d.p) :
 iL E comp sk nd i d = { d with p:=if 0 < i then { q with cHigh:=((i:Int)+1),sec:=i } else { q with cHigh:=((i:Int)+1) },sc:=d.sc+1 }:=by
 unfold iL;rw[if_neg (by rw[h1];intro h;cases h),if_pos h1];simp only[hc,if_true,← hq]
theorem pG (h1:d.p.s.data.toList[i]? = some 47) (hc:d.p.cHigh≠-1) :
 iL E comp sk nd i d = { d with p:=if 0 < i then { (if d.p.cLow = -1 then { d.p with cLow:=((i:Int)+1) } else d.p) with sec:=i } else (if d.p.cLow = -1 then { d.p with cLow:=((i:Int)+1) } else d.p),sc:=d.sc+1 }:=by
 unfold iL;rw[if_neg (by rw[h1];intro h;cases h),if_pos h1];simp only[hc,if_false]
end
theorem aCp {p:eE} {a n:Int} (h:¬ p.cHigh≤p.nEnd) (ha:p.cHigh=a) (hn:(p.s.size:Int)=n):{ p with nLow:=a,nHigh:=n }=gD p:=by
 subst ha hn;unfold gD;rw[if_neg h]
theorem aDw {p:eE} {a:Int} (h:p.cHigh≤p.nEnd) (ha:p.cHigh=a):{ p with nLow:=a,nHigh:=p.nEnd }=gD p:=by
 subst ha;unfold gD;rw[if_pos h]
section
variable {E:Env} {p:eE} {sc:Nat} {comp:ByteArray}
theorem uZ (hk:p.known≠[]) (h:p.nLow < p.nHigh) (hi:((jS p.comp || kI p.comp) && E.cont (fE p 0))=true) (hb:(sub p.s p.nLow p.nHigh).toList=nR):{ p with typ:=3,sec:=if sc=2 then 0 else p.sec }=iA E sc p:=by
 unfold iA;rw[if_neg hk];simp only;rw[if_pos h,if_pos hi,if_pos hb]
theorem tX (hk:p.known≠[]) (h:p.nLow < p.nHigh) (hi:((jS p.comp || kI p.comp) && E.cont (fE p 0))=true) (hb:(sub p.s p.nLow p.nHigh).toList=mU):{ p with typ:=4 }=iA E sc p:=by
 unfold iA;rw[if_neg hk];simp only;rw[if_pos h,if_pos hi,if_neg (by rw[hb];decide),if_pos hb]
theorem tW (hk:p.known≠[]) (h:p.nLow < p.nHigh) (hi:((jS p.comp || kI p.comp) && E.cont (fE p 0))=true) (hb:(sub p.s p.nLow p.nHigh).toList≠nR) (hb2:(sub p.s p.nLow p.nHigh).toList≠mU):{ p with typ:=2 }=iA E sc p:=by
 unfold iA;rw[if_neg hk];simp only;rw[if_pos h,if_pos hi,if_neg hb,if_neg hb2]
theorem aD2 (hk:p.known≠[]) (h:p.nLow < p.nHigh) (hi:((jS p.comp || kI p.comp) && E.cont (fE p 0))=false) (hb:(sub p.s p.nLow p.nHigh).toList=lH) (he:(fE p 0).toList=mT):{ p with typ:=5 }=iA E sc p:=by
 unfold iA;rw[if_neg hk];simp only;rw[if_pos h,if_neg (by rw[hi];simp),if_pos ⟨hb,he⟩]
theorem wR (hk:p.known≠[]) (h:p.nLow < p.nHigh) (hi:((jS p.comp || kI p.comp) && E.cont (fE p 0))=false) (hb:¬ ((sub p.s p.nLow p.nHigh).toList=lH∧(fE p 0).toList=mT)):p=iA E sc p:=by
 unfold iA;rw[if_neg hk];simp only;rw[if_pos h,if_neg (by rw[hi];simp),if_neg hb]
theorem wS (E:Env) (sc:Nat) (p:eE):∃ t c,iA E sc p = { p with typ:=t,sec:=c }:=by
 unfold iA;simp only
 repeat' split
 all_goals exact ⟨_,_,rfl⟩
theorem wT (comp:ByteArray) (p:eE):∃ t,kQ comp p = { p with typ:=t }:=by
 unfold kQ
 repeat' split
 all_goals exact ⟨_,rfl⟩
theorem aGo (h:(decide (p.typ < 6) && eO comp)=false):p=kQ comp p:=by
 unfold kQ;rw[if_neg];rintro ⟨h1,h2⟩;rw[h2,decide_eq_true h1] at h;cases h
theorem aD3 (h:(decide (p.typ < 6) && eO comp)=true) (hb:(p.base != -1)=true):{ p with typ:=9 }=kQ comp p:=by
 unfold kQ;simp only[Bool.and_eq_true,decide_eq_true_eq] at h;rw[if_pos h,if_pos (by simpa using hb)]
theorem qC (h:(decide (p.typ < 6) && eO comp)=true) (hb:(p.base != -1)=false) {T:ByteArray} (ht:nrm p.trim p.s=T) :
 kQ comp p=if eY (L T) fS then { p with typ:=7 } else if eY (L T) jV then { p with typ:=6 } else if jC.isPrefixOf (L T) then { p with typ:=8 } else p:=by
 unfold kQ;simp only[Bool.and_eq_true,decide_eq_true_eq] at h;rw[if_pos h,if_neg (by simpa using hb),ht];rfl
theorem aGp (h:((p.typ==7) && (p.lay != -1))=false):p=lP p:=by
 unfold lP;rw[if_neg];rintro ⟨h1,h2,_⟩;rw[h1] at h
 simp at h
 exact h2 h
theorem aAq (h:((p.typ==7) && (p.lay != -1))=true) {j:Nat} {x:Int×Int} (hj:p.lay=(j:Int)) (hx:p.known[j]? = some x):lP p=if x.1=p.cHigh then { p with lay:=-1 } else p:=by
 unfold lP;simp only[Bool.and_eq_true,beq_iff_eq,bne_iff_ne] at h;have e:p.known.getD p.lay.toNat (0,0)=x:=by rw[hj,Int.toNat_natCast,List.getD_eq_getElem?_getD,hx];rfl
 rw[e]
 by_cases c:x.1=p.cHigh
 ·rw[if_pos c,if_pos ⟨h.1,h.2,c⟩]
 rw[if_neg c,if_neg (fun g=>c g.2.2)]
end
def Apart (b:Nat) (vk vu vl:Value) (k:Nat):Prop:=k≠b∧some k≠vk.ownBlock∧some k≠vu.ownBlock∧some k≠vl.ownBlock
section
variable {w w' : World} {base b:Nat} {vk vu vl vk' vu' vl' v u:Value} {xs:List Int} {p:eE} {B:Nat}
theorem jU (h:(Kd.int .i64).R 3 w base (Apart b vk vu vl) v xs) (m:eW w w' b vk vu vl vk' vu' vl'):(Kd.int .i64).R 3 w' base (Apart b vk' vu' vl') v xs:=by
 have h1:=Kd.R_bound h;refine Kd.R_mono (Kd.R_move h1 (fun k hk=>m.block k hk.2.2.1 hk.1.1 hk.1.2.1 hk.1.2.2.1 hk.1.2.2.2)) (fun k hk=>?_);obtain ⟨_,_,f1,f2,f3⟩:=m.far hk.2.2.1 hk.1.1 hk.1.2.1 hk.1.2.2.1 hk.1.2.2.2;exact ⟨hk.1.1,f1,f2,f3⟩
theorem aH2 (H:eF w B b p vk vu vl u) (h:(Kd.int .i64).R 3 w' w.heap.size (fun _=>True) v xs):(Kd.int .i64).R 3 w' w.heap.size (Apart b vk vu vl) v xs :=
 Kd.R_mono (Kd.R_bound h) (fun _ hk=>H.new_ne hk.2.1)
theorem zA (h:(Kd.int .i64).R 3 w base (Apart b vk vu vl) v xs) (hb:Below w.heap.size w w'):(Kd.int .i64).R 3 w' base (Apart b vk vu vl) v xs:=Kd.R_below h hb
end
theorem aB4 (l:List UInt8) (a n:Nat):(jW l a n).length≤n:=by unfold jW;refine Nat.le_trans (List.length_filter_le _ _) ?_;simp
theorem tN (l:List UInt8):∀ (g i:Nat),(skF l g i).length≤l.length - i
 | 0,i=>by simp[skF]
 | g+1,i=>by
  have h1:=tN l g (i+1);unfold skF;split
  ·simp
  split
  ·split
   ·rename_i e he
    obtain ⟨q1,q2⟩:=pX _ _ _ _ he;have h2:=tN l g (e+1);have h3:=aB4 l (i+2) (e - (i+2));rw[List.length_append];omega
   omega
  omega
theorem mem_mText (l:List UInt8) (c:UInt8) (h:c∈gY l):c=47∨c∈l:=by
 have h1:∀ c,c∈kG l→c=47∨c∈l:=by
  intro c h;unfold kG at h;split at h
  ·exact .inl (by simpa using h)
  split at h
  ·exact .inr h
  rcases List.mem_cons.1 h with h | h
  ·exact .inl h
  exact .inr h
 unfold gY at h;simp only at h;split at h
 ·exact h1 c (List.dropLast_subset _ h)
 exact h1 c h
theorem aF5 (s:ByteArray) (h:asc s):asc ⟨(gY (L s)).toArray⟩:=by
 intro j c hc
 have hm:c∈gY (L s):=by
  have:(⟨(gY (L s)).toArray⟩:ByteArray).data.toList=gY (L s):=by simp
  rw[this] at hc;exact List.mem_of_getElem? hc
 rcases mem_mText _ _ hm with h1 | h1
 ·rw[h1];decide
 obtain ⟨k,hk⟩:=List.mem_iff_getElem?.1 h1;exact h k c hk
def fM:eE where
 s:=⟨#[]⟩
 cLow:=-1
 cHigh:=-1
 sec:=-1
 comp:=⟨#[]⟩
 typ:=0
 known:=[]
 unknown:=[]
 lang:=-1
 fmt:=-1
 kind:=-1
 lay:=-1
 base:=-1
 cust:=-1
 plangs:=[]
 pfmt:=-1
 pkind:=-1
 play:=-1
 nLow:=0
 nHigh:=0
 nEnd:=-1
 dis:=false
 trim:=false
theorem Row.eq {w:World} {b:Nat} {cs cs' : List Value} (R:Row w b cs) (h:cs=cs'):Row w b cs':=h▸R
section
variable {w:World} {b:Nat} {p:eE} {vu u:Value}
theorem sK {A A2:Option Addr} {n c n2 c2:Nat} (R:Row w b (cells p (.slice A n c) vu (.slice A2 n2 c2) u)) :
 Calls Tryz.prog 131 #[.pointer (some ⟨b,0,none⟩)] w fun e w'=>e = .returned (.tuple #[])∧Row w' b (cells fM (.slice A 0 c) vu (.slice A2 0 c2) (.pointer none))∧Below b w w':=by
 have r0:=R.at 0 _ rfl;have f0:=R.free 0 bG;have r1:=R.at 1 _ rfl;have f1:=R.free 1 bG;have r2:=R.at 2 _ rfl;have f2:=R.free 2 bG;have r3:=R.at 3 _ rfl;have f3:=R.free 3 bG;have r4:=R.at 4 _ rfl;have f4:=R.free 4 bG;have r5:=R.at 5 _ rfl;have f5:=R.free 5 bG;have r6:=R.at 6 _ rfl;have f6:=R.free 6 bG;have r8:=R.at 8 _ rfl;have f8:=R.free 8 bG;have r9:=R.at 9 _ rfl;have f9:=R.free 9 bG;have r10:=R.at 10 _ rfl;have f10:=R.free 10 bG;have r11:=R.at 11 _ rfl;have f11:=R.free 11 bG;have r12:=R.at 12 _ rfl;have f12:=R.free 12 bG;have r13:=R.at 13 _ rfl;have f13:=R.free 13 bG;have r14:=R.at 14 _ rfl;have f14:=R.free 14 bG
 have r15:=R.at 15 _ rfl;have f15:=R.free 15 bG;have r16:=R.at 16 _ rfl;have f16:=R.free 16 bG;have r17:=R.at 17 _ rfl;have f17:=R.free 17 bG;have r18:=R.at 18 _ rfl;have f18:=R.free 18 bG;have r19:=R.at 19 _ rfl;have f19:=R.free 19 bG;have r20:=R.at 20 _ rfl;have f20:=R.free 20 bG;have r21:=R.at 21 _ rfl;have f21:=R.free 21 bG;have r22:=R.at 22 _ rfl;have f22:=R.free 22 bG;have r23:=R.at 23 _ rfl;have f23:=R.free 23 bG;have r24:=R.at 24 _ rfl;have f24:=R.free 24 bG;have r25:=R.at 25 _ rfl;have f25:=R.free 25 bG;have HR:=bW R;clear R;go_enter Tryz.func131,Tryz.ntmps131;go_wp2_with fail
 refine ⟨rfl,.tuple #[],by simp[results,Tryz.results131],rfl,Row.eq (((((((((((((((((((((((((HR.out.set 0 (.string ⟨#[]⟩) bG).set 1 (.int .i64 (-1)) bG).set 2 (.int .i64 (-1)) bG).set 3 (.int .i64 (-1)) bG).set 4 (.string ⟨#[]⟩) bG).set 5 (.int .i64 0) bG).set 6 (.slice A 0 c) bG).set 8 (.int .i64 (-1)) bG).set 9 (.int .i64 (-1)) bG).set 10 (.int .i64 (-1)) bG).set 11 (.int .i64 (-1)) bG).set 12 (.int .i64 (-1)) bG).set 13 (.int .i64 (-1)) bG).set 14 (.slice A2 0 c2) bG).set 15 (.slice none 0 0) bG).set 16 (.slice none 0 0) bG).set 17 (.int .i64 (-1)) bG).set 18 (.int .i64 (-1)) bG).set 19 (.int .i64 (-1)) bG).set 20 (.int .i64 0) bG).set 21 (.int .i64 0) bG).set 22 (.int .i64 (-1)) bG).set 23 (.bool false) bG).set 24 (.bool false) bG).set 25 (.pointer none) bG) bB,?_⟩
 exact ((((((((((((((((((((((((((Below.refl b w).setCell (p:=⟨b,0,none⟩) (Nat.le_refl _) _).setCell (p:=⟨b,1,none⟩) (Nat.le_refl _) _).setCell (p:=⟨b,2,none⟩) (Nat.le_refl _) _).setCell (p:=⟨b,3,none⟩) (Nat.le_refl _) _).setCell (p:=⟨b,4,none⟩) (Nat.le_refl _) _).setCell (p:=⟨b,5,none⟩) (Nat.le_refl _) _).setCell (p:=⟨b,6,none⟩) (Nat.le_refl _) _).setCell (p:=⟨b,8,none⟩) (Nat.le_refl _) _).setCell (p:=⟨b,9,none⟩) (Nat.le_refl _) _).setCell (p:=⟨b,10,none⟩) (Nat.le_refl _) _).setCell (p:=⟨b,11,none⟩) (Nat.le_refl _) _).setCell (p:=⟨b,12,none⟩) (Nat.le_refl _) _).setCell (p:=⟨b,13,none⟩) (Nat.le_refl _) _).setCell (p:=⟨b,14,none⟩) (Nat.le_refl _) _).setCell (p:=⟨b,15,none⟩) (Nat.le_refl _) _).setCell (p:=⟨b,16,none⟩) (Nat.le_refl _) _).setCell (p:=⟨b,17,none⟩) (Nat.le_refl _) _).setCell (p:=⟨b,18,none⟩) (Nat.le_refl _) _).setCell (p:=⟨b,19,none⟩) (Nat.le_refl _) _).setCell (p:=⟨b,20,none⟩) (Nat.le_refl _) _).setCell (p:=⟨b,21,none⟩) (Nat.le_refl _) _).setCell (p:=⟨b,22,none⟩) (Nat.le_refl _) _).setCell (p:=⟨b,23,none⟩) (Nat.le_refl _) _).setCell (p:=⟨b,24,none⟩) (Nat.le_refl _) _).setCell (p:=⟨b,25,none⟩) (Nat.le_refl _) _)
theorem eF.fresh {w:World} {b:Nat} {p:eE} (R:Row w b (cells p (.slice none 0 0) (.slice none 0 0) (.slice none 0 0) u)) (h1:p.known=[]) (h2:p.unknown=[]) (h3:p.plangs=[]):eF w b b p (.slice none 0 0) (.slice none 0 0) (.slice none 0 0) u:=by
 refine ⟨Nat.le_refl _,R,?_,?_,?_,(fun h=>by cases h),(fun h=>by cases h),(fun h=>by cases h),.inl rfl⟩
 ·rw[h1];exact ⟨rfl,.inl ⟨rfl,rfl⟩⟩
 ·rw[h2];exact ⟨rfl,.inl ⟨rfl,rfl⟩⟩
 rw[h3];exact ⟨rfl,.inl ⟨rfl,rfl⟩⟩
def zeroCells:List Value:=cells { fM with cLow:=0,cHigh:=0,sec:=0,lang:=0,fmt:=0,kind:=0,lay:=0,base:=0,cust:=0,pfmt:=0,pkind:=0,play:=0,nEnd:=0 } (.slice none 0 0) (.slice none 0 0) (.slice none 0 0) (.pointer none)
theorem tY (w:World) (v:Value) (comp:ByteArray):Calls Tryz.prog 126 #[v,.string comp] w fun e w'=>e = .returned (.pointer (some ⟨w.heap.size,0,none⟩))∧eF w' w.heap.size w.heap.size { fM with comp:=comp } (.slice none 0 0) (.slice none 0 0) (.slice none 0 0) (.pointer none)∧Below w.heap.size w w':=by
 have hR:=Row.new w zeroCells 80;have hB:Below w.heap.size w (w.alloc (.cells zeroCells.toArray 80)):=(Below.refl _ _).alloc (Nat.le_refl _) _;have hs:w.heap.size < (w.alloc (.cells zeroCells.toArray 80)).heap.size:=by simp
 simp only[zeroCells,cells,fM] at hR hB hs;go_enter Tryz.func126,Tryz.ntmps126;go_wp2_with fail
 refine (sK (p:={ fM with cLow:=0,cHigh:=0,sec:=0,lang:=0,fmt:=0,kind:=0,lay:=0,base:=0,cust:=0,pfmt:=0,pkind:=0,play:=0,nEnd:=0 }) (A:=none) (A2:=none) (n:=0) (c:=0) (n2:=0) (c2:=0) hR).mono ?_;rintro e w' ⟨rfl,hr,hb⟩;have HB:=bW (hB.trans hb);have h4:=hr.at 4 _ rfl;have f4:=hr.free 4 bG;have HR:=bW hr;clear hR hB hs hr hb;go_wp2_with fail
 go_ret;refine ⟨rfl,eF.fresh (Row.eq (HR.out.set 4 (.string comp) bG) bB) rfl rfl rfl,HB.out.setCell (Nat.le_refl _) _⟩
end
def gI (E:Env) (comp s:ByteArray):eE:=mDo E comp s { fM with comp:=comp }
theorem aIw (E:Env) (comp s:ByteArray):(gI E comp s).s=⟨(gY s.data.toList).toArray⟩∧(gI E comp s).trim=false∧(gI E comp s).comp=comp:=by
 obtain ⟨T,hT⟩:∃ T:ByteArray,⟨(gY s.data.toList).toArray⟩=T:=⟨_,rfl⟩
 have hl:L T=gY (L s):=by rw[← hT];exact jQ _
 have h0:T.data.toList[0]? = some 47:=by show (L T)[0]? = _;rw[hl,← List.head?_eq_getElem?];exact mText_head _
 have hI:In1 T comp T.size ⟨iP { fM with comp:=comp } T,0,0⟩:=In1.start rfl rfl rfl rfl rfl rfl rfl rfl rfl rfl rfl rfl rfl;have h2:=(InD.loop (E:=E) (sk:=lB T.data.toList) (nd:=qA T.data.toList) h0 T.size _ (Nat.le_refl _) (.inl hI)).last h0;unfold gI mDo;rw[hT];unfold sI;obtain ⟨t1,c1,e1⟩:=wS E (qK E comp (iP { fM with comp:=comp } T)).sc (gD (qK E comp (iP { fM with comp:=comp } T)).p);obtain ⟨t2,e2⟩:=wT comp (iA E (qK E comp (iP { fM with comp:=comp } T)).sc (gD (qK E comp (iP { fM with comp:=comp } T)).p))
 have e3:∀ q:eE,(lP q).s=q.s∧(lP q).trim=q.trim∧(lP q).comp=q.comp:=by
  intro q;unfold lP;split <;> exact ⟨rfl,rfl,rfl⟩
 obtain ⟨a1,a2,a3⟩:=e3 (kQ comp (iA E (qK E comp (iP { fM with comp:=comp } T)).sc (gD (qK E comp (iP { fM with comp:=comp } T)).p)));rw[a1,a2,a3,e2,e1];exact ⟨h2.hs,h2.ht,h2.hc⟩
theorem aCq (E:Env) (comp s:ByteArray):((nrm (gI E comp s).trim (gI E comp s).s).toList==[])=false:=by
 obtain ⟨h1,h2,_⟩:=aIw E comp s;rw[h1,h2];have hh:=mText_head s.data.toList
 cases hm:gY s.data.toList with
 | nil=>rw[hm] at hh;cases hh
 | cons a r =>
  have:(nrm false ⟨(a::r).toArray⟩).toList=a::r:=by
   show (⟨(a::r).toArray⟩:ByteArray).toList=_;rw[L_toList];exact jQ _
  rw[this];rfl
theorem rK (E:Env) (comp s:ByteArray) (hs:s.size≤900000):hU (gI E comp s)∧-1≤(gI E comp s).fmt∧-1≤(gI E comp s).lang:=by
 obtain ⟨T,hT⟩:∃ T:ByteArray,⟨(gY s.data.toList).toArray⟩=T:=⟨_,rfl⟩
 have hl:L T=gY (L s):=by rw[← hT];exact jQ _
 have h0:T.data.toList[0]? = some 47:=by show (L T)[0]? = _;rw[hl,← List.head?_eq_getElem?];exact mText_head _
 have hz:T.size≤1000000:=by have:=mText_length (L s);rw[← eD,hl];have:=eD s;omega
 have hI:In1 T comp T.size ⟨iP { fM with comp:=comp } T,0,0⟩:=In1.start rfl rfl rfl rfl rfl rfl rfl rfl rfl rfl rfl rfl rfl;have h2:=(InD.loop (E:=E) (sk:=lB T.data.toList) (nd:=qA T.data.toList) h0 T.size _ (Nat.le_refl _) (.inl hI)).last h0;have h3:=h2.fin (E:=E) hz;unfold gI mDo;rw[hT];exact h3
end Go.Proofs.YtlkoeeccebmjmaaGreatDoor.Path
namespace Go.Proofs.YtlkoeeccebmjmaaGreatDoor.Index
open Go.RowKit Go.ZW.PrintWords Go.Proofs.YtlkoeeccebmjmaaGreatDoor.Base Go.Proofs.YtlkoeeccebmjmaaGreatDoor.PCore
def idx (t:List UInt8):List UInt8→Option Nat
 | []=>if t.isEmpty then some 0 else none
 | c::r=>if t.isPrefixOf (c::r) then some 0 else (idx t r).map (· + 1)
def zW:Option Nat→Int
 | none=>-1
 | some n=>n
theorem uR (t:List UInt8):∀ l:List UInt8,l.length < t.length→idx t l=none
 | [],h=>by cases t with | nil=>simp at h | cons=>rfl
 | c::r,h=>by
  have h1:t.isPrefixOf (c::r)=false:=by
   rw[Bool.eq_false_iff];intro hp;have:=(List.isPrefixOf_iff_prefix.1 hp).length_le;omega
  simp only[idx,h1];rw[uR t r (by simp at h;omega)];rfl
theorem xA (t l:List UInt8):t.isPrefixOf l=decide (l.take t.length=t):=by
 rw[Bool.eq_iff_iff,List.isPrefixOf_iff_prefix,decide_eq_true_iff];constructor
 ·rintro ⟨u,rfl⟩;simp
 intro h;rw[← h];exact List.take_prefix _ _
theorem aE5 (s:ByteArray) (i n:Nat):(s.extract i (i+n)).toList=((L s).drop i).take n:=by
 rw[L_toList,eN];congr 1;omega
theorem aA8 (s t:ByteArray) (hs:s.size≤140737488355328) (ht:t.size≤140737488355328) (ht0:0 < t.size) (d:Nat):∀ i:Nat,s.size - i=d→i≤s.size →
 Ev (fun k=>fB.l0 k s t i) (zW ((idx (L t) ((L s).drop i)).map (· + i))):=by
 have hl:=eD s;have hlt:=eD t
 induction d with
 | zero =>
  intro i h1 h2;rw[uR (L t) _ (by simp;omega)];refine Ev.step (f:=fun _=>some (-1)) (fun k=>?_) (Ev.now _);simp only[fB.l0];rw[if_neg (by rw[w64 bA bA];omega)]
 | succ d ih =>
  intro i h1 h2
  by_cases hfit:i+t.size≤s.size
  ·have hi:i < (L s).length:=by omega
   have e:(L s).drop i=(L s)[i]::(L s).drop (i+1):=List.drop_eq_getElem_cons hi;have hx:(s.extract i (i+t.size)).toList=((L s).drop i).take (L t).length:=by rw[aE5,hlt]
   by_cases h:((L s).drop i).take (L t).length=L t
   ·have e2:idx (L t) ((L s).drop i)=some 0:=by
     have:(L t).isPrefixOf ((L s)[i]::(L s).drop (i+1))=true:=by rw[xA,← e];simpa using h
     rw[e];simp only[idx,this,if_true]
    rw[e2];refine Ev.step (f:=fun _=>some (i:Int)) (fun k=>?_) (by simpa [zW] using Ev.now (i:Int));simp only[fB.l0];rw[w64 (n:=(i:Int)+t.size) bA bA,if_pos bA,if_pos bA,if_pos bA];rw[show ((i:Int)+(t.size:Int)).toNat=i+t.size from by omega,show ((i:Nat):Int).toNat=i from by omega,hx,if_pos (by rw[h,L_toList])]
   have e2:idx (L t) ((L s).drop i)=(idx (L t) ((L s).drop (i+1))).map (· + 1):=by
    have:(L t).isPrefixOf ((L s)[i]::(L s).drop (i+1))=false:=by rw[xA,← e];simpa using h
    rw[e];simp only[idx,this];rfl
   have e3:(idx (L t) ((L s).drop i)).map (· + i)=(idx (L t) ((L s).drop (i+1))).map (· + (i+1)):=by
    rw[e2,Option.map_map];congr 1;funext x;simp only[Function.comp];omega
   rw[e3];refine Ev.step (f:=fun k=>fB.l0 k s t ((i+1:Nat):Int)) (fun k=>?_) (ih (i+1) bA bA);simp only[fB.l0];rw[w64 (n:=(i:Int)+t.size) bA bA,if_pos bA,if_pos bA,if_pos bA];rw[show ((i:Int)+(t.size:Int)).toNat=i+t.size from by omega,show ((i:Nat):Int).toNat=i from by omega,hx,if_neg (by rw[L_toList];exact h),w64 bA bA];rfl
  rw[uR (L t) _ (by simp;omega)];refine Ev.step (f:=fun _=>some (-1)) (fun k=>?_) (Ev.now _);simp only[fB.l0];rw[if_neg (by rw[w64 bA bA];omega)]
theorem aE4 (s t:ByteArray) (hs:s.size≤140737488355328) (ht:t.size≤140737488355328) (ht0:0 < t.size):Ev (fun k=>fB.f k s t) (zW (idx (L t) (L s))):=by
 have h:=aA8 s t hs ht ht0 s.size 0 bA bA;simp only[List.drop_zero,Nat.add_zero] at h;have e:(idx (L t) (L s)).map (fun x=>x)=idx (L t) (L s):=by cases idx (L t) (L s) <;> rfl
 rw[e] at h;exact h
theorem zH (s t:ByteArray) (r:Int) (w:World) (hs:s.size≤140737488355328) (ht:t.size≤140737488355328) (ht0:0 < t.size) (hr:zW (idx (L t) (L s))=r) :
 Calls Tryz.prog 159 #[.string s,.string t] w fun e w'=>e = .returned (.int .i64 r)∧eV w w':=by
 obtain ⟨k,hk⟩:=(aE4 s t hs ht ht0).rounds;exact fB.calls k s t r w (by rw[hk,hr])
theorem idx_one (c:UInt8):∀ l:List UInt8,(idx [c] l=none∧∀ x∈l,x≠c)∨∃ n,idx [c] l=some n∧n < l.length∧l=l.take n++c::l.drop (n+1)∧∀ x∈l.take n,x≠c
 | []=>.inl ⟨rfl,dV⟩
 | a::r=>by
  by_cases h:a=c
  ·subst h;exact .inr ⟨0,by simp[idx,List.isPrefixOf],dV,dV,dV⟩
  have hp:List.isPrefixOf [c] (a::r)=false:=by simp[List.isPrefixOf];exact fun e=>h e.symm
  rcases idx_one c r with ⟨h1,h2⟩ | ⟨n,h1,h2,h3,h4⟩
  ·left;refine ⟨by simp[idx,hp,h1],?_⟩;intro x hx;rcases List.mem_cons.1 hx with rfl | hx
   ·exact h
   exact h2 x hx
  right;refine ⟨n+1,by simp[idx,hp,h1],by simp;omega,?_,?_⟩
  ·simp only[List.take_succ_cons,List.drop_succ_cons,List.cons_append];congr 1
  intro x hx;simp only[List.take_succ_cons,List.mem_cons] at hx;rcases hx with rfl | hx
  ·exact h
  exact h4 x hx
end Go.Proofs.YtlkoeeccebmjmaaGreatDoor.Index
namespace Go.Proofs.YtlkoeeccebmjmaaGreatDoor.Norm
open Go.RowKit Go.ZW.PrintWords Go.Proofs.YtlkoeeccebmjmaaGreatDoor.Base Go.Proofs.YtlkoeeccebmjmaaGreatDoor.Lower Go.Proofs.YtlkoeeccebmjmaaGreatDoor.Index
theorem oF (a b:ByteArray):bytesOf (a++b)=bytesOf a++bytesOf b:=by simp[bytesOf]
theorem aEc (a:ByteArray):strOfNums (bytesOf a)=a:=by
 apply L_inj;have e:L (strOfNums (bytesOf a))=(bytesOf a).map fun n=>UInt8.ofNat n.toNat:=strOfNums_data _;rw[e,bytesOf,List.map_map]
 conv=>rhs;rw[← List.map_id (L a)]
 refine List.map_congr_left fun b _=>?_
 simp
theorem aCf (l:List UInt8) (h:∀ x∈l,x≠32):l.map lN=l:=by
 conv=>rhs;rw[← List.map_id l]
 refine List.map_congr_left fun b hb=>?_;unfold lN;rw[if_neg (h b hb)];rfl
theorem info5:(Tryz.prog.info? 5).map (fun i=>(i.zero,i.size,i.bytes))=some (some (.int .u8 0),1,1):=by kernel_rfl
def strLen:Value→Nat
 | .string r=>r.size
 | _=>0
theorem aBh (s:ByteArray) (w:World) (hs:s.size≤140737488351232) :
 Calls Tryz.prog 142 #[.string s,.string ⟨#[32]⟩,.string ⟨#[45]⟩] w fun e w'=>e = .returned (.string (hyp s))∧Below w.heap.size w w':=by
 have hinf:=info5;have HINF:=bW hinf;clear hinf;go_enter Tryz.func142,Tryz.ntmps142;go_wp2_with fail
 go_loopw [0,7] (fun sv ov wr=>∃ (rest done:ByteArray),sv = .string rest∧Aside0 (wr.ownsRow w.heap.size 5 1 ov (bytesOf done).length (nums .u8 (bytesOf done)))∧Aside0 (L done++(L rest).map lN=(L s).map lN)∧done.size+rest.size≤140737488351232∧Aside0 (Below w.heap.size w wr))
  (fun sv _ _=>strLen sv)
 case atStart=>exact ⟨s,ByteArray.empty,rfl,⟨rB _ _ _ _⟩,⟨by simp[L]⟩,by simp;exact hs,⟨Below.refl _ _⟩⟩
 case round =>
  obtain ⟨rest,done,rfl,HO,HT,hsz,HB⟩:=hrel;have hl:=eD rest;have hld:(bytesOf done).length=done.size:=bytesOf_length done;have hb:=HB.out.size;rcases idx_one 32 (L rest) with ⟨h1,h2⟩ | ⟨n,h1,h2,h3,h4⟩
  ·have e:hyp s=done++rest:=by
    apply L_inj;rw[aEs,← HT.out,lY,aCf _ h2]
   have HE:=bW e;have hz:=fun w=>zH rest ⟨#[32]⟩ (-1) w bA bF bF (by show zW (idx [32] (L rest)) = -1;rw[h1];rfl);have HLD:=bW hld;clear e h1 h2 hld hl;go_wp2_with fail
   (with_reducible refine (hz _).mono ?_)
   rintro e w' ⟨rfl,⟨nd,rfl⟩⟩
   go_wp2_with (at_builtin;refine oX (w0:=w) w.heap.size rfl _ _ 108 9 5 rfl Tryz.underlying108 Tryz.underlying9 HINF.out _ (bytesOf done) rest rfl rfl (vE HO.out _) ?hb ?hs ?hz ?_)
   case hb=>exact pF HB.out hb (eV.below ⟨⟨_,rfl⟩⟩)
   case hs=>simpa using hb
   case hz=>rw[HLD.out];omega
   intro v1 w1 ho1 hb1 hg1;have hstr:=aFm (P:=Tryz.prog) (src:=108) (dst:=9) Tryz.underlying108 Tryz.underlying5 Tryz.underlying9 ho1;have HO1:=bW ho1;have HB1:=bW hb1;clear ho1 hb1 hg1;obtain ⟨A1,c1,rfl⟩:=fL HO1.out;go_wp2_with fail
   go_ret;exact ⟨by rw[HE.out,← aEc (done++rest),oF];rfl,HB1.out⟩
  have hn:n < rest.size:=by omega
  have hz:=fun w=>zH rest ⟨#[32]⟩ n w bA bF bF (by show zW (idx [32] (L rest))=n;rw[h1];rfl);have es1:(rest.extract 0 n).size=n:=by rw[← eD,eN];simp;omega
  have es2:(rest.extract (n+1) rest.size).size=rest.size - (n+1):=by rw[← eD,eN];simp;omega
  have eL:L ((done++rest.extract 0 n)++(⟨#[45]⟩:ByteArray))++(L (rest.extract (n+1) rest.size)).map lN=(L s).map lN:=by
   rw[← HT.out,lY,lY,eN,eN];simp only[List.drop_zero,Nat.sub_zero];rw[List.take_of_length_le (l:=(L rest).drop (n+1)) (by simp;omega)]
   conv=>rhs;rw[h3]
   rw[List.map_append,aCf _ h4,List.map_cons];simp only[List.append_assoc];rfl
  have HE:=bW eL;have HS1:=bW es1;have HS2:=bW es2;have HLD:=bW hld;clear h1 h2 h3 h4 hld hl eL es1 es2;go_wp2_with fail
  (with_reducible refine (hz _).mono ?_)
  rintro e w' ⟨rfl,⟨nd,rfl⟩⟩
  go_wp2_with (at_builtin;refine oX (w0:=w) w.heap.size rfl _ _ 108 9 5 rfl Tryz.underlying108 Tryz.underlying9 HINF.out _ (bytesOf done) (rest.extract 0 n) rfl rfl (vE HO.out _) ?hb ?hs ?hz ?_)
  case hb=>exact pF HB.out hb (eV.below ⟨⟨_,rfl⟩⟩)
  case hs=>simpa using hb
  case hz=>rw[HLD.out,HS1.out];omega
  intro v1 w1 ho1 hb1 hg1;have hsz1:w.heap.size≤w1.heap.size:=hb1.size
  obtain ⟨xs1,hx1⟩:∃ xs1,bytesOf done++bytesOf (rest.extract 0 n)=xs1:=⟨_,rfl⟩
  try rw[← List.length_append] at ho1
  rw[hx1] at ho1;have HX1:=bW hx1;clear hx1;have HO1:=bW ho1;have HB1:=bW hb1;clear ho1 hb1 hg1
  go_wp2_with (at_builtin;refine oX (w0:=w) w.heap.size rfl _ _ 108 9 5 rfl Tryz.underlying108 Tryz.underlying9 HINF.out _ xs1 ⟨#[45]⟩ rfl rfl HO1.out HB1.out ?hs2 ?hz2 ?_)
  case hs2=>exact hsz1
  case hz2=>rw[← HX1.out,← oF,bytesOf_length,size_append,HS1.out];show _+1≤_;omega
  intro v2 w2 ho2 hb2 hg2;have HO2:=bW ho2;have HB2:=bW hb2;clear ho2 hb2 hg2;obtain ⟨A2,c2,rfl⟩:=fL HO2.out;go_wp2_with fail
  go_roundw
  case rel =>
   refine ⟨rest.extract (n+1) rest.size,(done++rest.extract 0 n)++(⟨#[45]⟩:ByteArray),rfl,⟨?_⟩,HE,?_,HB2⟩
   ·rw[oF,oF,HX1.out];simpa using HO2.out
   rw[size_append,size_append,HS1.out,HS2.out];show _+1+_≤_;omega
  case measure=>simp[strLen];omega
theorem pI (s:ByteArray) (w:World) (hs:s.size≤140737488351232) (ha:∀ c∈L s,c.toNat≤127) :
 Calls Tryz.prog 124 #[.string s] w fun e w'=>e = .returned (.string (norm s))∧Below w.heap.size w w':=by
 have e:(⟨(Lib.toLowerA s.data.toList).toArray⟩:ByteArray)=low s:=by
  unfold low Lib.toLowerA;congr 2;refine List.map_congr_left fun c _=>?_;unfold Lib.lowerB Lib.isUpperB jI
  simp[UInt8.le_iff_toNat_le]
 have h1:=fun w=>Tryz.strings_ToLower_ascii s w bA (fun j b hb=>by have:=ha b (List.mem_of_getElem? hb);omega);rw[e] at h1;have hn:norm s=hyp (low s):=rfl;have HN:=bW hn;have hsz:(low s).size≤140737488351232:=by rw[pQ];exact hs
 clear hn e;go_enter Tryz.func124,Tryz.ntmps124;go_wp2_with fail
 (with_reducible refine (h1 _).mono ?_)
 rintro e w1 ⟨rfl,HB1⟩;have HB1:=bW HB1;go_wp2_with fail
 (with_reducible refine (aBh (low s) _ hsz).mono ?_)
 rintro e w2 ⟨rfl,HB2⟩;have HB2:=bW HB2;go_wp2_with fail
 go_ret;exact ⟨by rw[HN.out];rfl,pF HB1.out HB1.out.size HB2.out⟩
end Go.Proofs.YtlkoeeccebmjmaaGreatDoor.Norm
