/- Texts that the law leans on: PCorex3, PCorex4. Condition: as told at each. -/
import Derived.Test.YtlkoeeccebmjmaaGreatDoorXa
import Derived.Test.YtlkoeeccebmjmaaGreatDoorX7
set_option linter.unusedVariables false
set_option linter.unusedSimpArgs false
set_option maxRecDepth 100000
set_option maxHeartbeats 16000000
namespace Go.Proofs.YtlkoeeccebmjmaaGreatDoor.PCore
open Go.RowKit Go.ZW.PrintWords Go.ZW.PrintLast Go.ZW.PrintMore
attribute [local go_sem] lD lF mD mE kR kS lE lG   -- for this text's walks alone
mutual
def eI.j0:Nat→Bool→List ByteArray→List ByteArray→List (S53)→List ByteArray→Option (Bool)
 | 0,_,_,_,_,_=>none
 | k+1,x26,x115000,x115001,x115002,x115003=>if x26=true then (some false) else (eI.l0 k 0 x115000 x115001 x115002 x115003)
def eI.l0:Nat→Int→List ByteArray→List ByteArray→List (S53)→List ByteArray→Option (Bool)
 | 0,_,_,_,_,_=>none
 | k+1,x3,x115000,x115001,x115002,x115003=>if x3 < (x115001.length:Int) then (if 0≤x3 then ((fD.f k x115000 (iB ByteArray.empty x115001 x3)).bind fun t119=>(if t119=true then (some false) else (eI.l0 k (wrap64 (x3+1)) x115000 x115001 x115002 x115003))) else (none)) else (eI.l1 k 0 x115000 x115001 x115002 x115003)
def eI.l1:Nat→Int→List ByteArray→List ByteArray→List (S53)→List ByteArray→Option (Bool)
 | 0,_,_,_,_,_=>none
 | k+1,x4,x115000,x115001,x115002,x115003=>if x4 < (x115002.length:Int) then (if 0≤x4 then ((eM.f k ((gQ x115002 x4).f0)).bind fun t121=>(if t121=true then ((eM.f k ((gQ x115002 x4).f1)).bind fun t123=>(if t123=true then (eI.l1 k (wrap64 (x4+1)) x115000 x115001 x115002 x115003) else (some false))) else (some false))) else (none)) else (some true)
end
def eI.f (k:Nat) (l0_0:List ByteArray) (l0_1:List ByteArray) (l0_2:List (S53)) (l0_3:List ByteArray):Option (Bool):=(eK.f k l0_0).bind fun t115=>(if t115=true then ((eK.f k l0_1).bind fun t116=>(if t116=true then ((eK.f k l0_3).bind fun t117=>(if t117=true then (eI.j0 k (decide ((l0_2.length:Int) > 12)) l0_0 l0_1 l0_2 l0_3) else (eI.j0 k true l0_0 l0_1 l0_2 l0_3))) else (eI.j0 k true l0_0 l0_1 l0_2 l0_3))) else (eI.j0 k true l0_0 l0_1 l0_2 l0_3))
theorem eI.mono_l:∀ k,(∀ y0 y1 y2 y3 y4,LeO (eI.j0 k y0 y1 y2 y3 y4) (eI.j0 (k+1) y0 y1 y2 y3 y4))∧(∀ y0 y1 y2 y3 y4,LeO (eI.l0 k y0 y1 y2 y3 y4) (eI.l0 (k+1) y0 y1 y2 y3 y4))∧(∀ y0 y1 y2 y3 y4,LeO (eI.l1 k y0 y1 y2 y3 y4) (eI.l1 (k+1) y0 y1 y2 y3 y4))
 | 0=>⟨fun _ _ _ _ _ r h=>by simp[eI.j0] at h,fun _ _ _ _ _ r h=>by simp[eI.l0] at h,fun _ _ _ _ _ r h=>by simp[eI.l1] at h⟩
 | k+1=>by
  obtain ⟨ih0,ih1,ih2⟩:=eI.mono_l k;refine ⟨?_,?_,?_⟩
  ·intro y0 y1 y2 y3 y4;unfold eI.j0
   exact dB
  ·intro y0 y1 y2 y3 y4;unfold eI.l0
   exact dB
  intro y0 y1 y2 y3 y4;unfold eI.l1
  exact dB
theorem eI.mono:∀ a0 a1 a2 a3 k,LeO (eI.f k a0 a1 a2 a3) (eI.f (k+1) a0 a1 a2 a3):=by
 intro a0 a1 a2 a3 k;obtain ⟨ih0,ih1,ih2⟩:=eI.mono_l k;unfold eI.f
 exact dB
theorem eI.calls (k:Nat) (A0_0:Option Addr) (c0_0:Nat) (l0_0:List ByteArray) (A0_1:Option Addr) (c0_1:Nat) (l0_1:List ByteArray) (A0_2:Option Addr) (c0_2:Nat) (l0_2:List (S53)) (A0_3:Option Addr) (c0_3:Nat) (l0_3:List ByteArray) (r:Bool) (w:World) (hr0_0:Kd.C Kd.string w A0_0 l0_0.length l0_0) (hc0_0:l0_0.length≤c0_0) (hr0_1:Kd.C Kd.string w A0_1 l0_1.length l0_1) (hc0_1:l0_1.length≤c0_1) (hr0_2:Kd.C k53 w A0_2 l0_2.length l0_2) (hc0_2:l0_2.length≤c0_2) (hr0_3:Kd.C Kd.string w A0_3 l0_3.length l0_3) (hc0_3:l0_3.length≤c0_3) (h:eI.f k l0_0 l0_1 l0_2 l0_3=some r) :
 Calls Tryz.prog 56 #[.agg #[.slice A0_0 l0_0.length c0_0,.slice A0_1 l0_1.length c0_1,.slice A0_2 l0_2.length c0_2,.slice A0_3 l0_3.length c0_3]] w fun e w'=>e = .returned (.bool r)∧Below w.heap.size w w':=by
 have hu25:=Tryz.underlying25;have HR0_0:=bW hr0_0;have HC0_0:=bW hc0_0;clear hr0_0 hc0_0;have HR0_1:=bW hr0_1;have HC0_1:=bW hc0_1;clear hr0_1 hc0_1;have HR0_2:=bW hr0_2;have HC0_2:=bW hc0_2;clear hr0_2 hc0_2;have HR0_3:=bW hr0_3;have HC0_3:=bW hc0_3;clear hr0_3 hc0_3;have HB:=bW (Below.refl w.heap.size w);unfold eI.f at h;have H:=h;clear h;have HC2:=bW H;clear H
 go_enter Tryz.func56,Tryz.ntmps56
 go_upto_region 1 with (first | ((with_reducible refine gO (N:=1) rfl ?_);(try (refine iU bH ?_;dsimp only));refine gH ?hg (N:=1) ?hd (cs:=#[.slice A0_0 l0_0.length c0_0,.slice A0_1 l0_1.length c0_1,.slice A0_2 l0_2.length c0_2,.slice A0_3 l0_3.length c0_3]) (t:=25) ?hr ?_;(case hd=>rfl);(case hg=>rfl);(case hr=>exact cA);intro gb114 hg w3 hbox hb;have BK114:=bW (hbox);have GW114:=bW ((by rw[hg];exact (eJ bC):w.heap.size≤gb114));have GE114:=bW ((by rw[hg];exact (eJ bC):w.heap.size≤gb114));replace HB:=bW (eA bC hb);clear hb hbox hg))
 repeat (go_quiet (first | ((with_reducible refine gO (N:=1) rfl ?_);(try (refine iU bH ?_;dsimp only));refine gH ?hg (N:=1) ?hd (cs:=#[.slice A0_0 l0_0.length c0_0,.slice A0_1 l0_1.length c0_1,.slice A0_2 l0_2.length c0_2,.slice A0_3 l0_3.length c0_3]) (t:=25) ?hr ?_;(case hd=>rfl);(case hg=>rfl);(case hr=>exact cA);intro gb114 hg w3 hbox hb;have BK114:=bW (hbox);have GW114:=bW ((by rw[hg];exact (eJ bC):w.heap.size≤gb114));have GE114:=bW ((by rw[hg];exact (eJ bC):w.heap.size≤gb114));replace HB:=bW (eA bC hb);clear hb hbox hg));go_upto_region 1 with (first | ((with_reducible refine gO (N:=1) rfl ?_);(try (refine iU bH ?_;dsimp only));refine gH ?hg (N:=1) ?hd (cs:=#[.slice A0_0 l0_0.length c0_0,.slice A0_1 l0_1.length c0_1,.slice A0_2 l0_2.length c0_2,.slice A0_3 l0_3.length c0_3]) (t:=25) ?hr ?_;(case hd=>rfl);(case hg=>rfl);(case hr=>exact cA);intro gb114 hg w3 hbox hb;have BK114:=bW (hbox);have GW114:=bW ((by rw[hg];exact (eJ bC):w.heap.size≤gb114));have GE114:=bW ((by rw[hg];exact (eJ bC):w.heap.size≤gb114));replace HB:=bW (eA bC hb);clear hb hbox hg)))
 (try simp only[Act.put,List.setIfInBounds_toArray,List.set_cons_zero,List.set_cons_succ])
 go_cut [26] (fun v26 wc=>∃ (kq:Nat) (x26_1:Bool),v26 = .bool x26_1∧Aside0 (eI.j0 kq x26_1 l0_0 l0_1 l0_2 l0_3=some r)∧Aside0 (kq≤k)∧Aside0 (wc.heap[gb114]? = some (.cells #[(.slice A0_0 l0_0.length c0_0),(.slice A0_1 l0_1.length c0_1),(.slice A0_2 l0_2.length c0_2),(.slice A0_3 l0_3.length c0_3)] 25 (0,0)))∧Aside0 (Below w.heap.size w wc))
 case first =>
  have H:=HC2.out;clear HC2;replace H:=Option.bind_eq_some_iff.mp H;obtain ⟨t115,A40,H⟩:=H;have A4:=bW A40;clear A40
  by_cases c5:t115=true
  ·subst c5;rw[if_pos rfl] at H;replace H:=Option.bind_eq_some_iff.mp H;obtain ⟨t116,A60,H⟩:=H;have A6:=bW A60;clear A60
   by_cases c7:t116=true
   ·subst c7;rw[if_pos rfl] at H;replace H:=Option.bind_eq_some_iff.mp H;obtain ⟨t117,A80,H⟩:=H;have A8:=bW A80;clear A80
    by_cases c9:t117=true
    ·subst c9;rw[if_pos rfl] at H;have H':=bW H;clear H;have hcz10_0:w3.cell? ⟨gb114,0,none⟩=some (.slice A0_0 l0_0.length c0_0):=(dY BK114.out 0).trans rfl;have hcz10_1:w3.cell? ⟨gb114,1,none⟩=some (.slice A0_1 l0_1.length c0_1):=(dY BK114.out 1).trans rfl;have hcz10_2:w3.cell? ⟨gb114,2,none⟩=some (.slice A0_2 l0_2.length c0_2):=(dY BK114.out 2).trans rfl;have hcz10_3:w3.cell? ⟨gb114,3,none⟩=some (.slice A0_3 l0_3.length c0_3):=(dY BK114.out 3).trans rfl;have hfz10_0:=eC BK114.out 0;have hfz10_1:=eC BK114.out 1;have hfz10_2:=eC BK114.out 2;have hfz10_3:=eC BK114.out 3
     go_wp2_with (first | (go_at_call 119;(with_reducible refine (eK.calls k _ _ l0_0 true _ ?side1 ?side2 A4.out).mono ?_);(case side1=>exact cB);(case side2=>exact HC0_0.out);rintro e w' ⟨rfl,⟨nd,rfl⟩⟩;(try first | exact ⟨rfl,_,World.drewN_drewN _ _ _⟩ | exact ⟨rfl,_,Eq.trans (World.drewN_drewN _ _ _) (congrArg (World.drewN _) (Nat.add_assoc _ _ _))⟩)) | (go_at_call 119;(with_reducible refine (eK.calls k _ _ l0_1 true _ ?side1 ?side2 A6.out).mono ?_);(case side1=>exact cE);(case side2=>exact HC0_1.out);rintro e w' ⟨rfl,⟨nd,rfl⟩⟩;(try first | exact ⟨rfl,_,World.drewN_drewN _ _ _⟩ | exact ⟨rfl,_,Eq.trans (World.drewN_drewN _ _ _) (congrArg (World.drewN _) (Nat.add_assoc _ _ _))⟩)) | (go_at_call 119;(with_reducible refine (eK.calls k _ _ l0_3 true _ ?side1 ?side2 A8.out).mono ?_);(case side1=>exact cG);(case side2=>exact HC0_3.out);rintro e w' ⟨rfl,⟨nd,rfl⟩⟩;(try first | exact ⟨rfl,_,World.drewN_drewN _ _ _⟩ | exact ⟨rfl,_,Eq.trans (World.drewN_drewN _ _ _) (congrArg (World.drewN _) (Nat.add_assoc _ _ _))⟩)))
     repeat (go_quiet (first | (go_at_call 119;(with_reducible refine (eK.calls k _ _ l0_0 true _ ?side1 ?side2 A4.out).mono ?_);(case side1=>exact cB);(case side2=>exact HC0_0.out);rintro e w' ⟨rfl,⟨nd,rfl⟩⟩;(try first | exact ⟨rfl,_,World.drewN_drewN _ _ _⟩ | exact ⟨rfl,_,Eq.trans (World.drewN_drewN _ _ _) (congrArg (World.drewN _) (Nat.add_assoc _ _ _))⟩)) | (go_at_call 119;(with_reducible refine (eK.calls k _ _ l0_1 true _ ?side1 ?side2 A6.out).mono ?_);(case side1=>exact cE);(case side2=>exact HC0_1.out);rintro e w' ⟨rfl,⟨nd,rfl⟩⟩;(try first | exact ⟨rfl,_,World.drewN_drewN _ _ _⟩ | exact ⟨rfl,_,Eq.trans (World.drewN_drewN _ _ _) (congrArg (World.drewN _) (Nat.add_assoc _ _ _))⟩)) | (go_at_call 119;(with_reducible refine (eK.calls k _ _ l0_3 true _ ?side1 ?side2 A8.out).mono ?_);(case side1=>exact cG);(case side2=>exact HC0_3.out);rintro e w' ⟨rfl,⟨nd,rfl⟩⟩;(try first | exact ⟨rfl,_,World.drewN_drewN _ _ _⟩ | exact ⟨rfl,_,Eq.trans (World.drewN_drewN _ _ _) (congrArg (World.drewN _) (Nat.add_assoc _ _ _))⟩)));try go_wp2_with (first | (go_at_call 119;(with_reducible refine (eK.calls k _ _ l0_0 true _ ?side1 ?side2 A4.out).mono ?_);(case side1=>exact cB);(case side2=>exact HC0_0.out);rintro e w' ⟨rfl,⟨nd,rfl⟩⟩;(try first | exact ⟨rfl,_,World.drewN_drewN _ _ _⟩ | exact ⟨rfl,_,Eq.trans (World.drewN_drewN _ _ _) (congrArg (World.drewN _) (Nat.add_assoc _ _ _))⟩)) | (go_at_call 119;(with_reducible refine (eK.calls k _ _ l0_1 true _ ?side1 ?side2 A6.out).mono ?_);(case side1=>exact cE);(case side2=>exact HC0_1.out);rintro e w' ⟨rfl,⟨nd,rfl⟩⟩;(try first | exact ⟨rfl,_,World.drewN_drewN _ _ _⟩ | exact ⟨rfl,_,Eq.trans (World.drewN_drewN _ _ _) (congrArg (World.drewN _) (Nat.add_assoc _ _ _))⟩)) | (go_at_call 119;(with_reducible refine (eK.calls k _ _ l0_3 true _ ?side1 ?side2 A8.out).mono ?_);(case side1=>exact cG);(case side2=>exact HC0_3.out);rintro e w' ⟨rfl,⟨nd,rfl⟩⟩;(try first | exact ⟨rfl,_,World.drewN_drewN _ _ _⟩ | exact ⟨rfl,_,Eq.trans (World.drewN_drewN _ _ _) (congrArg (World.drewN _) (Nat.add_assoc _ _ _))⟩))))
     go_meet
     case rel=>exact ⟨_,(decide ((l0_2.length:Int) > 12)),bE,H',⟨dI⟩,⟨aK⟩,⟨aD⟩⟩
    replace c9:=Bool.eq_false_iff.mpr c9;subst c9;rw[if_neg (show ¬ (false=true) by decide)] at H;have H':=bW H;clear H;have hcz11_0:w3.cell? ⟨gb114,0,none⟩=some (.slice A0_0 l0_0.length c0_0):=(dY BK114.out 0).trans rfl;have hcz11_1:w3.cell? ⟨gb114,1,none⟩=some (.slice A0_1 l0_1.length c0_1):=(dY BK114.out 1).trans rfl;have hcz11_2:w3.cell? ⟨gb114,2,none⟩=some (.slice A0_2 l0_2.length c0_2):=(dY BK114.out 2).trans rfl;have hcz11_3:w3.cell? ⟨gb114,3,none⟩=some (.slice A0_3 l0_3.length c0_3):=(dY BK114.out 3).trans rfl;have hfz11_0:=eC BK114.out 0;have hfz11_1:=eC BK114.out 1;have hfz11_2:=eC BK114.out 2;have hfz11_3:=eC BK114.out 3
    go_wp2_with (first | (go_at_call 119;(with_reducible refine (eK.calls k _ _ l0_0 true _ ?side1 ?side2 A4.out).mono ?_);(case side1=>exact cB);(case side2=>exact HC0_0.out);rintro e w' ⟨rfl,⟨nd,rfl⟩⟩;(try first | exact ⟨rfl,_,World.drewN_drewN _ _ _⟩ | exact ⟨rfl,_,Eq.trans (World.drewN_drewN _ _ _) (congrArg (World.drewN _) (Nat.add_assoc _ _ _))⟩)) | (go_at_call 119;(with_reducible refine (eK.calls k _ _ l0_1 true _ ?side1 ?side2 A6.out).mono ?_);(case side1=>exact cE);(case side2=>exact HC0_1.out);rintro e w' ⟨rfl,⟨nd,rfl⟩⟩;(try first | exact ⟨rfl,_,World.drewN_drewN _ _ _⟩ | exact ⟨rfl,_,Eq.trans (World.drewN_drewN _ _ _) (congrArg (World.drewN _) (Nat.add_assoc _ _ _))⟩)) | (go_at_call 119;(with_reducible refine (eK.calls k _ _ l0_3 false _ ?side1 ?side2 A8.out).mono ?_);(case side1=>exact cG);(case side2=>exact HC0_3.out);rintro e w' ⟨rfl,⟨nd,rfl⟩⟩;(try first | exact ⟨rfl,_,World.drewN_drewN _ _ _⟩ | exact ⟨rfl,_,Eq.trans (World.drewN_drewN _ _ _) (congrArg (World.drewN _) (Nat.add_assoc _ _ _))⟩)))
    repeat (go_quiet (first | (go_at_call 119;(with_reducible refine (eK.calls k _ _ l0_0 true _ ?side1 ?side2 A4.out).mono ?_);(case side1=>exact cB);(case side2=>exact HC0_0.out);rintro e w' ⟨rfl,⟨nd,rfl⟩⟩;(try first | exact ⟨rfl,_,World.drewN_drewN _ _ _⟩ | exact ⟨rfl,_,Eq.trans (World.drewN_drewN _ _ _) (congrArg (World.drewN _) (Nat.add_assoc _ _ _))⟩)) | (go_at_call 119;(with_reducible refine (eK.calls k _ _ l0_1 true _ ?side1 ?side2 A6.out).mono ?_);(case side1=>exact cE);(case side2=>exact HC0_1.out);rintro e w' ⟨rfl,⟨nd,rfl⟩⟩;(try first | exact ⟨rfl,_,World.drewN_drewN _ _ _⟩ | exact ⟨rfl,_,Eq.trans (World.drewN_drewN _ _ _) (congrArg (World.drewN _) (Nat.add_assoc _ _ _))⟩)) | (go_at_call 119;(with_reducible refine (eK.calls k _ _ l0_3 false _ ?side1 ?side2 A8.out).mono ?_);(case side1=>exact cG);(case side2=>exact HC0_3.out);rintro e w' ⟨rfl,⟨nd,rfl⟩⟩;(try first | exact ⟨rfl,_,World.drewN_drewN _ _ _⟩ | exact ⟨rfl,_,Eq.trans (World.drewN_drewN _ _ _) (congrArg (World.drewN _) (Nat.add_assoc _ _ _))⟩)));try go_wp2_with (first | (go_at_call 119;(with_reducible refine (eK.calls k _ _ l0_0 true _ ?side1 ?side2 A4.out).mono ?_);(case side1=>exact cB);(case side2=>exact HC0_0.out);rintro e w' ⟨rfl,⟨nd,rfl⟩⟩;(try first | exact ⟨rfl,_,World.drewN_drewN _ _ _⟩ | exact ⟨rfl,_,Eq.trans (World.drewN_drewN _ _ _) (congrArg (World.drewN _) (Nat.add_assoc _ _ _))⟩)) | (go_at_call 119;(with_reducible refine (eK.calls k _ _ l0_1 true _ ?side1 ?side2 A6.out).mono ?_);(case side1=>exact cE);(case side2=>exact HC0_1.out);rintro e w' ⟨rfl,⟨nd,rfl⟩⟩;(try first | exact ⟨rfl,_,World.drewN_drewN _ _ _⟩ | exact ⟨rfl,_,Eq.trans (World.drewN_drewN _ _ _) (congrArg (World.drewN _) (Nat.add_assoc _ _ _))⟩)) | (go_at_call 119;(with_reducible refine (eK.calls k _ _ l0_3 false _ ?side1 ?side2 A8.out).mono ?_);(case side1=>exact cG);(case side2=>exact HC0_3.out);rintro e w' ⟨rfl,⟨nd,rfl⟩⟩;(try first | exact ⟨rfl,_,World.drewN_drewN _ _ _⟩ | exact ⟨rfl,_,Eq.trans (World.drewN_drewN _ _ _) (congrArg (World.drewN _) (Nat.add_assoc _ _ _))⟩))))
    go_meet
    case rel=>exact ⟨_,(true),bE,H',⟨dI⟩,⟨aK⟩,⟨aD⟩⟩
   replace c7:=Bool.eq_false_iff.mpr c7;subst c7;rw[if_neg (show ¬ (false=true) by decide)] at H;have H':=bW H;clear H;have hcz12_0:w3.cell? ⟨gb114,0,none⟩=some (.slice A0_0 l0_0.length c0_0):=(dY BK114.out 0).trans rfl;have hcz12_1:w3.cell? ⟨gb114,1,none⟩=some (.slice A0_1 l0_1.length c0_1):=(dY BK114.out 1).trans rfl;have hcz12_2:w3.cell? ⟨gb114,2,none⟩=some (.slice A0_2 l0_2.length c0_2):=(dY BK114.out 2).trans rfl;have hcz12_3:w3.cell? ⟨gb114,3,none⟩=some (.slice A0_3 l0_3.length c0_3):=(dY BK114.out 3).trans rfl;have hfz12_0:=eC BK114.out 0;have hfz12_1:=eC BK114.out 1;have hfz12_2:=eC BK114.out 2;have hfz12_3:=eC BK114.out 3
   go_wp2_with (first | (go_at_call 119;(with_reducible refine (eK.calls k _ _ l0_0 true _ ?side1 ?side2 A4.out).mono ?_);(case side1=>exact cB);(case side2=>exact HC0_0.out);rintro e w' ⟨rfl,⟨nd,rfl⟩⟩;(try first | exact ⟨rfl,_,World.drewN_drewN _ _ _⟩ | exact ⟨rfl,_,Eq.trans (World.drewN_drewN _ _ _) (congrArg (World.drewN _) (Nat.add_assoc _ _ _))⟩)) | (go_at_call 119;(with_reducible refine (eK.calls k _ _ l0_1 false _ ?side1 ?side2 A6.out).mono ?_);(case side1=>exact cE);(case side2=>exact HC0_1.out);rintro e w' ⟨rfl,⟨nd,rfl⟩⟩;(try first | exact ⟨rfl,_,World.drewN_drewN _ _ _⟩ | exact ⟨rfl,_,Eq.trans (World.drewN_drewN _ _ _) (congrArg (World.drewN _) (Nat.add_assoc _ _ _))⟩)))
   repeat (go_quiet (first | (go_at_call 119;(with_reducible refine (eK.calls k _ _ l0_0 true _ ?side1 ?side2 A4.out).mono ?_);(case side1=>exact cB);(case side2=>exact HC0_0.out);rintro e w' ⟨rfl,⟨nd,rfl⟩⟩;(try first | exact ⟨rfl,_,World.drewN_drewN _ _ _⟩ | exact ⟨rfl,_,Eq.trans (World.drewN_drewN _ _ _) (congrArg (World.drewN _) (Nat.add_assoc _ _ _))⟩)) | (go_at_call 119;(with_reducible refine (eK.calls k _ _ l0_1 false _ ?side1 ?side2 A6.out).mono ?_);(case side1=>exact cE);(case side2=>exact HC0_1.out);rintro e w' ⟨rfl,⟨nd,rfl⟩⟩;(try first | exact ⟨rfl,_,World.drewN_drewN _ _ _⟩ | exact ⟨rfl,_,Eq.trans (World.drewN_drewN _ _ _) (congrArg (World.drewN _) (Nat.add_assoc _ _ _))⟩)));try go_wp2_with (first | (go_at_call 119;(with_reducible refine (eK.calls k _ _ l0_0 true _ ?side1 ?side2 A4.out).mono ?_);(case side1=>exact cB);(case side2=>exact HC0_0.out);rintro e w' ⟨rfl,⟨nd,rfl⟩⟩;(try first | exact ⟨rfl,_,World.drewN_drewN _ _ _⟩ | exact ⟨rfl,_,Eq.trans (World.drewN_drewN _ _ _) (congrArg (World.drewN _) (Nat.add_assoc _ _ _))⟩)) | (go_at_call 119;(with_reducible refine (eK.calls k _ _ l0_1 false _ ?side1 ?side2 A6.out).mono ?_);(case side1=>exact cE);(case side2=>exact HC0_1.out);rintro e w' ⟨rfl,⟨nd,rfl⟩⟩;(try first | exact ⟨rfl,_,World.drewN_drewN _ _ _⟩ | exact ⟨rfl,_,Eq.trans (World.drewN_drewN _ _ _) (congrArg (World.drewN _) (Nat.add_assoc _ _ _))⟩))))
   go_meet
   case rel=>exact ⟨_,(true),bE,H',⟨dI⟩,⟨aK⟩,⟨aD⟩⟩
  replace c5:=Bool.eq_false_iff.mpr c5;subst c5;rw[if_neg (show ¬ (false=true) by decide)] at H;have H':=bW H;clear H;have hcz13_0:w3.cell? ⟨gb114,0,none⟩=some (.slice A0_0 l0_0.length c0_0):=(dY BK114.out 0).trans rfl;have hcz13_1:w3.cell? ⟨gb114,1,none⟩=some (.slice A0_1 l0_1.length c0_1):=(dY BK114.out 1).trans rfl;have hcz13_2:w3.cell? ⟨gb114,2,none⟩=some (.slice A0_2 l0_2.length c0_2):=(dY BK114.out 2).trans rfl;have hcz13_3:w3.cell? ⟨gb114,3,none⟩=some (.slice A0_3 l0_3.length c0_3):=(dY BK114.out 3).trans rfl;have hfz13_0:=eC BK114.out 0;have hfz13_1:=eC BK114.out 1;have hfz13_2:=eC BK114.out 2;have hfz13_3:=eC BK114.out 3
  go_wp2_with (first | (go_at_call 119;(with_reducible refine (eK.calls k _ _ l0_0 false _ ?side1 ?side2 A4.out).mono ?_);(case side1=>exact cB);(case side2=>exact HC0_0.out);rintro e w' ⟨rfl,⟨nd,rfl⟩⟩;(try first | exact ⟨rfl,_,World.drewN_drewN _ _ _⟩ | exact ⟨rfl,_,Eq.trans (World.drewN_drewN _ _ _) (congrArg (World.drewN _) (Nat.add_assoc _ _ _))⟩)))
  repeat (go_quiet (first | (go_at_call 119;(with_reducible refine (eK.calls k _ _ l0_0 false _ ?side1 ?side2 A4.out).mono ?_);(case side1=>exact cB);(case side2=>exact HC0_0.out);rintro e w' ⟨rfl,⟨nd,rfl⟩⟩;(try first | exact ⟨rfl,_,World.drewN_drewN _ _ _⟩ | exact ⟨rfl,_,Eq.trans (World.drewN_drewN _ _ _) (congrArg (World.drewN _) (Nat.add_assoc _ _ _))⟩)));try go_wp2_with (first | (go_at_call 119;(with_reducible refine (eK.calls k _ _ l0_0 false _ ?side1 ?side2 A4.out).mono ?_);(case side1=>exact cB);(case side2=>exact HC0_0.out);rintro e w' ⟨rfl,⟨nd,rfl⟩⟩;(try first | exact ⟨rfl,_,World.drewN_drewN _ _ _⟩ | exact ⟨rfl,_,Eq.trans (World.drewN_drewN _ _ _) (congrArg (World.drewN _) (Nat.add_assoc _ _ _))⟩))))
  go_meet
  case rel=>exact ⟨_,(true),bE,H',⟨dI⟩,⟨aK⟩,⟨aD⟩⟩
 clear HC2
 obtain ⟨kq,x26_1,rfl,HA,HJ1,BK114,HB⟩:=hcut
 cases kq with
 | zero=>exact absurd HA.out (by simp[eI.j0])
 | succ kj1 =>
  have H:=HA.out;clear HA;simp only[eI.j0] at H
  by_cases c14:x26_1=true
  ·subst c14;rw[if_pos rfl] at H;obtain rfl:=Option.some.inj H;go_wp2
   repeat (go_quiet (fail);try go_wp2)
   go_ret;exact ⟨aC,aD⟩
  replace c14:=Bool.eq_false_iff.mpr c14;subst c14;rw[if_neg (show ¬ (false=true) by decide)] at H;have H':=bW H;clear H;go_wp2
  repeat (go_quiet (fail);try go_wp2)
  go_loopg [3] kj1 (fun kq v3 w'=>∃ (x3_2:Int),v3 = .int .i64 x3_2∧Aside0 (eI.l0 kq x3_2 l0_0 l0_1 l0_2 l0_3=some r)∧Aside0 (kq≤kj1)∧Aside0 (w'.heap[gb114]? = some (.cells #[(.slice A0_0 l0_0.length c0_0),(.slice A0_1 l0_1.length c0_1),(.slice A0_2 l0_2.length c0_2),(.slice A0_3 l0_3.length c0_3)] 25 (0,0)))∧Aside0 (Below w.heap.size w w'))
  case atStart=>exact ⟨(0),bE,H',⟨Nat.le_refl _⟩,⟨aK⟩,⟨aD⟩⟩
  case round =>
   clear H'
   (try clear c14)
   obtain ⟨x3_2,rfl,HA,HK2,BK114,HB⟩:=hrel
   cases gk with
   | zero=>exact absurd HA.out (by simp[eI.l0])
   | succ k2 =>
    have H:=HA.out;clear HA;simp only[eI.l0] at H
    by_cases c15:x3_2 < (l0_1.length:Int)
    ·rw[if_pos c15] at H;have c15b0:=decide_eq_true c15;clear c15
     by_cases c16:0≤x3_2
     ·rw[if_pos c16] at H;have c16b0:=decide_eq_true c16;clear c16;replace H:=Option.bind_eq_some_iff.mp H;obtain ⟨t119,A170,H⟩:=H;have A17:=bW A170;clear A170
      by_cases c18:t119=true
      ·subst c18;rw[if_pos rfl] at H;obtain rfl:=Option.some.inj H;have hcz19_0:wr.cell? ⟨gb114,0,none⟩=some (.slice A0_0 l0_0.length c0_0):=(dY BK114.out 0).trans rfl;have hcz19_1:wr.cell? ⟨gb114,1,none⟩=some (.slice A0_1 l0_1.length c0_1):=(dY BK114.out 1).trans rfl;have hcz19_2:wr.cell? ⟨gb114,2,none⟩=some (.slice A0_2 l0_2.length c0_2):=(dY BK114.out 2).trans rfl;have hcz19_3:wr.cell? ⟨gb114,3,none⟩=some (.slice A0_3 l0_3.length c0_3):=(dY BK114.out 3).trans rfl;have hfz19_0:=eC BK114.out 0;have hfz19_1:=eC BK114.out 1;have hfz19_2:=eC BK114.out 2;have hfz19_3:=eC BK114.out 3;have p118:0≤(x3_2:Int):=bV
       have q118:x3_2 < (l0_1.length:Int):=bV;obtain ⟨ad118,e118,hx118_0⟩:=Kd.at_string HR0_1.out x3_2 p118 q118;cases e118;replace hx118_0:=(HB.out.cell (World.block_lt_of_cell? w _ hx118_0)).trans hx118_0;replace p118:=eq_true p118;replace q118:=eq_true q118
       go_wp2_with (first | (go_at_call 120;(with_reducible refine (fD.calls k2 _ _ l0_0 (iB ByteArray.empty l0_1 x3_2) true _ ?side1 ?side2 A17.out).mono ?_);(case side1=>exact cB);(case side2=>exact HC0_0.out);rintro e w' ⟨rfl,⟨nd,rfl⟩⟩;(try first | exact ⟨rfl,_,World.drewN_drewN _ _ _⟩ | exact ⟨rfl,_,Eq.trans (World.drewN_drewN _ _ _) (congrArg (World.drewN _) (Nat.add_assoc _ _ _))⟩)))
       repeat (go_quiet (first | (go_at_call 120;(with_reducible refine (fD.calls k2 _ _ l0_0 (iB ByteArray.empty l0_1 x3_2) true _ ?side1 ?side2 A17.out).mono ?_);(case side1=>exact cB);(case side2=>exact HC0_0.out);rintro e w' ⟨rfl,⟨nd,rfl⟩⟩;(try first | exact ⟨rfl,_,World.drewN_drewN _ _ _⟩ | exact ⟨rfl,_,Eq.trans (World.drewN_drewN _ _ _) (congrArg (World.drewN _) (Nat.add_assoc _ _ _))⟩)));try go_wp2_with (first | (go_at_call 120;(with_reducible refine (fD.calls k2 _ _ l0_0 (iB ByteArray.empty l0_1 x3_2) true _ ?side1 ?side2 A17.out).mono ?_);(case side1=>exact cB);(case side2=>exact HC0_0.out);rintro e w' ⟨rfl,⟨nd,rfl⟩⟩;(try first | exact ⟨rfl,_,World.drewN_drewN _ _ _⟩ | exact ⟨rfl,_,Eq.trans (World.drewN_drewN _ _ _) (congrArg (World.drewN _) (Nat.add_assoc _ _ _))⟩))))
       go_ret;exact ⟨aC,aD⟩
      replace c18:=Bool.eq_false_iff.mpr c18;subst c18;rw[if_neg (show ¬ (false=true) by decide)] at H;have H':=bW H;clear H;have hcz20_0:wr.cell? ⟨gb114,0,none⟩=some (.slice A0_0 l0_0.length c0_0):=(dY BK114.out 0).trans rfl;have hcz20_1:wr.cell? ⟨gb114,1,none⟩=some (.slice A0_1 l0_1.length c0_1):=(dY BK114.out 1).trans rfl;have hcz20_2:wr.cell? ⟨gb114,2,none⟩=some (.slice A0_2 l0_2.length c0_2):=(dY BK114.out 2).trans rfl;have hcz20_3:wr.cell? ⟨gb114,3,none⟩=some (.slice A0_3 l0_3.length c0_3):=(dY BK114.out 3).trans rfl;have hfz20_0:=eC BK114.out 0;have hfz20_1:=eC BK114.out 1;have hfz20_2:=eC BK114.out 2;have hfz20_3:=eC BK114.out 3;have p118:0≤(x3_2:Int):=bV
      have q118:x3_2 < (l0_1.length:Int):=bV;obtain ⟨ad118,e118,hx118_0⟩:=Kd.at_string HR0_1.out x3_2 p118 q118;cases e118;replace hx118_0:=(HB.out.cell (World.block_lt_of_cell? w _ hx118_0)).trans hx118_0;replace p118:=eq_true p118;replace q118:=eq_true q118
      go_wp2_with (first | (go_at_call 120;(with_reducible refine (fD.calls k2 _ _ l0_0 (iB ByteArray.empty l0_1 x3_2) false _ ?side1 ?side2 A17.out).mono ?_);(case side1=>exact cB);(case side2=>exact HC0_0.out);rintro e w' ⟨rfl,⟨nd,rfl⟩⟩;(try first | exact ⟨rfl,_,World.drewN_drewN _ _ _⟩ | exact ⟨rfl,_,Eq.trans (World.drewN_drewN _ _ _) (congrArg (World.drewN _) (Nat.add_assoc _ _ _))⟩)))
      repeat (go_quiet (first | (go_at_call 120;(with_reducible refine (fD.calls k2 _ _ l0_0 (iB ByteArray.empty l0_1 x3_2) false _ ?side1 ?side2 A17.out).mono ?_);(case side1=>exact cB);(case side2=>exact HC0_0.out);rintro e w' ⟨rfl,⟨nd,rfl⟩⟩;(try first | exact ⟨rfl,_,World.drewN_drewN _ _ _⟩ | exact ⟨rfl,_,Eq.trans (World.drewN_drewN _ _ _) (congrArg (World.drewN _) (Nat.add_assoc _ _ _))⟩)));try go_wp2_with (first | (go_at_call 120;(with_reducible refine (fD.calls k2 _ _ l0_0 (iB ByteArray.empty l0_1 x3_2) false _ ?side1 ?side2 A17.out).mono ?_);(case side1=>exact cB);(case side2=>exact HC0_0.out);rintro e w' ⟨rfl,⟨nd,rfl⟩⟩;(try first | exact ⟨rfl,_,World.drewN_drewN _ _ _⟩ | exact ⟨rfl,_,Eq.trans (World.drewN_drewN _ _ _) (congrArg (World.drewN _) (Nat.add_assoc _ _ _))⟩))))
      go_roundg k2
      case measure=>have:=HJ1.out;have:=HK2.out;omega
      case rel=>exact ⟨(wrap64 (x3_2+1)),bE,H',⟨by have:=HJ1.out;have:=HK2.out;omega⟩,⟨aK⟩,⟨aD⟩⟩
     rw[if_neg c16] at H;exact absurd H bJ
    rw[if_neg c15] at H;have c15b0:=decide_eq_false c15;clear c15;have H':=bW H;clear H;have hcz21_0:wr.cell? ⟨gb114,0,none⟩=some (.slice A0_0 l0_0.length c0_0):=(dY BK114.out 0).trans rfl;have hcz21_1:wr.cell? ⟨gb114,1,none⟩=some (.slice A0_1 l0_1.length c0_1):=(dY BK114.out 1).trans rfl;have hcz21_2:wr.cell? ⟨gb114,2,none⟩=some (.slice A0_2 l0_2.length c0_2):=(dY BK114.out 2).trans rfl;have hcz21_3:wr.cell? ⟨gb114,3,none⟩=some (.slice A0_3 l0_3.length c0_3):=(dY BK114.out 3).trans rfl;have hfz21_0:=eC BK114.out 0;have hfz21_1:=eC BK114.out 1;have hfz21_2:=eC BK114.out 2;have hfz21_3:=eC BK114.out 3;go_wp2
    repeat (go_quiet (fail);try go_wp2)
    go_loopg [4] k2 (fun kq v4 w'=>∃ (x4_3:Int),v4 = .int .i64 x4_3∧Aside0 (eI.l1 kq x4_3 l0_0 l0_1 l0_2 l0_3=some r)∧Aside0 (kq≤k2)∧Aside0 (w'.heap[gb114]? = some (.cells #[(.slice A0_0 l0_0.length c0_0),(.slice A0_1 l0_1.length c0_1),(.slice A0_2 l0_2.length c0_2),(.slice A0_3 l0_3.length c0_3)] 25 (0,0)))∧Aside0 (Below w.heap.size w w'))
    case atStart=>exact ⟨(0),bE,H',⟨Nat.le_refl _⟩,⟨aK⟩,⟨aD⟩⟩
    case round =>
     clear H'
     (try clear c14);(try clear c15);(try clear c15b0);(try clear hcz21_0);(try clear hcz21_1);(try clear hcz21_2);(try clear hcz21_3);(try clear hfz21_0);(try clear hfz21_1);(try clear hfz21_2);(try clear hfz21_3)
     obtain ⟨x4_3,rfl,HA,HK3,BK114,HB⟩:=hrel
     cases gk with
     | zero=>exact absurd HA.out (by simp[eI.l1])
     | succ k3 =>
      have H:=HA.out;clear HA;simp only[eI.l1] at H
      by_cases c22:x4_3 < (l0_2.length:Int)
      ·rw[if_pos c22] at H;have c22b0:=decide_eq_true c22;clear c22
       by_cases c23:0≤x4_3
       ·rw[if_pos c23] at H;have c23b0:=decide_eq_true c23;clear c23;replace H:=Option.bind_eq_some_iff.mp H;obtain ⟨t121,A240,H⟩:=H;have A24:=bW A240;clear A240
        by_cases c25:t121=true
        ·subst c25;rw[if_pos rfl] at H;replace H:=Option.bind_eq_some_iff.mp H;obtain ⟨t123,A260,H⟩:=H;have A26:=bW A260;clear A260
         by_cases c27:t123=true
         ·subst c27;rw[if_pos rfl] at H;have H':=bW H;clear H;have hcz28_0:wr.cell? ⟨gb114,0,none⟩=some (.slice A0_0 l0_0.length c0_0):=(dY BK114.out 0).trans rfl;have hcz28_1:wr.cell? ⟨gb114,1,none⟩=some (.slice A0_1 l0_1.length c0_1):=(dY BK114.out 1).trans rfl;have hcz28_2:wr.cell? ⟨gb114,2,none⟩=some (.slice A0_2 l0_2.length c0_2):=(dY BK114.out 2).trans rfl;have hcz28_3:wr.cell? ⟨gb114,3,none⟩=some (.slice A0_3 l0_3.length c0_3):=(dY BK114.out 3).trans rfl;have hfz28_0:=eC BK114.out 0;have hfz28_1:=eC BK114.out 1;have hfz28_2:=eC BK114.out 2;have hfz28_3:=eC BK114.out 3;have p120:0≤(x4_3:Int):=bV
          have q120:x4_3 < (l0_2.length:Int):=bV;obtain ⟨ad120,e120,hx120_0,hx120_1⟩:=kX HR0_2.out x4_3 p120 q120;cases e120;replace hx120_0:=(HB.out.cell (World.block_lt_of_cell? w _ hx120_0)).trans hx120_0;replace hx120_1:=(HB.out.cell (World.block_lt_of_cell? w _ hx120_1)).trans hx120_1;replace p120:=eq_true p120;replace q120:=eq_true q120
          go_wp2_with (first | (go_at_call 121;(with_reducible refine (eM.calls k3 ((gQ l0_2 x4_3).f0) true _ A24.out).mono ?_);rintro e w' ⟨rfl,⟨nd,rfl⟩⟩;(try first | exact ⟨rfl,_,World.drewN_drewN _ _ _⟩ | exact ⟨rfl,_,Eq.trans (World.drewN_drewN _ _ _) (congrArg (World.drewN _) (Nat.add_assoc _ _ _))⟩);have p122:0≤(x4_3:Int):=bV;have q122:x4_3 < (l0_2.length:Int):=bV;obtain ⟨ad122,e122,hx122_0,hx122_1⟩:=kX HR0_2.out x4_3 p122 q122;obtain rfl:ad120=ad122:=(by injection e122);replace hx122_0:=(HB.out.cell (World.block_lt_of_cell? w _ hx122_0)).trans hx122_0;replace hx122_1:=(HB.out.cell (World.block_lt_of_cell? w _ hx122_1)).trans hx122_1;replace p122:=eq_true p122;replace q122:=eq_true q122) | (go_at_call 121;(with_reducible refine (eM.calls k3 ((gQ l0_2 x4_3).f1) true _ A26.out).mono ?_);rintro e w' ⟨rfl,⟨nd,rfl⟩⟩;(try first | exact ⟨rfl,_,World.drewN_drewN _ _ _⟩ | exact ⟨rfl,_,Eq.trans (World.drewN_drewN _ _ _) (congrArg (World.drewN _) (Nat.add_assoc _ _ _))⟩)))
          repeat (go_quiet (first | (go_at_call 121;(with_reducible refine (eM.calls k3 ((gQ l0_2 x4_3).f0) true _ A24.out).mono ?_);rintro e w' ⟨rfl,⟨nd,rfl⟩⟩;(try first | exact ⟨rfl,_,World.drewN_drewN _ _ _⟩ | exact ⟨rfl,_,Eq.trans (World.drewN_drewN _ _ _) (congrArg (World.drewN _) (Nat.add_assoc _ _ _))⟩);have p122:0≤(x4_3:Int):=bV;have q122:x4_3 < (l0_2.length:Int):=bV;obtain ⟨ad122,e122,hx122_0,hx122_1⟩:=kX HR0_2.out x4_3 p122 q122;obtain rfl:ad120=ad122:=(by injection e122);replace hx122_0:=(HB.out.cell (World.block_lt_of_cell? w _ hx122_0)).trans hx122_0;replace hx122_1:=(HB.out.cell (World.block_lt_of_cell? w _ hx122_1)).trans hx122_1;replace p122:=eq_true p122;replace q122:=eq_true q122) | (go_at_call 121;(with_reducible refine (eM.calls k3 ((gQ l0_2 x4_3).f1) true _ A26.out).mono ?_);rintro e w' ⟨rfl,⟨nd,rfl⟩⟩;(try first | exact ⟨rfl,_,World.drewN_drewN _ _ _⟩ | exact ⟨rfl,_,Eq.trans (World.drewN_drewN _ _ _) (congrArg (World.drewN _) (Nat.add_assoc _ _ _))⟩)));try go_wp2_with (first | (go_at_call 121;(with_reducible refine (eM.calls k3 ((gQ l0_2 x4_3).f0) true _ A24.out).mono ?_);rintro e w' ⟨rfl,⟨nd,rfl⟩⟩;(try first | exact ⟨rfl,_,World.drewN_drewN _ _ _⟩ | exact ⟨rfl,_,Eq.trans (World.drewN_drewN _ _ _) (congrArg (World.drewN _) (Nat.add_assoc _ _ _))⟩);have p122:0≤(x4_3:Int):=bV;have q122:x4_3 < (l0_2.length:Int):=bV;obtain ⟨ad122,e122,hx122_0,hx122_1⟩:=kX HR0_2.out x4_3 p122 q122;obtain rfl:ad120=ad122:=(by injection e122);replace hx122_0:=(HB.out.cell (World.block_lt_of_cell? w _ hx122_0)).trans hx122_0;replace hx122_1:=(HB.out.cell (World.block_lt_of_cell? w _ hx122_1)).trans hx122_1;replace p122:=eq_true p122;replace q122:=eq_true q122) | (go_at_call 121;(with_reducible refine (eM.calls k3 ((gQ l0_2 x4_3).f1) true _ A26.out).mono ?_);rintro e w' ⟨rfl,⟨nd,rfl⟩⟩;(try first | exact ⟨rfl,_,World.drewN_drewN _ _ _⟩ | exact ⟨rfl,_,Eq.trans (World.drewN_drewN _ _ _) (congrArg (World.drewN _) (Nat.add_assoc _ _ _))⟩))))
          go_roundg k3
          case measure=>have:=HJ1.out;have:=HK2.out;have:=HK3.out;omega
          case rel=>exact ⟨(wrap64 (x4_3+1)),bE,H',⟨by have:=HJ1.out;have:=HK2.out;have:=HK3.out;omega⟩,⟨aK⟩,⟨aD⟩⟩
         replace c27:=Bool.eq_false_iff.mpr c27;subst c27;rw[if_neg (show ¬ (false=true) by decide)] at H;obtain rfl:=Option.some.inj H;have hcz29_0:wr.cell? ⟨gb114,0,none⟩=some (.slice A0_0 l0_0.length c0_0):=(dY BK114.out 0).trans rfl;have hcz29_1:wr.cell? ⟨gb114,1,none⟩=some (.slice A0_1 l0_1.length c0_1):=(dY BK114.out 1).trans rfl;have hcz29_2:wr.cell? ⟨gb114,2,none⟩=some (.slice A0_2 l0_2.length c0_2):=(dY BK114.out 2).trans rfl;have hcz29_3:wr.cell? ⟨gb114,3,none⟩=some (.slice A0_3 l0_3.length c0_3):=(dY BK114.out 3).trans rfl;have hfz29_0:=eC BK114.out 0;have hfz29_1:=eC BK114.out 1;have hfz29_2:=eC BK114.out 2;have hfz29_3:=eC BK114.out 3;have p120:0≤(x4_3:Int):=bV
         have q120:x4_3 < (l0_2.length:Int):=bV;obtain ⟨ad120,e120,hx120_0,hx120_1⟩:=kX HR0_2.out x4_3 p120 q120;cases e120;replace hx120_0:=(HB.out.cell (World.block_lt_of_cell? w _ hx120_0)).trans hx120_0;replace hx120_1:=(HB.out.cell (World.block_lt_of_cell? w _ hx120_1)).trans hx120_1;replace p120:=eq_true p120;replace q120:=eq_true q120
         go_wp2_with (first | (go_at_call 121;(with_reducible refine (eM.calls k3 ((gQ l0_2 x4_3).f0) true _ A24.out).mono ?_);rintro e w' ⟨rfl,⟨nd,rfl⟩⟩;(try first | exact ⟨rfl,_,World.drewN_drewN _ _ _⟩ | exact ⟨rfl,_,Eq.trans (World.drewN_drewN _ _ _) (congrArg (World.drewN _) (Nat.add_assoc _ _ _))⟩);have p122:0≤(x4_3:Int):=bV;have q122:x4_3 < (l0_2.length:Int):=bV;obtain ⟨ad122,e122,hx122_0,hx122_1⟩:=kX HR0_2.out x4_3 p122 q122;obtain rfl:ad120=ad122:=(by injection e122);replace hx122_0:=(HB.out.cell (World.block_lt_of_cell? w _ hx122_0)).trans hx122_0;replace hx122_1:=(HB.out.cell (World.block_lt_of_cell? w _ hx122_1)).trans hx122_1;replace p122:=eq_true p122;replace q122:=eq_true q122) | (go_at_call 121;(with_reducible refine (eM.calls k3 ((gQ l0_2 x4_3).f1) false _ A26.out).mono ?_);rintro e w' ⟨rfl,⟨nd,rfl⟩⟩;(try first | exact ⟨rfl,_,World.drewN_drewN _ _ _⟩ | exact ⟨rfl,_,Eq.trans (World.drewN_drewN _ _ _) (congrArg (World.drewN _) (Nat.add_assoc _ _ _))⟩)))
         repeat (go_quiet (first | (go_at_call 121;(with_reducible refine (eM.calls k3 ((gQ l0_2 x4_3).f0) true _ A24.out).mono ?_);rintro e w' ⟨rfl,⟨nd,rfl⟩⟩;(try first | exact ⟨rfl,_,World.drewN_drewN _ _ _⟩ | exact ⟨rfl,_,Eq.trans (World.drewN_drewN _ _ _) (congrArg (World.drewN _) (Nat.add_assoc _ _ _))⟩);have p122:0≤(x4_3:Int):=bV;have q122:x4_3 < (l0_2.length:Int):=bV;obtain ⟨ad122,e122,hx122_0,hx122_1⟩:=kX HR0_2.out x4_3 p122 q122;obtain rfl:ad120=ad122:=(by injection e122);replace hx122_0:=(HB.out.cell (World.block_lt_of_cell? w _ hx122_0)).trans hx122_0;replace hx122_1:=(HB.out.cell (World.block_lt_of_cell? w _ hx122_1)).trans hx122_1;replace p122:=eq_true p122;replace q122:=eq_true q122) | (go_at_call 121;(with_reducible refine (eM.calls k3 ((gQ l0_2 x4_3).f1) false _ A26.out).mono ?_);rintro e w' ⟨rfl,⟨nd,rfl⟩⟩;(try first | exact ⟨rfl,_,World.drewN_drewN _ _ _⟩ | exact ⟨rfl,_,Eq.trans (World.drewN_drewN _ _ _) (congrArg (World.drewN _) (Nat.add_assoc _ _ _))⟩)));try go_wp2_with (first | (go_at_call 121;(with_reducible refine (eM.calls k3 ((gQ l0_2 x4_3).f0) true _ A24.out).mono ?_);rintro e w' ⟨rfl,⟨nd,rfl⟩⟩;(try first | exact ⟨rfl,_,World.drewN_drewN _ _ _⟩ | exact ⟨rfl,_,Eq.trans (World.drewN_drewN _ _ _) (congrArg (World.drewN _) (Nat.add_assoc _ _ _))⟩);have p122:0≤(x4_3:Int):=bV;have q122:x4_3 < (l0_2.length:Int):=bV;obtain ⟨ad122,e122,hx122_0,hx122_1⟩:=kX HR0_2.out x4_3 p122 q122;obtain rfl:ad120=ad122:=(by injection e122);replace hx122_0:=(HB.out.cell (World.block_lt_of_cell? w _ hx122_0)).trans hx122_0;replace hx122_1:=(HB.out.cell (World.block_lt_of_cell? w _ hx122_1)).trans hx122_1;replace p122:=eq_true p122;replace q122:=eq_true q122) | (go_at_call 121;(with_reducible refine (eM.calls k3 ((gQ l0_2 x4_3).f1) false _ A26.out).mono ?_);rintro e w' ⟨rfl,⟨nd,rfl⟩⟩;(try first | exact ⟨rfl,_,World.drewN_drewN _ _ _⟩ | exact ⟨rfl,_,Eq.trans (World.drewN_drewN _ _ _) (congrArg (World.drewN _) (Nat.add_assoc _ _ _))⟩))))
         go_ret;exact ⟨aC,aD⟩
        replace c25:=Bool.eq_false_iff.mpr c25;subst c25;rw[if_neg (show ¬ (false=true) by decide)] at H;obtain rfl:=Option.some.inj H;have hcz30_0:wr.cell? ⟨gb114,0,none⟩=some (.slice A0_0 l0_0.length c0_0):=(dY BK114.out 0).trans rfl;have hcz30_1:wr.cell? ⟨gb114,1,none⟩=some (.slice A0_1 l0_1.length c0_1):=(dY BK114.out 1).trans rfl;have hcz30_2:wr.cell? ⟨gb114,2,none⟩=some (.slice A0_2 l0_2.length c0_2):=(dY BK114.out 2).trans rfl;have hcz30_3:wr.cell? ⟨gb114,3,none⟩=some (.slice A0_3 l0_3.length c0_3):=(dY BK114.out 3).trans rfl;have hfz30_0:=eC BK114.out 0;have hfz30_1:=eC BK114.out 1;have hfz30_2:=eC BK114.out 2;have hfz30_3:=eC BK114.out 3;have p120:0≤(x4_3:Int):=bV
        have q120:x4_3 < (l0_2.length:Int):=bV;obtain ⟨ad120,e120,hx120_0,hx120_1⟩:=kX HR0_2.out x4_3 p120 q120;cases e120;replace hx120_0:=(HB.out.cell (World.block_lt_of_cell? w _ hx120_0)).trans hx120_0;replace hx120_1:=(HB.out.cell (World.block_lt_of_cell? w _ hx120_1)).trans hx120_1;replace p120:=eq_true p120;replace q120:=eq_true q120
        go_wp2_with (first | (go_at_call 121;(with_reducible refine (eM.calls k3 ((gQ l0_2 x4_3).f0) false _ A24.out).mono ?_);rintro e w' ⟨rfl,⟨nd,rfl⟩⟩;(try first | exact ⟨rfl,_,World.drewN_drewN _ _ _⟩ | exact ⟨rfl,_,Eq.trans (World.drewN_drewN _ _ _) (congrArg (World.drewN _) (Nat.add_assoc _ _ _))⟩)))
        repeat (go_quiet (first | (go_at_call 121;(with_reducible refine (eM.calls k3 ((gQ l0_2 x4_3).f0) false _ A24.out).mono ?_);rintro e w' ⟨rfl,⟨nd,rfl⟩⟩;(try first | exact ⟨rfl,_,World.drewN_drewN _ _ _⟩ | exact ⟨rfl,_,Eq.trans (World.drewN_drewN _ _ _) (congrArg (World.drewN _) (Nat.add_assoc _ _ _))⟩)));try go_wp2_with (first | (go_at_call 121;(with_reducible refine (eM.calls k3 ((gQ l0_2 x4_3).f0) false _ A24.out).mono ?_);rintro e w' ⟨rfl,⟨nd,rfl⟩⟩;(try first | exact ⟨rfl,_,World.drewN_drewN _ _ _⟩ | exact ⟨rfl,_,Eq.trans (World.drewN_drewN _ _ _) (congrArg (World.drewN _) (Nat.add_assoc _ _ _))⟩))))
        go_ret;exact ⟨aC,aD⟩
       rw[if_neg c23] at H;exact absurd H bJ
      rw[if_neg c22] at H;have c22b0:=decide_eq_false c22;clear c22;obtain rfl:=Option.some.inj H;have hcz31_0:wr.cell? ⟨gb114,0,none⟩=some (.slice A0_0 l0_0.length c0_0):=(dY BK114.out 0).trans rfl;have hcz31_1:wr.cell? ⟨gb114,1,none⟩=some (.slice A0_1 l0_1.length c0_1):=(dY BK114.out 1).trans rfl;have hcz31_2:wr.cell? ⟨gb114,2,none⟩=some (.slice A0_2 l0_2.length c0_2):=(dY BK114.out 2).trans rfl;have hcz31_3:wr.cell? ⟨gb114,3,none⟩=some (.slice A0_3 l0_3.length c0_3):=(dY BK114.out 3).trans rfl;have hfz31_0:=eC BK114.out 0;have hfz31_1:=eC BK114.out 1;have hfz31_2:=eC BK114.out 2;have hfz31_3:=eC BK114.out 3;go_wp2
      repeat (go_quiet (fail);try go_wp2)
      go_ret;exact ⟨aC,aD⟩
def fJ.l0:Nat→ByteArray→ByteArray→Int→Option (Bool)
 | 0,_,_,_=>none
 | k+1,x0,x1,x5=>if (wrap64 (x5+(x1.size:Int)))≤(x0.size:Int) then (if 0≤x5 then (if x5≤(wrap64 (x5+(x1.size:Int))) then (if (x0.extract (x5:Int).toNat ((wrap64 (x5+(x1.size:Int))):Int).toNat).toList=x1.toList then (some true) else (fJ.l0 k x0 x1 (wrap64 (x5+1)))) else (none)) else (none)) else (some false)
def fJ.f (k:Nat) (a0:ByteArray) (a1:ByteArray):Option (Bool):=fJ.l0 k a0 a1 0
theorem fJ.mono_l:∀ k,(∀ y0 y1 y2,LeO (fJ.l0 k y0 y1 y2) (fJ.l0 (k+1) y0 y1 y2))
 | 0=>fun _ _ _ r h=>by simp[fJ.l0] at h
 | k+1=>by
  have ih0:=fJ.mono_l k
  intro y0 y1 y2;unfold fJ.l0
  exact cZ
theorem fJ.mono:∀ a0 a1 k,LeO (fJ.f k a0 a1) (fJ.f (k+1) a0 a1):=by
 intro a0 a1 k;have ih0:=fJ.mono_l k;unfold fJ.f
 exact cZ
theorem fJ.calls (k:Nat) (a0:ByteArray) (a1:ByteArray) (r:Bool) (w:World) (h:fJ.f k a0 a1=some r) :
 Calls Tryz.prog 57 #[.string a0,.string a1] w fun e w'=>e = .returned (.bool r)∧eV w w':=by
 unfold fJ.f at h;have H:=h;clear h;have H':=bW H;clear H;go_enter Tryz.func57,Tryz.ntmps57;go_wp2
 go_loopg [5] k (fun kq v5 w'=>∃ (x5_1:Int),v5 = .int .i64 x5_1∧Aside0 (fJ.l0 kq a0 a1 x5_1=some r)∧Aside0 (kq≤k)∧eV w w')
 case atStart=>exact ⟨(0),bE,H',⟨Nat.le_refl _⟩,dH⟩
 case round =>
  clear H'
  obtain ⟨x5_1,rfl,HA,HK1,⟨m1,rfl⟩⟩:=hrel
  cases gk with
  | zero=>exact absurd HA.out (by simp[fJ.l0])
  | succ k1 =>
   have H:=HA.out;clear HA;simp only[fJ.l0] at H
   by_cases c3:(wrap64 (x5_1+(a1.size:Int)))≤(a0.size:Int)
   ·rw[if_pos c3] at H;have c3b0:=decide_eq_true c3;clear c3
    by_cases c4:0≤x5_1
    ·rw[if_pos c4] at H;have c4b0:=eq_true c4;have c4b1:=decide_eq_true c4;clear c4
     by_cases c5:x5_1≤(wrap64 (x5_1+(a1.size:Int)))
     ·rw[if_pos c5] at H;have c5b0:=eq_true c5;have c5b1:=decide_eq_true c5;have c6b0:=eq_true (bV:(wrap64 (x5_1+(a1.size:Int)))≤(a0.size:Int))
      by_cases c7:(a0.extract (x5_1:Int).toNat ((wrap64 (x5_1+(a1.size:Int))):Int).toNat).toList=a1.toList
      ·rw[if_pos c7] at H;have c7b0:=beq_iff_eq.mpr c7;have c7b1:=bne_eq_false_iff_eq.mpr c7;clear c7;obtain rfl:=Option.some.inj H;go_wp2;go_ret;exact ⟨bE,dH⟩
      rw[if_neg c7] at H;have c7b0:=beq_eq_false_iff_ne.mpr c7;have c7b1:=bne_iff_ne.mpr c7;have H':=bW H;clear H;go_wp2
      go_roundg k1
      case measure=>have:=HK1.out;omega
      case rel=>exact ⟨(wrap64 (x5_1+1)),bE,H',⟨aW⟩,dH⟩
     rw[if_neg c5] at H;exact absurd H bJ
    rw[if_neg c4] at H;exact absurd H bJ
   rw[if_neg c3] at H;have c3b0:=decide_eq_false c3;clear c3;obtain rfl:=Option.some.inj H;go_wp2;go_ret;exact ⟨bE,dH⟩
def fJ.Pure:Prop:=∀ (a0:ByteArray) (a1:ByteArray),a0.size≤140737488351232→a1.size≤140737488351232→∃ k,fJ.f k a0 a1=some true
theorem fJ.walk (P:fJ.Pure) (a0:ByteArray) (a1:ByteArray) (w:World) (w0:a0.size≤140737488351232) (w1:a1.size≤140737488351232) :
 Calls Tryz.prog 57 #[.string a0,.string a1] w fun e w'=>e = .returned (.bool true)∧Below w.heap.size w w':=by
 obtain ⟨k,h⟩:=P a0 a1 w0 w1;refine (fJ.calls k a0 a1 true w h).mono ?_;rintro e w' ⟨rfl,hd⟩;exact ⟨rfl,hd.below⟩
end Go.Proofs.YtlkoeeccebmjmaaGreatDoor.PCore
namespace Go.Proofs.YtlkoeeccebmjmaaGreatDoor.PCore
open Go.RowKit Go.ZW.PrintWords Go.ZW.PrintLast Go.ZW.PrintMore
attribute [local go_sem] lD lF mD mE kR kS lE lG   -- for this text's walks alone
mutual
def eG.l0:Nat→ByteArray→List Int→Int→Option (List Int)
 | 0,_,_,_=>none
 | k+1,x0,x3,x4=>if x4 < (x0.size:Int) then (if 0≤x4 then (if (bt x0 x4)=46 then (if x3.length < 17592186044416 then ((some (x3++[x4]:List Int)).bind fun y124=>(if (wrap64 (x4+1))=(x0.size:Int) then (eG.j1 k x0 y124 x4 true) else (if 0≤(wrap64 (x4+1)) then (if (wrap64 (x4+1)) < (x0.size:Int) then (eG.j1 k x0 y124 x4 ((bt x0 (wrap64 (x4+1))) != 95)) else (none)) else (none)))) else (none)) else (eG.l0 k x0 x3 (wrap64 (x4+1)))) else (none)) else (some x3)
def eG.j1:Nat→ByteArray→List Int→Int→Bool→Option (List Int)
 | 0,_,_,_,_=>none
 | k+1,x0,x3,x4,x31=>if x31=true then (eG.l0 k x0 x3 (wrap64 (x4+1))) else (eG.l1 k x0 x3 x4 (wrap64 (x4+2)))
def eG.l1:Nat→ByteArray→List Int→Int→Int→Option (List Int)
 | 0,_,_,_,_=>none
 | k+1,x0,x3,x4,x5=>if x5 < (x0.size:Int) then (if 0≤x5 then (if (bt x0 x5)=95 then (if (wrap64 (x5+1))=(x0.size:Int) then (eG.l0 k x0 x3 (wrap64 (x5+1))) else (if 0≤(wrap64 (x5+1)) then (if (wrap64 (x5+1)) < (x0.size:Int) then (if (bt x0 (wrap64 (x5+1)))=46 then (eG.l0 k x0 x3 (wrap64 (x5+1))) else (eG.l1 k x0 x3 x4 (wrap64 (x5+1)))) else (none)) else (none))) else (eG.l1 k x0 x3 x4 (wrap64 (x5+1)))) else (none)) else (eG.l0 k x0 x3 (wrap64 (x4+1)))
end
def eG.f (k:Nat) (a0:ByteArray):Option (List Int):=eG.l0 k a0 ([]:List Int) 0
theorem eG.mono_l:∀ k,(∀ y0 y1 y2,LeO (eG.l0 k y0 y1 y2) (eG.l0 (k+1) y0 y1 y2))∧(∀ y0 y1 y2 y3,LeO (eG.j1 k y0 y1 y2 y3) (eG.j1 (k+1) y0 y1 y2 y3))∧(∀ y0 y1 y2 y3,LeO (eG.l1 k y0 y1 y2 y3) (eG.l1 (k+1) y0 y1 y2 y3))
 | 0=>⟨fun _ _ _ r h=>by simp[eG.l0] at h,fun _ _ _ _ r h=>by simp[eG.j1] at h,fun _ _ _ _ r h=>by simp[eG.l1] at h⟩
 | k+1=>by
  obtain ⟨ih0,ih1,ih2⟩:=eG.mono_l k;refine ⟨?_,?_,?_⟩
  ·intro y0 y1 y2;unfold eG.l0
   exact dC
  ·intro y0 y1 y2 y3;unfold eG.j1
   exact dC
  intro y0 y1 y2 y3;unfold eG.l1
  exact dC
theorem eG.mono:∀ a0 k,LeO (eG.f k a0) (eG.f (k+1) a0):=by
 intro a0 k;obtain ⟨ih0,ih1,ih2⟩:=eG.mono_l k;unfold eG.f
 exact dC
theorem eG.calls (k:Nat) (a0:ByteArray) (r:List Int) (w:World) (h:eG.f k a0=some r) :
 Calls Tryz.prog 110 #[.string a0] w fun e w'=>∃ v0_:Value,e = .returned (v0_)∧Kd.R (Kd.int .i64) 3 w' w.heap.size (fun _=>True) v0_ r∧Below w.heap.size w w':=by
 have HB:=bW (Below.refl w.heap.size w);unfold eG.f at h;have H:=h;clear h;have H':=bW H;clear H;go_enter Tryz.func110,Tryz.ntmps110;go_wp2
 go_loopg [3,4] k (fun kq v3 v4 w'=>∃ (x3_1:List Int) (x4_1:Int),v4 = .int .i64 x4_1∧Aside0 (eG.l0 kq a0 x3_1 x4_1=some r)∧Aside0 (kq≤k)∧Aside0 (Kd.R (Kd.int .i64) 3 w' w.heap.size (fun _=>True) v3 x3_1)∧Aside0 (Below w.heap.size w w'))
 case atStart=>exact ⟨(([]:List Int)),(0),bE,H',⟨Nat.le_refl _⟩,⟨by first | exact Kd.R_nil _ _ _ _ _ | exact Kd.N_nil _ _ _ _ _ | exact Kd.V_nil _ _ _ _ _ | exact Kd.Q_nil _ _ _ _ _ | exact Kd.S_nil _ _ _ _ _⟩,⟨aA⟩⟩
 case round =>
  clear H'
  obtain ⟨x3_1,x4_1,rfl,HA,HK1,HO_3,HB⟩:=hrel
  cases gk with
  | zero=>exact absurd HA.out (by simp[eG.l0])
  | succ k1 =>
   have H:=HA.out;clear HA;simp only[eG.l0] at H
   by_cases c2:x4_1 < (a0.size:Int)
   ·rw[if_pos c2] at H;have c2b0:=decide_eq_true c2;clear c2
    by_cases c3:0≤x4_1
    ·rw[if_pos c3] at H;have c3b0:=decide_eq_true c3;clear c3
     by_cases c5:(bt a0 x4_1)=46
     ·rw[if_pos c5] at H;have c5b0:=beq_iff_eq.mpr c5;have c5b1:=bne_eq_false_iff_eq.mpr c5;clear c5
      by_cases c6:x3_1.length < 17592186044416
      ·rw[if_pos c6] at H;have LMc6:=bW c6;clear c6
       obtain ⟨y124,hy124⟩:∃ y_:List Int,y_=(x3_1++[x4_1]):=⟨_,rfl⟩
       replace H:(if (wrap64 (x4_1+1))=(a0.size:Int) then (eG.j1 k1 a0 y124 x4_1 true) else (if 0≤(wrap64 (x4_1+1)) then (if (wrap64 (x4_1+1)) < (a0.size:Int) then (eG.j1 k1 a0 y124 x4_1 ((bt a0 (wrap64 (x4_1+1))) != 95)) else (none)) else (none)))=some r:=by first | (rw[hy124];with_reducible exact H) | (have H2_:=(Option.bind_some _ _).symm.trans H;rw[hy124];with_reducible exact H2_) | (have H2_:=(Option.bind_some _ _).symm.trans H;with_reducible exact H2_) | with_reducible exact H | (rw[hy124];exact H) | exact H
       have Ny124:=bW hy124;clear hy124;have HC7:=bW H;clear H;have p4:0≤(x4_1:Int):=bV;have q4:x4_1 < (a0.size:Int):=bV;have hx4:=fN a0 x4_1;replace p4:=eq_true p4;replace q4:=eq_true q4
       go_upto_region 7 with (first | ((with_reducible refine nY (b:=.append) (xs:=#[.tmp 16,.tmp 18]) rfl ?_);(try (refine iU bH ?_;dsimp only));at_builtin;refine Kd.R_append (Kd.int .i64) (w0:=w) w.heap.size rfl (.tmp 16) (.tmp 18) 76 3 (.int .i64 0) 8 rfl Tryz.underlying76 info3 rfl bF bA u3 x3_1 x4_1 [.int .i64 x4_1] (fun _=>True) (fun _=>False) rfl rfl ?aP (fun _ hk=>hk.elim) ?aF ?aO ?aB ?aS ?aL ?_;(case aP=>exact rfl);(case aB=>exact bC);(case aF=>exact (fun _ _=>trivial));(case aO=>exact bO);(case aS=>exact (eJ bC));(case aL=>have:=LMc6.out;omega);intro v125 w8 ho hb hg hat;rw[← Ny124.out] at ho;have n0_:=bW (hb);have n1_:=bW (ho);clear HB;clear HO_3;have HB:=n0_;have HO126:=n1_;clear n0_ n1_;clear ho hb hg hat))
       (try simp only[Act.put,List.setIfInBounds_toArray,List.set_cons_zero,List.set_cons_succ])
       go_cut [31] (fun v31 wc=>∃ (kq:Nat) (x31_6:Bool),v31 = .bool x31_6∧Aside0 (eG.j1 kq a0 y124 x4_1 x31_6=some r)∧Aside0 (kq≤k1)∧Aside0 (Kd.R (Kd.int .i64) 3 wc w.heap.size (fun _=>True) v125 y124)∧Aside0 (Below w.heap.size w wc))
       case first =>
        have H:=HC7.out;clear HC7
        by_cases c9:(wrap64 (x4_1+1))=(a0.size:Int)
        ·rw[if_pos c9] at H;have c9b0:=beq_iff_eq.mpr c9;have c9b1:=bne_eq_false_iff_eq.mpr c9;clear c9
         (first | rw[c9b0] | (simp only[gU,iG];rw[c9b0]) | skip)
         have H':=bW H;clear H;go_wp2
         go_meet
         case rel=>exact ⟨_,(true),bE,H',⟨dT⟩,⟨by (with_reducible repeat (first | apply Kd.R_alloc | apply Kd.R_drewN | apply Kd.R_drew));exact HO126.out⟩,⟨aA⟩⟩
        rw[if_neg c9] at H;have c9b0:=beq_eq_false_iff_ne.mpr c9;have c9b1:=bne_iff_ne.mpr c9
        (first | rw[c9b0] | (simp only[gU,iG];rw[c9b0]) | skip)
        obtain ⟨ji10,hji10⟩:∃ j_:Int,(wrap64 (x4_1+1))=j_:=⟨_,rfl⟩
        replace H:(if 0≤(ji10) then (if (ji10) < (a0.size:Int) then (eG.j1 k1 a0 y124 x4_1 ((bt a0 (ji10)) != 95)) else (none)) else (none))=some r:=by first | (rw[hji10] at H;exact H) | (simp only[hji10] at H ⊢;exact H)
        (try rw[hji10] at c9b0)
        (try rw[hji10] at c9b1)
        have hji10w:(IntKind.i64.wrap (x4_1+1))=ji10:=(gU _).trans hji10
        by_cases c11:0≤(ji10)
        ·rw[if_pos c11] at H;have c11b0:=decide_eq_true c11;clear c11
         by_cases c12:(ji10) < (a0.size:Int)
         ·rw[if_pos c12] at H;have c12b0:=decide_eq_true c12;clear c12;have H':=bW H;clear H;have p13:0≤((ji10):Int):=bV;have q13:(ji10) < (a0.size:Int):=bV;have hx13:=fN a0 (ji10);replace p13:=eq_true p13;replace q13:=eq_true q13;go_wp2
          go_meet
          case rel=>exact ⟨_,(((bt a0 (ji10)) != 95)),(by first | rfl | (simp;done) | (simp only[← hji10] <;> (first | rfl | simp)) | (simp[*];done)),H',⟨dT⟩,⟨by (with_reducible repeat (first | apply Kd.R_alloc | apply Kd.R_drewN | apply Kd.R_drew));exact HO126.out⟩,⟨aA⟩⟩
         rw[if_neg c12] at H;exact absurd H bJ
        rw[if_neg c11] at H;exact absurd H bJ
       clear HC7
       (try clear c2);(try clear c2b0);(try clear c3);(try clear c3b0);(try clear p4);(try clear q4);(try clear hx4);(try clear c5);(try clear c5b0);(try clear c5b1);(try clear c6);(try clear p4);(try clear q4)
       obtain ⟨kq,x31_6,rfl,HA,HJ6,HO_3,HB⟩:=hcut
       cases kq with
       | zero=>exact absurd HA.out (by simp[eG.j1])
       | succ kj6 =>
        have H:=HA.out;clear HA;simp only[eG.j1] at H
        by_cases c14:x31_6=true
        ·subst c14;rw[if_pos rfl] at H;have H':=bW H;clear H;go_wp2
         go_roundg kj6
         case measure=>have:=HK1.out;have:=HJ6.out;omega
         case rel=>exact ⟨(y124),(wrap64 (x4_1+1)),bE,H',⟨by have:=HK1.out;have:=HJ6.out;omega⟩,⟨aI⟩,⟨aA⟩⟩
        replace c14:=Bool.eq_false_iff.mpr c14;subst c14;rw[if_neg (show ¬ (false=true) by decide)] at H;have H':=bW H;clear H;go_wp2
        go_loopg [4,5] kj6 (fun kq v4 v5 w'=>∃ (x4_3:Int) (x5_3:Int),v4 = .int .i64 x4_3∧v5 = .int .i64 x5_3∧Aside0 (eG.l1 kq a0 y124 x4_3 x5_3=some r)∧Aside0 (kq≤kj6)∧Aside0 (Kd.R (Kd.int .i64) 3 w' w.heap.size (fun _=>True) v125 y124)∧Aside0 (Below w.heap.size w w'))
        case atStart=>exact ⟨(x4_1),(wrap64 (x4_1+2)),bE,bE,H',⟨Nat.le_refl _⟩,⟨aI⟩,⟨aA⟩⟩
        case round =>
         clear H'
         (try clear c2);(try clear c2b0);(try clear c3);(try clear c3b0);(try clear p4);(try clear q4);(try clear hx4);(try clear c5);(try clear c5b0);(try clear c5b1);(try clear c6);(try clear c14);(try clear p4);(try clear q4)
         obtain ⟨x4_3,x5_3,rfl,rfl,HA,HK3,HO_3,HB⟩:=hrel
         cases gk with
         | zero=>exact absurd HA.out (by simp[eG.l1])
         | succ k3 =>
          have H:=HA.out;clear HA;simp only[eG.l1] at H
          by_cases c15:x5_3 < (a0.size:Int)
          ·rw[if_pos c15] at H;have c15b0:=decide_eq_true c15;clear c15
           by_cases c16:0≤x5_3
           ·rw[if_pos c16] at H;have c16b0:=decide_eq_true c16;clear c16
            by_cases c18:(bt a0 x5_3)=95
            ·rw[if_pos c18] at H;have c18b0:=beq_iff_eq.mpr c18;have c18b1:=bne_eq_false_iff_eq.mpr c18;clear c18
             by_cases c19:(wrap64 (x5_3+1))=(a0.size:Int)
             ·rw[if_pos c19] at H;have c19b0:=beq_iff_eq.mpr c19;have c19b1:=bne_eq_false_iff_eq.mpr c19;clear c19;have H':=bW H;clear H;have p17:0≤(x5_3:Int):=bV;have q17:x5_3 < (a0.size:Int):=bV;have hx17:=fN a0 x5_3;replace p17:=eq_true p17;replace q17:=eq_true q17;go_wp2
              go_roundg k3
              case measure=>have:=HK1.out;have:=HJ6.out;have:=HK3.out;omega
              case rel=>exact ⟨(y124),(wrap64 (x5_3+1)),bE,H',⟨dU⟩,⟨aI⟩,⟨aA⟩⟩
             rw[if_neg c19] at H;have c19b0:=beq_eq_false_iff_ne.mpr c19;have c19b1:=bne_iff_ne.mpr c19
             obtain ⟨ji20,hji20⟩:∃ j_:Int,(wrap64 (x5_3+1))=j_:=⟨_,rfl⟩
             replace H:(if 0≤(ji20) then (if (ji20) < (a0.size:Int) then (if (bt a0 (ji20))=46 then (eG.l0 k3 a0 y124 ji20) else (eG.l1 k3 a0 y124 x4_3 ji20)) else (none)) else (none))=some r:=by first | (rw[hji20] at H;exact H) | (simp only[hji20] at H ⊢;exact H)
             (try rw[hji20] at c19b0)
             (try rw[hji20] at c19b1)
             have hji20w:(IntKind.i64.wrap (x5_3+1))=ji20:=(gU _).trans hji20
             by_cases c21:0≤(ji20)
             ·rw[if_pos c21] at H;have c21b0:=decide_eq_true c21;clear c21
              by_cases c22:(ji20) < (a0.size:Int)
              ·rw[if_pos c22] at H;have c22b0:=decide_eq_true c22;clear c22
               by_cases c24:(bt a0 (ji20))=46
               ·rw[if_pos c24] at H;have c24b0:=beq_iff_eq.mpr c24;have c24b1:=bne_eq_false_iff_eq.mpr c24;clear c24;have H':=bW H;clear H;have p17:0≤(x5_3:Int):=bV;have q17:x5_3 < (a0.size:Int):=bV;have hx17:=fN a0 x5_3;replace p17:=eq_true p17;replace q17:=eq_true q17;have p23:0≤((ji20):Int):=bV;have q23:(ji20) < (a0.size:Int):=bV;have hx23:=fN a0 (ji20);replace p23:=eq_true p23;replace q23:=eq_true q23;go_wp2
                go_roundg k3
                case measure=>have:=HK1.out;have:=HJ6.out;have:=HK3.out;omega
                case rel=>exact ⟨(y124),(ji20),(by first | rfl | (simp;done) | (simp only[← hji20] <;> (first | rfl | simp)) | (simp[*];done)),H',⟨dU⟩,⟨aI⟩,⟨aA⟩⟩
               rw[if_neg c24] at H;have c24b0:=beq_eq_false_iff_ne.mpr c24;have c24b1:=bne_iff_ne.mpr c24;have H':=bW H;clear H;have p17:0≤(x5_3:Int):=bV;have q17:x5_3 < (a0.size:Int):=bV;have hx17:=fN a0 x5_3;replace p17:=eq_true p17;replace q17:=eq_true q17;have p23:0≤((ji20):Int):=bV;have q23:(ji20) < (a0.size:Int):=bV;have hx23:=fN a0 (ji20);replace p23:=eq_true p23;replace q23:=eq_true q23;go_wp2
               go_roundg k3
               case measure=>have:=HK1.out;have:=HJ6.out;have:=HK3.out;omega
               case rel=>exact ⟨(x4_3),(ji20),bE,(by first | rfl | (simp;done) | (simp only[← hji20] <;> (first | rfl | simp)) | (simp[*];done)),H',⟨dU⟩,⟨aI⟩,⟨aA⟩⟩
              rw[if_neg c22] at H;exact absurd H bJ
             rw[if_neg c21] at H;exact absurd H bJ
            rw[if_neg c18] at H;have c18b0:=beq_eq_false_iff_ne.mpr c18;have c18b1:=bne_iff_ne.mpr c18;have H':=bW H;clear H;have p17:0≤(x5_3:Int):=bV;have q17:x5_3 < (a0.size:Int):=bV;have hx17:=fN a0 x5_3;replace p17:=eq_true p17;replace q17:=eq_true q17;go_wp2
            go_roundg k3
            case measure=>have:=HK1.out;have:=HJ6.out;have:=HK3.out;omega
            case rel=>exact ⟨(x4_3),(wrap64 (x5_3+1)),bE,bE,H',⟨dU⟩,⟨aI⟩,⟨aA⟩⟩
           rw[if_neg c16] at H;exact absurd H bJ
          rw[if_neg c15] at H;have c15b0:=decide_eq_false c15;clear c15;have H':=bW H;clear H;go_wp2
          go_roundg k3
          case measure=>have:=HK1.out;have:=HJ6.out;have:=HK3.out;omega
          case rel=>exact ⟨(y124),(wrap64 (x4_3+1)),bE,H',⟨dU⟩,⟨aI⟩,⟨aA⟩⟩
      rw[if_neg c6] at H;exact absurd H bJ
     rw[if_neg c5] at H;have c5b0:=beq_eq_false_iff_ne.mpr c5;have c5b1:=bne_iff_ne.mpr c5;have H':=bW H;clear H;have p4:0≤(x4_1:Int):=bV;have q4:x4_1 < (a0.size:Int):=bV;have hx4:=fN a0 x4_1;replace p4:=eq_true p4;replace q4:=eq_true q4;go_wp2
     go_roundg k1
     case measure=>have:=HK1.out;omega
     case rel=>exact ⟨(x3_1),(wrap64 (x4_1+1)),bE,H',⟨aW⟩,⟨aI⟩,⟨aA⟩⟩
    rw[if_neg c3] at H;exact absurd H bJ
   rw[if_neg c2] at H;have c2b0:=decide_eq_false c2;clear c2;obtain rfl:=Option.some.inj H;go_wp2;go_ret;exact ⟨_,aC,aI,aA⟩
def jN.f (a0:ByteArray):Option (ByteArray×Bool):=if (a0.size:Int) < 3 then (some ((⟨#[]⟩:ByteArray),false)) else (if 0 < (a0.size:Int) then (if (bt a0 0)=95 then (if 0≤(wrap64 ((a0.size:Int) - 1)) then (if (wrap64 ((a0.size:Int) - 1)) < (a0.size:Int) then (if (bt a0 (wrap64 ((a0.size:Int) - 1)))=95 then (if 1≤(wrap64 ((a0.size:Int) - 1)) then (if (wrap64 ((a0.size:Int) - 1))≤(a0.size:Int) then (some (a0.extract 1 ((wrap64 ((a0.size:Int) - 1)):Int).toNat,true)) else (none)) else (none)) else (some ((⟨#[]⟩:ByteArray),false))) else (none)) else (none)) else (some ((⟨#[]⟩:ByteArray),false))) else (none))
theorem jN.calls (a0:ByteArray) (r1:ByteArray) (r2:Bool) (w:World) (h:jN.f a0=some (r1,r2)) :
 Calls Tryz.prog 111 #[.string a0] w fun e w'=>e = .returned (.tuple #[.string r1,.bool r2])∧eV w w':=by
 unfold jN.f at h;have H:=h;clear h
 by_cases c2:(a0.size:Int) < 3
 ·rw[if_pos c2] at H;have c2b0:=decide_eq_true c2;have c2b1:decide (a0.size < 3)=true:=decide_eq_true bA;clear c2;simp only[Option.some.injEq,Prod.mk.injEq] at H;obtain ⟨rfl,rfl⟩:=H;go_enter Tryz.func111,Tryz.ntmps111;go_wp2
  go_ret2
  exact ⟨bE,dH⟩
 rw[if_neg c2] at H;have c2b0:=decide_eq_false c2;have c2b1:decide (a0.size < 3)=false:=decide_eq_false bA;clear c2
 by_cases c3:0 < (a0.size:Int)
 ·rw[if_pos c3] at H;have c3b0:=decide_eq_true c3;have c3b1:decide (0 < a0.size)=true:=decide_eq_true bA;clear c3
  by_cases c5:(bt a0 0)=95
  ·rw[if_pos c5] at H;have c5b0:=beq_iff_eq.mpr c5;have c5b1:=bne_eq_false_iff_eq.mpr c5;clear c5
   obtain ⟨ji6,hji6⟩:∃ j_:Int,(wrap64 ((a0.size:Int) - 1))=j_:=⟨_,rfl⟩
   replace H:(if 0≤(ji6) then (if (ji6) < (a0.size:Int) then (if (bt a0 (ji6))=95 then (if 1≤(ji6) then (if (ji6)≤(a0.size:Int) then (some (a0.extract 1 ((ji6):Int).toNat,true)) else (none)) else (none)) else (some ((⟨#[]⟩:ByteArray),false))) else (none)) else (none))=some (r1,r2):=by first | (rw[hji6] at H;exact H) | (simp only[hji6] at H ⊢;exact H)
   have hji6w:(IntKind.i64.wrap ((a0.size:Int) - 1))=ji6:=(gU _).trans hji6
   by_cases c7:0≤(ji6)
   ·rw[if_pos c7] at H;have c7b0:=decide_eq_true c7;clear c7
    by_cases c8:(ji6) < (a0.size:Int)
    ·rw[if_pos c8] at H;have c8b0:=decide_eq_true c8;clear c8
     by_cases c10:(bt a0 (ji6))=95
     ·rw[if_pos c10] at H;have c10b0:=beq_iff_eq.mpr c10;have c10b1:=bne_eq_false_iff_eq.mpr c10;clear c10
      by_cases c11:1≤(ji6)
      ·rw[if_pos c11] at H;have c11b0:=eq_true c11;have c11b1:=decide_eq_true c11;clear c11
       by_cases c12:(ji6)≤(a0.size:Int)
       ·rw[if_pos c12] at H;have c12b0:=eq_true c12;have c12b1:=decide_eq_true c12;clear c12;simp only[Option.some.injEq,Prod.mk.injEq] at H;obtain ⟨rfl,rfl⟩:=H
        have p4:0≤(0:Int):=bA
        have q4:0 < a0.size:=(by have:(0:Int) < (a0.size:Int):=bV;omega)
        have hx4:∀ h:0 < a0.size,((a0[0]'h).toNat:Int)=bt a0 0:=fN a0 0;clear p4;have qi4:(0 < (a0.size:Int))=True:=eq_true (bV);replace q4:=eq_true q4;have p9:0≤((ji6):Int):=bV;have q9:(ji6) < (a0.size:Int):=bV;have hx9:=fN a0 (ji6);replace p9:=eq_true p9;replace q9:=eq_true q9;go_enter Tryz.func111,Tryz.ntmps111;go_wp2
        go_ret2
        exact ⟨by first | rfl | (simp;done) | (simp only[← hji6] <;> (first | rfl | simp)) | (simp[*];done),dH⟩
       rw[if_neg c12] at H;exact absurd H bJ
      rw[if_neg c11] at H;exact absurd H bJ
     rw[if_neg c10] at H;have c10b0:=beq_eq_false_iff_ne.mpr c10;have c10b1:=bne_iff_ne.mpr c10;simp only[Option.some.injEq,Prod.mk.injEq] at H;obtain ⟨rfl,rfl⟩:=H
     have p4:0≤(0:Int):=bA
     have q4:0 < a0.size:=(by have:(0:Int) < (a0.size:Int):=bV;omega)
     have hx4:∀ h:0 < a0.size,((a0[0]'h).toNat:Int)=bt a0 0:=fN a0 0;clear p4;have qi4:(0 < (a0.size:Int))=True:=eq_true (bV);replace q4:=eq_true q4;have p9:0≤((ji6):Int):=bV;have q9:(ji6) < (a0.size:Int):=bV;have hx9:=fN a0 (ji6);replace p9:=eq_true p9;replace q9:=eq_true q9;go_enter Tryz.func111,Tryz.ntmps111;go_wp2
     go_ret2
     exact ⟨by first | rfl | (simp;done) | (simp only[← hji6] <;> (first | rfl | simp)) | (simp[*];done),dH⟩
    rw[if_neg c8] at H;exact absurd H bJ
   rw[if_neg c7] at H;exact absurd H bJ
  rw[if_neg c5] at H;have c5b0:=beq_eq_false_iff_ne.mpr c5;have c5b1:=bne_iff_ne.mpr c5;simp only[Option.some.injEq,Prod.mk.injEq] at H;obtain ⟨rfl,rfl⟩:=H
  have p4:0≤(0:Int):=bA
  have q4:0 < a0.size:=(by have:(0:Int) < (a0.size:Int):=bV;omega)
  have hx4:∀ h:0 < a0.size,((a0[0]'h).toNat:Int)=bt a0 0:=fN a0 0;clear p4;have qi4:(0 < (a0.size:Int))=True:=eq_true (bV);replace q4:=eq_true q4;go_enter Tryz.func111,Tryz.ntmps111;go_wp2
  go_ret2
  exact ⟨bE,dH⟩
 rw[if_neg c3] at H;exact absurd H bJ
def iJ.f (a0:ByteArray) (a1:ByteArray):Option (Bool):=if (a0.size:Int)≥(a1.size:Int) then (if 0≤(a1.size:Int) then (if (a1.size:Int)≤(a0.size:Int) then (some ((a0.extract 0 ((a1.size:Int):Int).toNat).toList==a1.toList)) else (none)) else (none)) else (some false)
theorem iJ.calls (a0:ByteArray) (a1:ByteArray) (r:Bool) (w:World) (h:iJ.f a0 a1=some r) :
 Calls Tryz.prog 122 #[.string a0,.string a1] w fun e w'=>e = .returned (.bool r)∧eV w w':=by
 unfold iJ.f at h;have H:=h;clear h
 by_cases c3:(a0.size:Int)≥(a1.size:Int)
 ·rw[if_pos c3] at H;have c3b0:=decide_eq_true c3;have c3b1:decide (a1.size≤a0.size)=true:=decide_eq_true (Int.ofNat_le.mp c3);clear c3
  by_cases c4:0≤(a1.size:Int)
  ·rw[if_pos c4] at H;have c4b0:=eq_true c4;have c4b1:=decide_eq_true c4;clear c4
   by_cases c5:(a1.size:Int)≤(a0.size:Int)
   ·rw[if_pos c5] at H;have c5b0:=eq_true c5;have c5b1:=decide_eq_true c5;clear c5;obtain rfl:=Option.some.inj H;go_enter Tryz.func122,Tryz.ntmps122;go_wp2;go_ret;exact ⟨bE,dH⟩
   rw[if_neg c5] at H;exact absurd H bJ
  rw[if_neg c4] at H;exact absurd H bJ
 rw[if_neg c3] at H;have c3b0:=decide_eq_false c3;have c3b1:decide (a1.size≤a0.size)=false:=decide_eq_false (fun h=>c3 (Int.ofNat_le.mpr h));clear c3;obtain rfl:=Option.some.inj H;go_enter Tryz.func122,Tryz.ntmps122;go_wp2;go_ret;exact ⟨bE,dH⟩
def iJ.Pure:Prop:=∀ (a0:ByteArray) (a1:ByteArray),a0.size≤140737488351232→a1.size≤140737488351232→iJ.f a0 a1=some true
theorem iJ.walk (P:iJ.Pure) (a0:ByteArray) (a1:ByteArray) (w:World) (w0:a0.size≤140737488351232) (w1:a1.size≤140737488351232) :
 Calls Tryz.prog 122 #[.string a0,.string a1] w fun e w'=>e = .returned (.bool true)∧Below w.heap.size w w':=by
 have h:=P a0 a1 w0 w1;refine (iJ.calls a0 a1 true w h).mono ?_;rintro e w' ⟨rfl,hd⟩;exact ⟨rfl,hd.below⟩
def iI.f (a0:ByteArray):Option ByteArray:=if a0.size≤140737488355328 then some (Go.Proofs.YtlkoeeccebmjmaaGreatDoor.Lower.low a0) else none
theorem iI.calls (a0:ByteArray) (r:ByteArray) (w:World) (h:iI.f a0=some r) :
 Calls Tryz.prog 123 #[.string a0] w fun e w'=>e = .returned (.string r)∧Below w.heap.size w w':=by
 unfold iI.f at h;split at h
 ·rename_i hs
  cases h;exact Go.Proofs.YtlkoeeccebmjmaaGreatDoor.Lower.lower_calls a0 w hs
 cases h
end Go.Proofs.YtlkoeeccebmjmaaGreatDoor.PCore
