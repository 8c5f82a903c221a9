/- Texts that the law leans on: PCorex5. Condition: as told at each. -/
import Derived.Test.YtlkoeeccebmjmaaGreatDoorXa
import Derived.Test.YtlkoeeccebmjmaaGreatDoorX8
set_option linter.unusedVariables false
set_option linter.unusedSimpArgs false
set_option maxRecDepth 100000
set_option maxHeartbeats 16000000
namespace Go.Proofs.YtlkoeeccebmjmaaGreatDoor.PCore
open Go.RowKit Go.ZW.PrintWords Go.ZW.PrintLast Go.ZW.PrintMore
attribute [local go_sem] lD lF mD mE kR kS lE lG   -- for this text's walks alone
mutual
def eB.j0:Nat→ByteArray→ByteArray→List Int→Bool→Option (Bool)
 | 0,_,_,_,_=>none
 | k+1,x0,x1,x5,x53=>if x53=true then (some false) else (eB.l0 k x0 x1 x5 ([]:List ByteArray) 0 0)
def eB.l0:Nat→ByteArray→ByteArray→List Int→List ByteArray→Int→Int→Option (Bool)
 | 0,_,_,_,_,_,_=>none
 | k+1,x0,x1,x5,x8,x9,x10=>if x10≤(x5.length:Int) then (eB.j2 k x0 x1 x5 x8 x9 x10 (x0.toList==([108,97,121,111,117,116,115]:List UInt8))) else (eB.j2 k x0 x1 x5 x8 x9 x10 false)
def eB.j2:Nat→ByteArray→ByteArray→List Int→List ByteArray→Int→Int→Bool→Option (Bool)
 | 0,_,_,_,_,_,_,_=>none
 | k+1,x0,x1,x5,x8,x9,x10,x61=>if x61=true then (if x10 < (x5.length:Int) then (if 0≤x10 then (eB.j3 k x0 x1 x5 x8 x9 x10 (rd x5 x10)) else (none)) else (eB.j3 k x0 x1 x5 x8 x9 x10 (x1.size:Int))) else (some true)
def eB.j3:Nat→ByteArray→ByteArray→List Int→List ByteArray→Int→Int→Int→Option (Bool)
 | 0,_,_,_,_,_,_,_=>none
 | k+1,x0,x1,x5,x8,x9,x10,x11=>if 0≤x9 then (if x9≤x11 then (if x11≤(x1.size:Int) then (if (x1.extract (x9:Int).toNat (x11:Int).toNat).toList=([]:List UInt8) then (some false) else ((jN.f (x1.extract (x9:Int).toNat (x11:Int).toNat)).bind fun bt136=>((some (([(⟨#[111,117,116,112,117,116,102,111,114,109,97,116,95]⟩:ByteArray),(⟨#[107,105,110,100,95]⟩:ByteArray),(⟨#[108,97,121,111,117,116,95]⟩:ByteArray)]:List ByteArray):List ByteArray)).bind fun y138=>(eB.l1 k x0 x1 x5 x8 x10 x11 bt136.1 bt136.2 y138 (y138.length:Int) 0)))) else (none)) else (none)) else (none)
def eB.l1:Nat→ByteArray→ByteArray→List Int→List ByteArray→Int→Int→ByteArray→Bool→List ByteArray→Int→Int→Option (Bool)
 | 0,_,_,_,_,_,_,_,_,_,_,_=>none
 | k+1,x0,x1,x5,x8,x10,x11,x13,x14,x85,x86,x87=>if x87 < x86 then (if 0≤x87 then (if x87 < (x85.length:Int) then (if x14=true then ((iI.f x13).bind fun t142=>((iJ.f t142 (iB ByteArray.empty x85 x87)).bind fun t143=>(eB.j5 k x0 x1 x5 x8 x10 x11 x13 x14 (iB ByteArray.empty x85 x87) x85 x86 x87 t143))) else (eB.j5 k x0 x1 x5 x8 x10 x11 x13 x14 (iB ByteArray.empty x85 x87) x85 x86 x87 false)) else (none)) else (none)) else (eB.l0 k x0 x1 x5 x8 (wrap64 (x11+1)) (wrap64 (x10+1)))
def eB.j5:Nat→ByteArray→ByteArray→List Int→List ByteArray→Int→Int→ByteArray→Bool→ByteArray→List ByteArray→Int→Int→Bool→Option (Bool)
 | 0,_,_,_,_,_,_,_,_,_,_,_,_,_=>none
 | k+1,x0,x1,x5,x8,x10,x11,x13,x14,x16,x85,x86,x87,x97=>if x97=true then ((fD.f k x8 x16).bind fun t144=>(if t144=true then (some false) else (if (x13.size:Int)=(x16.size:Int) then (some false) else (if x8.length < 8796093022208 then (eB.l1 k x0 x1 x5 (x8++[x16]) x10 x11 x13 x14 x85 x86 (wrap64 (x87+1))) else (none))))) else (eB.l1 k x0 x1 x5 x8 x10 x11 x13 x14 x85 x86 (wrap64 (x87+1)))
end
def eB.f (k:Nat) (a0:ByteArray) (a1:ByteArray):Option (Bool):=(eG.f k a1).bind fun t127=>(if (t127.length:Int)=0 then (some true) else (if 0≤(wrap64 ((t127.length:Int) - 1)) then (if (wrap64 ((t127.length:Int) - 1)) < (t127.length:Int) then (if 0≤(wrap64 ((rd t127 (wrap64 ((t127.length:Int) - 1)))+1)) then (if (wrap64 ((rd t127 (wrap64 ((t127.length:Int) - 1)))+1))≤(a1.size:Int) then ((jN.f (a1.extract ((wrap64 ((rd t127 (wrap64 ((t127.length:Int) - 1)))+1)):Int).toNat a1.size)).bind fun bt131=>(if bt131.2=true then (eB.j0 k a0 a1 t127 true) else (if 0 < (t127.length:Int) then (if (rd t127 0)=0 then (eB.j0 k a0 a1 t127 true) else (eB.j0 k a0 a1 t127 ((wrap64 ((rd t127 (wrap64 ((t127.length:Int) - 1)))+1))==(a1.size:Int)))) else (none)))) else (none)) else (none)) else (none)) else (none)))
theorem eB.mono_l:∀ k,(∀ y0 y1 y2 y3,LeO (eB.j0 k y0 y1 y2 y3) (eB.j0 (k+1) y0 y1 y2 y3))∧(∀ y0 y1 y2 y3 y4 y5,LeO (eB.l0 k y0 y1 y2 y3 y4 y5) (eB.l0 (k+1) y0 y1 y2 y3 y4 y5))∧(∀ y0 y1 y2 y3 y4 y5 y6,LeO (eB.j2 k y0 y1 y2 y3 y4 y5 y6) (eB.j2 (k+1) y0 y1 y2 y3 y4 y5 y6))∧(∀ y0 y1 y2 y3 y4 y5 y6,LeO (eB.j3 k y0 y1 y2 y3 y4 y5 y6) (eB.j3 (k+1) y0 y1 y2 y3 y4 y5 y6))∧(∀ y0 y1 y2 y3 y4 y5 y6 y7 y8 y9 y10,LeO (eB.l1 k y0 y1 y2 y3 y4 y5 y6 y7 y8 y9 y10) (eB.l1 (k+1) y0 y1 y2 y3 y4 y5 y6 y7 y8 y9 y10))∧(∀ y0 y1 y2 y3 y4 y5 y6 y7 y8 y9 y10 y11 y12,LeO (eB.j5 k y0 y1 y2 y3 y4 y5 y6 y7 y8 y9 y10 y11 y12) (eB.j5 (k+1) y0 y1 y2 y3 y4 y5 y6 y7 y8 y9 y10 y11 y12))
 | 0=>⟨fun _ _ _ _ r h=>by simp[eB.j0] at h,fun _ _ _ _ _ _ r h=>by simp[eB.l0] at h,fun _ _ _ _ _ _ _ r h=>by simp[eB.j2] at h,fun _ _ _ _ _ _ _ r h=>by simp[eB.j3] at h,fun _ _ _ _ _ _ _ _ _ _ _ r h=>by simp[eB.l1] at h,fun _ _ _ _ _ _ _ _ _ _ _ _ _ r h=>by simp[eB.j5] at h⟩
 | k+1=>by
  obtain ⟨ih0,ih1,ih2,ih3,ih4,ih5⟩:=eB.mono_l k;refine ⟨?_,?_,?_,?_,?_,?_⟩
  ·intro y0 y1 y2 y3;unfold eB.j0
   exact dD
  ·intro y0 y1 y2 y3 y4 y5;unfold eB.l0
   exact dD
  ·intro y0 y1 y2 y3 y4 y5 y6;unfold eB.j2
   exact dD
  ·intro y0 y1 y2 y3 y4 y5 y6;unfold eB.j3
   exact dD
  ·intro y0 y1 y2 y3 y4 y5 y6 y7 y8 y9 y10;unfold eB.l1
   exact dD
  intro y0 y1 y2 y3 y4 y5 y6 y7 y8 y9 y10 y11 y12;unfold eB.j5
  exact dD
theorem eB.mono:∀ a0 a1 k,LeO (eB.f k a0 a1) (eB.f (k+1) a0 a1):=by
 intro a0 a1 k;obtain ⟨ih0,ih1,ih2,ih3,ih4,ih5⟩:=eB.mono_l k;unfold eB.f
 exact dD
theorem eB.calls (k:Nat) (a0:ByteArray) (a1:ByteArray) (r:Bool) (w:World) (h:eB.f k a0 a1=some r) :
 Calls Tryz.prog 58 #[.string a0,.string a1] w fun e w'=>e = .returned (.bool r)∧Below w.heap.size w w':=by
 have HB:=bW (Below.refl w.heap.size w)
 unfold eB.f at h;have H:=h;clear h
 replace H:=Option.bind_eq_some_iff.mp H;obtain ⟨t127,A30,H⟩:=H;have A3:=bW A30;clear A30
 by_cases c4:(t127.length:Int)=0
 ·rw[if_pos c4] at H;have c4b0:=beq_iff_eq.mpr c4;have c4b1:=bne_eq_false_iff_eq.mpr c4;clear c4;obtain rfl:=Option.some.inj H;go_enter Tryz.func58,Tryz.ntmps58
  go_wp2_with (first | ((with_reducible refine eQ (f:=110) rfl ?_);refine fU (some 18) rfl rfl Tryz.func110 bB rfl #[.string a1] rfl bD ?_;(with_reducible refine (eG.calls k a1 t127 _ A3.out).mono ?_);rintro e w5 ⟨v128,rfl,ho0,hb⟩;refine ⟨_,rfl,?_⟩;have HO129:=bW (Kd.R_lower ho0 (eJ bC));replace HB:=bW (eA bC hb);(try clear hb);(try clear hb2);(try clear hk);(try clear hi);(try clear ho0);obtain ⟨Ao6,co6,eo6⟩:=Kd.R_slice HO129.out;subst eo6))
  go_ret;exact ⟨aC,aA⟩
 rw[if_neg c4] at H;have c4b0:=beq_eq_false_iff_ne.mpr c4;have c4b1:=bne_iff_ne.mpr c4;have c4b2:¬ (t127=[]):=fun h_=>c4 (by rw[h_];rfl)
 obtain ⟨ji7,hji7⟩:∃ j_:Int,(wrap64 ((t127.length:Int) - 1))=j_:=⟨_,rfl⟩
 replace H:(if 0≤(ji7) then (if (ji7) < (t127.length:Int) then (if 0≤(wrap64 ((rd t127 (ji7))+1)) then (if (wrap64 ((rd t127 (ji7))+1))≤(a1.size:Int) then ((jN.f (a1.extract ((wrap64 ((rd t127 (ji7))+1)):Int).toNat a1.size)).bind fun bt131=>(if bt131.2=true then (eB.j0 k a0 a1 t127 true) else (if 0 < (t127.length:Int) then (if (rd t127 0)=0 then (eB.j0 k a0 a1 t127 true) else (eB.j0 k a0 a1 t127 ((wrap64 ((rd t127 (ji7))+1))==(a1.size:Int)))) else (none)))) else (none)) else (none)) else (none)) else (none))=some r:=by first | (rw[hji7] at H;exact H) | (simp only[hji7] at H ⊢;exact H)
 (try rw[hji7] at A3)
 have hji7w:(IntKind.i64.wrap ((t127.length:Int) - 1))=ji7:=(gU _).trans hji7
 by_cases c8:0≤(ji7)
 ·rw[if_pos c8] at H;have c8b0:=decide_eq_true c8;clear c8
  by_cases c9:(ji7) < (t127.length:Int)
  ·rw[if_pos c9] at H;have c9b0:=decide_eq_true c9;clear c9
   obtain ⟨ji10,hji10⟩:∃ j_:Int,(wrap64 ((rd t127 (ji7))+1))=j_:=⟨_,rfl⟩
   replace H:(if 0≤(ji10) then (if (ji10)≤(a1.size:Int) then ((jN.f (a1.extract ((ji10):Int).toNat a1.size)).bind fun bt131=>(if bt131.2=true then (eB.j0 k a0 a1 t127 true) else (if 0 < (t127.length:Int) then (if (rd t127 0)=0 then (eB.j0 k a0 a1 t127 true) else (eB.j0 k a0 a1 t127 ((ji10)==(a1.size:Int)))) else (none)))) else (none)) else (none))=some r:=by first | (rw[hji10] at H;exact H) | (simp only[hji10] at H ⊢;exact H)
   (try rw[hji10] at A3)
   have hji10w:(IntKind.i64.wrap ((rd t127 (ji7))+1))=ji10:=(gU _).trans hji10
   by_cases c11:0≤(ji10)
   ·rw[if_pos c11] at H;have c11b0:=eq_true c11;have c11b1:=decide_eq_true c11;clear c11
    by_cases c12:(ji10)≤(a1.size:Int)
    ·rw[if_pos c12] at H;have c12b0:=eq_true c12;have c12b1:=decide_eq_true c12;clear c12;replace H:=Option.bind_eq_some_iff.mp H;obtain ⟨⟨t131,t132⟩,A130,H⟩:=H;replace H:(if t132=true then (eB.j0 k a0 a1 t127 true) else (if 0 < (t127.length:Int) then (if (rd t127 0)=0 then (eB.j0 k a0 a1 t127 true) else (eB.j0 k a0 a1 t127 ((ji10)==(a1.size:Int)))) else (none)))=some r:=H;have A13:=bW A130;clear A130;have HC14:=bW H;clear H;go_enter Tryz.func58,Tryz.ntmps58
     go_upto_region 5 with (first | ((with_reducible refine eQ (f:=110) rfl ?_);refine fU (some 18) rfl rfl Tryz.func110 bB rfl #[.string a1] rfl bD ?_;(with_reducible refine (eG.calls k a1 t127 _ A3.out).mono ?_);rintro e w15 ⟨v128,rfl,ho0,hb⟩;refine ⟨_,rfl,?_⟩;have HO129:=bW (Kd.R_lower ho0 (eJ bC));replace HB:=bW (eA bC hb);(try clear hb);(try clear hb2);(try clear hk);(try clear hi);(try clear ho0);obtain ⟨Ao16,co16,eo16⟩:=Kd.R_slice HO129.out;subst eo16;have p130:0≤((ji7):Int):=bV;have q130:(ji7) < (t127.length:Int):=bV;obtain ⟨ad130,e130,hx130_0⟩:=Kd.at_int (Kd.R_reads' HO129.out).2.2 (ji7) p130 q130;cases e130;replace p130:=eq_true p130;replace q130:=eq_true q130) | ((with_reducible refine eQ (f:=111) rfl ?_);refine fU (some 32) rfl rfl Tryz.func111 bB rfl #[.string (a1.extract ((ji10):Int).toNat a1.size)] rfl (by (try simp only[List.map_toArray,List.map_cons,List.map_nil]);first | done | (simp only[hji10];rfl) | rfl | (simp only[List.length_drop,List.length_take];rfl)) ?_;(with_reducible refine (jN.calls (a1.extract ((ji10):Int).toNat a1.size) t131 t132 _ A13.out).mono ?_);rintro e w' ⟨rfl,⟨nd,rfl⟩⟩;refine ⟨_,rfl,?_⟩))
     (try simp only[Act.put,List.setIfInBounds_toArray,List.set_cons_zero,List.set_cons_succ])
     go_cut [53] (fun v53 wc=>∃ (kq:Nat) (x53_13:Bool),v53 = .bool x53_13∧Aside0 (eB.j0 kq a0 a1 t127 x53_13=some r)∧Aside0 (kq≤k)∧Aside0 (Kd.R (Kd.int .i64) 3 wc w.heap.size (fun _=>True) (.slice (some ad130) t127.length co16) t127)∧Aside0 (Below w.heap.size w wc))
     case first =>
      have H:=HC14.out;clear HC14
      by_cases c17:t132=true
      ·subst c17;rw[if_pos rfl] at H;have H':=bW H;clear H;go_wp2
       go_meet
       case rel=>exact ⟨_,(true),bE,H',⟨dI⟩,⟨dQ⟩,⟨aA⟩⟩
      replace c17:=Bool.eq_false_iff.mpr c17;subst c17;rw[if_neg (show ¬ (false=true) by decide)] at H
      by_cases c18:0 < (t127.length:Int)
      ·rw[if_pos c18] at H;have c18b0:=decide_eq_true c18;have c18b1:decide (0 < t127.length)=true:=decide_eq_true bA;clear c18
       (first | rw[c18b0] | (simp only[gU,iG];rw[c18b0]) | skip)
       by_cases c19:(rd t127 0)=0
       ·rw[if_pos c19] at H;have c19b0:=beq_iff_eq.mpr c19;have c19b1:=bne_eq_false_iff_eq.mpr c19;clear c19;have H':=bW H;clear H
        have p133:0≤(0:Int):=bA
        have q133:0 < (t127.length:Int):=bV;obtain ⟨ad133,e133,hx133_0⟩:=Kd.at_int (Kd.R_reads' HO129.out).2.2 0 p133 q133
        obtain rfl:ad130=ad133:=(by injection e133)
        have qi133:(0 < t127.length)=True:=eq_true bA
        (try rw[show ((0:Int)).toNat=0 from rfl] at hx133_0)
        (try rw[Addr.add_zero'] at hx133_0)
        replace p133:=eq_true p133;replace q133:=eq_true q133;go_wp2
        go_meet
        case rel=>exact ⟨_,(true),bE,H',⟨dI⟩,⟨dQ⟩,⟨aA⟩⟩
       rw[if_neg c19] at H;have c19b0:=beq_eq_false_iff_ne.mpr c19;have c19b1:=bne_iff_ne.mpr c19;have H':=bW H;clear H
       have p133:0≤(0:Int):=bA
       have q133:0 < (t127.length:Int):=bV;obtain ⟨ad133,e133,hx133_0⟩:=Kd.at_int (Kd.R_reads' HO129.out).2.2 0 p133 q133
       obtain rfl:ad130=ad133:=(by injection e133)
       have qi133:(0 < t127.length)=True:=eq_true bA
       (try rw[show ((0:Int)).toNat=0 from rfl] at hx133_0)
       (try rw[Addr.add_zero'] at hx133_0)
       replace p133:=eq_true p133;replace q133:=eq_true q133;have p134:0≤((ji7):Int):=bV;have q134:(ji7) < (t127.length:Int):=bV;obtain ⟨ad134,e134,hx134_0⟩:=Kd.at_int (Kd.R_reads' HO129.out).2.2 (ji7) p134 q134
       obtain rfl:ad130=ad134:=(by injection e134)
       replace p134:=eq_true p134;replace q134:=eq_true q134;go_wp2
       go_meet
       case rel=>exact ⟨_,(((ji10)==(a1.size:Int))),(by first | rfl | (simp;done) | (simp only[← hji10] <;> (first | rfl | simp)) | (simp[*];done)),H',⟨dI⟩,⟨dQ⟩,⟨aA⟩⟩
      rw[if_neg c18] at H;exact absurd H bJ
     clear HC14
     (try clear c4);(try clear c4b0);(try clear c4b1);(try clear c4b2);(try clear c8);(try clear c8b0);(try clear c9);(try clear c9b0);(try clear c11);(try clear c11b0);(try clear c11b1);(try clear c12);(try clear c12b0);(try clear c12b1);(try clear hx130_0);(try clear p130);(try clear q130)
     obtain ⟨kq,x53_13,rfl,HA,HJ13,HO_5,HB⟩:=hcut
     cases kq with
     | zero=>exact absurd HA.out (by simp[eB.j0])
     | succ kj13 =>
      have H:=HA.out;clear HA;simp only[eB.j0] at H
      by_cases c20:x53_13=true
      ·subst c20;rw[if_pos rfl] at H;obtain rfl:=Option.some.inj H;go_wp2;go_ret;exact ⟨aN,aA⟩
      replace c20:=Bool.eq_false_iff.mpr c20;subst c20;rw[if_neg (show ¬ (false=true) by decide)] at H;have H':=bW H;clear H;go_wp2
      go_loopg [8,9,10] kj13 (fun kq v8 v9 v10 w'=>∃ (x8_2:List ByteArray) (x9_2:Int) (x10_2:Int),v9 = .int .i64 x9_2∧v10 = .int .i64 x10_2∧Aside0 (eB.l0 kq a0 a1 t127 x8_2 x9_2 x10_2=some r)∧Aside0 (kq≤kj13)∧Aside0 (Kd.R (Kd.int .i64) 3 w' w.heap.size (fun _=>True) (.slice (some ad130) t127.length co16) t127)∧Aside0 (Kd.R Kd.string 9 w' w.heap.size (fun _=>True) v8 x8_2)∧Aside0 (Below w.heap.size w w'))
      case atStart=>exact ⟨(([]:List ByteArray)),(0),(0),bE,bE,H',⟨Nat.le_refl _⟩,⟨aJ⟩,⟨by first | exact Kd.R_nil _ _ _ _ _ | exact Kd.N_nil _ _ _ _ _ | exact Kd.V_nil _ _ _ _ _ | exact Kd.Q_nil _ _ _ _ _ | exact Kd.S_nil _ _ _ _ _⟩,⟨aA⟩⟩
      case round =>
       clear H'
       (try clear c4);(try clear c4b0);(try clear c4b1);(try clear c4b2);(try clear c8);(try clear c8b0);(try clear c9);(try clear c9b0);(try clear c11);(try clear c11b0);(try clear c11b1);(try clear c12);(try clear c12b0);(try clear c12b1);(try clear c20);(try clear hx130_0);(try clear p130);(try clear q130)
       obtain ⟨x8_2,x9_2,x10_2,rfl,rfl,HA,HK2,HO_5,HO_8,HB⟩:=hrel
       cases gk with
       | zero=>exact absurd HA.out (by simp[eB.l0])
       | succ k2 =>
        have H:=HA.out;clear HA;simp only[eB.l0] at H;have HC21:=bW H;clear H
        go_upto_region 10 with (fail)
        go_cut [61] (fun v61 wc=>∃ (kq:Nat) (x61_20:Bool),v61 = .bool x61_20∧Aside0 (eB.j2 kq a0 a1 t127 x8_2 x9_2 x10_2 x61_20=some r)∧Aside0 (kq≤k2)∧Aside0 (Kd.R (Kd.int .i64) 3 wc w.heap.size (fun _=>True) (.slice (some ad130) t127.length co16) t127)∧Aside0 (Kd.R Kd.string 9 wc w.heap.size (fun _=>True) u8 x8_2)∧Aside0 (Below w.heap.size w wc))
        case first =>
         have H:=HC21.out;clear HC21
         by_cases c22:x10_2≤(t127.length:Int)
         ·rw[if_pos c22] at H;have c22b0:=decide_eq_true c22;clear c22
          (first | rw[c22b0] | (simp only[gU,iG];rw[c22b0]) | skip)
          have H':=bW H;clear H;go_wp2
          go_meet
          case rel=>exact ⟨_,((a0.toList==([108,97,121,111,117,116,115]:List UInt8))),bE,H',⟨by have:=HJ13.out;have:=HK2.out;first | omega | exact Nat.le_refl _⟩,⟨aJ⟩,⟨aT⟩,⟨aA⟩⟩
         rw[if_neg c22] at H;have c22b0:=decide_eq_false c22;clear c22
         (first | rw[c22b0] | (simp only[gU,iG];rw[c22b0]) | skip)
         have H':=bW H;clear H;go_wp2
         go_meet
         case rel=>exact ⟨_,(false),bE,H',⟨by have:=HJ13.out;have:=HK2.out;first | omega | exact Nat.le_refl _⟩,⟨aJ⟩,⟨aT⟩,⟨aA⟩⟩
        clear HC21
        (try clear c4);(try clear c4b0);(try clear c4b1);(try clear c4b2);(try clear c8);(try clear c8b0);(try clear c9);(try clear c9b0);(try clear c11);(try clear c11b0);(try clear c11b1);(try clear c12);(try clear c12b0);(try clear c12b1);(try clear c20);(try clear hx130_0);(try clear p130);(try clear q130)
        obtain ⟨kq,x61_20,rfl,HA,HJ20,HO_5,HO_8,HB⟩:=hcut
        cases kq with
        | zero=>exact absurd HA.out (by simp[eB.j2])
        | succ kj20 =>
         have H:=HA.out;clear HA;simp only[eB.j2] at H
         by_cases c23:x61_20=true
         ·subst c23;rw[if_pos rfl] at H;have HC24:=bW H;clear H
          go_upto_if 69 with (fail)
          go_cut [11] (fun v11 wc=>∃ (kq:Nat) (x11_23:Int),v11 = .int .i64 x11_23∧Aside0 (eB.j3 kq a0 a1 t127 x8_2 x9_2 x10_2 x11_23=some r)∧Aside0 (kq≤kj20)∧Aside0 (Kd.R (Kd.int .i64) 3 wc w.heap.size (fun _=>True) (.slice (some ad130) t127.length co16) t127)∧Aside0 (Kd.R Kd.string 9 wc w.heap.size (fun _=>True) u8 x8_2)∧Aside0 (Below w.heap.size w wc))
          case first =>
           have H:=HC24.out;clear HC24
           by_cases c25:x10_2 < (t127.length:Int)
           ·rw[if_pos c25] at H;have c25b0:=decide_eq_true c25;clear c25
            (first | rw[c25b0] | (simp only[gU,iG];rw[c25b0]) | skip)
            by_cases c26:0≤x10_2
            ·rw[if_pos c26] at H;have c26b0:=decide_eq_true c26;clear c26;have H':=bW H;clear H;have p135:0≤(x10_2:Int):=bV;have q135:x10_2 < (t127.length:Int):=bV;obtain ⟨ad135,e135,hx135_0⟩:=Kd.at_int (Kd.R_reads' HO_5.out).2.2 x10_2 p135 q135
             obtain rfl:ad130=ad135:=(by injection e135)
             replace p135:=eq_true p135;replace q135:=eq_true q135;go_wp2
             go_meet
             case rel=>exact ⟨_,(rd t127 x10_2),bE,H',⟨by have:=HJ13.out;have:=HK2.out;have:=HJ20.out;first | omega | exact Nat.le_refl _⟩,⟨aJ⟩,⟨aT⟩,⟨aA⟩⟩
            rw[if_neg c26] at H;exact absurd H bJ
           rw[if_neg c25] at H;have c25b0:=decide_eq_false c25;clear c25
           (first | rw[c25b0] | (simp only[gU,iG];rw[c25b0]) | skip)
           have H':=bW H;clear H;go_wp2
           go_meet
           case rel=>exact ⟨_,((a1.size:Int)),bE,H',⟨by have:=HJ13.out;have:=HK2.out;have:=HJ20.out;first | omega | exact Nat.le_refl _⟩,⟨aJ⟩,⟨aT⟩,⟨aA⟩⟩
          clear HC24
          (try clear c4);(try clear c4b0);(try clear c4b1);(try clear c4b2);(try clear c8);(try clear c8b0);(try clear c9);(try clear c9b0);(try clear c11);(try clear c11b0);(try clear c11b1);(try clear c12);(try clear c12b0);(try clear c12b1);(try clear c20);(try clear c23);(try clear hx130_0);(try clear p130);(try clear q130)
          obtain ⟨kq,x11_23,rfl,HA,HJ23,HO_5,HO_8,HB⟩:=hcut
          cases kq with
          | zero=>exact absurd HA.out (by simp[eB.j3])
          | succ kj23 =>
           have H:=HA.out;clear HA;simp only[eB.j3] at H
           by_cases c27:0≤x9_2
           ·rw[if_pos c27] at H;have c27b0:=eq_true c27;have c27b1:=decide_eq_true c27;clear c27
            by_cases c28:x9_2≤x11_23
            ·rw[if_pos c28] at H;have c28b0:=eq_true c28;have c28b1:=decide_eq_true c28;clear c28
             by_cases c29:x11_23≤(a1.size:Int)
             ·rw[if_pos c29] at H;have c29b0:=eq_true c29;have c29b1:=decide_eq_true c29;clear c29
              by_cases c30:(a1.extract (x9_2:Int).toNat (x11_23:Int).toNat).toList=([]:List UInt8)
              ·rw[if_pos c30] at H;have c30b0:=beq_iff_eq.mpr c30;have c30b1:=bne_eq_false_iff_eq.mpr c30;clear c30;obtain rfl:=Option.some.inj H;go_wp2;go_ret;exact ⟨aN,aA⟩
              rw[if_neg c30] at H;have c30b0:=beq_eq_false_iff_ne.mpr c30;have c30b1:=bne_iff_ne.mpr c30;replace H:=Option.bind_eq_some_iff.mp H;obtain ⟨⟨t136,t137⟩,A310,H⟩:=H;replace H:((some (([(⟨#[111,117,116,112,117,116,102,111,114,109,97,116,95]⟩:ByteArray),(⟨#[107,105,110,100,95]⟩:ByteArray),(⟨#[108,97,121,111,117,116,95]⟩:ByteArray)]:List ByteArray):List ByteArray)).bind fun y138=>(eB.l1 kj23 a0 a1 t127 x8_2 x10_2 x11_23 t136 t137 y138 (y138.length:Int) 0))=some r:=H;have A31:=bW A310;clear A310
              obtain ⟨y138,hy138⟩:∃ y_:List ByteArray,y_=(([(⟨#[111,117,116,112,117,116,102,111,114,109,97,116,95]⟩:ByteArray),(⟨#[107,105,110,100,95]⟩:ByteArray),(⟨#[108,97,121,111,117,116,95]⟩:ByteArray)]:List ByteArray)):=⟨_,rfl⟩
              replace H:(eB.l1 kj23 a0 a1 t127 x8_2 x10_2 x11_23 t136 t137 y138 (y138.length:Int) 0)=some r:=by first | (rw[hy138];with_reducible exact H) | (have H2_:=(Option.bind_some _ _).symm.trans H;rw[hy138];with_reducible exact H2_) | (have H2_:=(Option.bind_some _ _).symm.trans H;with_reducible exact H2_) | with_reducible exact H | (rw[hy138];exact H) | exact H
              have Ny138:=bW hy138;clear hy138;have H':=bW H;clear H
              go_wp2_with (first | ((with_reducible refine eQ (f:=111) rfl ?_);refine fU (some 82) rfl rfl Tryz.func111 bB rfl #[.string (a1.extract (x9_2:Int).toNat (x11_23:Int).toNat)] rfl bD ?_;(with_reducible refine (jN.calls (a1.extract (x9_2:Int).toNat (x11_23:Int).toNat) t136 t137 _ A31.out).mono ?_);rintro e w' ⟨rfl,⟨nd,rfl⟩⟩;refine ⟨_,rfl,?_⟩) | ((with_reducible refine gO (N:=85) rfl ?_);(try (refine iU bH ?_;dsimp only));refine Kd.R_lit Kd.string _ 9 ?hg (N:=85) ?hd (xs:=([(⟨#[111,117,116,112,117,116,102,111,114,109,97,116,95]⟩:ByteArray),(⟨#[107,105,110,100,95]⟩:ByteArray),(⟨#[108,97,121,111,117,116,95]⟩:ByteArray)]:List ByteArray)) (inner:=[.string (⟨#[111,117,116,112,117,116,102,111,114,109,97,116,95]⟩:ByteArray),.string (⟨#[107,105,110,100,95]⟩:ByteArray),.string (⟨#[108,97,121,111,117,116,95]⟩:ByteArray)]) (ok:=fun _=>True) (okp:=fun _=>True) ?hr ?hp (fun _ hk=>hk) trivial (Below.refl _ _) (Nat.le_refl _) bJ ?_;(case hd=>rfl);(case hg=>rfl);(case hr=>exact cA);(case hp=>exact (gW.one (show Kd.M Kd.string _ _ _ (⟨#[111,117,116,112,117,116,102,111,114,109,97,116,95]⟩:ByteArray) [.string (⟨#[111,117,116,112,117,116,102,111,114,109,97,116,95]⟩:ByteArray)] from rfl) (gW.one (show Kd.M Kd.string _ _ _ (⟨#[107,105,110,100,95]⟩:ByteArray) [.string (⟨#[107,105,110,100,95]⟩:ByteArray)] from rfl) (gW.one (show Kd.M Kd.string _ _ _ (⟨#[108,97,121,111,117,116,95]⟩:ByteArray) [.string (⟨#[108,97,121,111,117,116,95]⟩:ByteArray)] from rfl) (gW.none _ _)))));intro v139 w32 ho33 hb hg_ hnew_;clear hg_ hnew_;(first | rw[← Ny138.out] at ho33 | (simp only[Int.reduceToNat] at ho33;rw[← Ny138.out] at ho33));have HO140:=bW (Kd.R_lower (Kd.R_new' ho33 (Kd.R_lt bM)) (eJ bC));replace HO_5:=bW (Kd.R_below bP hb);replace HO_8:=bW (Kd.R_elder' bM (Kd.R_base ho33) hb);replace HB:=bW (eA bC hb);clear hb ho33;obtain ⟨Ao34,co34,eo34⟩:=Kd.R_slice HO140.out;subst eo34))
              go_loopg [8,87] kj23 (fun kq v8 v87 w'=>∃ (x8_5:List ByteArray) (x87_5:Int),v87 = .int .i64 x87_5∧Aside0 (eB.l1 kq a0 a1 t127 x8_5 x10_2 x11_23 t136 t137 y138 (y138.length:Int) x87_5=some r)∧Aside0 (kq≤kj23)∧Aside0 (Kd.R (Kd.int .i64) 3 w' w.heap.size (fun _=>True) (.slice (some ad130) t127.length co16) t127)∧Aside0 (Kd.R Kd.string 9 w' w.heap.size (fun k_=>some k_≠((.slice Ao34 y138.length co34):Value).ownBlock) v8 x8_5)∧Aside0 (Kd.R Kd.string 9 w' w.heap.size (fun k_=>some k_≠(v8:Value).ownBlock) (.slice Ao34 y138.length co34) y138)∧Aside0 (Below w.heap.size w w'))
              case atStart=>exact ⟨(x8_2),(0),bE,H',⟨Nat.le_refl _⟩,⟨aJ⟩,⟨by (with_reducible repeat (first | apply Kd.R_alloc | apply Kd.R_drewN | apply Kd.R_drew));exact Kd.R_mono HO_8.out (fun _ hk=>hk.2)⟩,⟨by (with_reducible repeat (first | apply Kd.R_alloc | apply Kd.R_drewN | apply Kd.R_drew));exact Kd.R_mono HO140.out (fun _ hk=>hk.2)⟩,⟨aA⟩⟩
              case round =>
               clear H'
               (try clear c4);(try clear c4b0);(try clear c4b1);(try clear c4b2);(try clear c8);(try clear c8b0);(try clear c9);(try clear c9b0);(try clear c11);(try clear c11b0);(try clear c11b1);(try clear c12);(try clear c12b0);(try clear c12b1);(try clear c20);(try clear c23);(try clear c27);(try clear c27b0);(try clear c27b1);(try clear c28);(try clear c28b0);(try clear c28b1);(try clear c29);(try clear c29b0);(try clear c29b1);(try clear c30);(try clear c30b0);(try clear c30b1);(try clear hx130_0);(try clear p130);(try clear q130)
               obtain ⟨x8_5,x87_5,rfl,HA,HK5,HO_5,HO_8,HO_85,HB⟩:=hrel
               cases gk with
               | zero=>exact absurd HA.out (by simp[eB.l1])
               | succ k5 =>
                have H:=HA.out;clear HA;simp only[eB.l1] at H
                by_cases c35:x87_5 < (y138.length:Int)
                ·rw[if_pos c35] at H;have c35b0:=decide_eq_true c35;clear c35
                 by_cases c36:0≤x87_5
                 ·rw[if_pos c36] at H;have c36b0:=decide_eq_true c36;clear c36
                  by_cases c37:x87_5 < (y138.length:Int)
                  ·rw[if_pos c37] at H;have c37b0:=decide_eq_true c37;clear c37;have HC38:=bW H;clear H;have p141:0≤(x87_5:Int):=bV;have q141:x87_5 < (y138.length:Int):=bV;obtain ⟨ad141,e141,hx141_0⟩:=Kd.at_string (Kd.R_reads' HO_85.out).2.2 x87_5 p141 q141;cases e141;replace p141:=eq_true p141;replace q141:=eq_true q141
                   go_upto_region 22 with (fail)
                   go_cut [97] (fun v97 wc=>∃ (kq:Nat) (x97_37:Bool),v97 = .bool x97_37∧Aside0 (eB.j5 kq a0 a1 t127 x8_5 x10_2 x11_23 t136 t137 (iB ByteArray.empty y138 x87_5) y138 (y138.length:Int) x87_5 x97_37=some r)∧Aside0 (kq≤k5)∧Aside0 (Kd.R (Kd.int .i64) 3 wc w.heap.size (fun _=>True) (.slice (some ad130) t127.length co16) t127)∧Aside0 (Kd.R Kd.string 9 wc w.heap.size (fun k_=>some k_≠((.slice (some ad141) y138.length co34):Value).ownBlock) u8 x8_5)∧Aside0 (Kd.R Kd.string 9 wc w.heap.size (fun k_=>some k_≠(u8:Value).ownBlock) (.slice (some ad141) y138.length co34) y138)∧Aside0 (Below w.heap.size w wc))
                   case first =>
                    have H:=HC38.out;clear HC38
                    by_cases c39:t137=true
                    ·subst c39;rw[if_pos rfl] at H;replace H:=Option.bind_eq_some_iff.mp H;obtain ⟨t142,A400,H⟩:=H;have A40:=bW A400;clear A400;replace H:=Option.bind_eq_some_iff.mp H;obtain ⟨t143,A410,H⟩:=H;have A41:=bW A410;clear A410;have H':=bW H;clear H
                     go_wp2_with (first | (go_at_call 123;(with_reducible refine (iI.calls t136 t142 _ A40.out).mono ?_);rintro e w42 ⟨rfl,hb⟩;replace HO_5:=bW (Kd.R_below bP hb);replace HO_8:=bW (Kd.R_below bM hb);replace HO_85:=bW (Kd.R_below (by (with_reducible repeat (first | apply Kd.R_alloc | apply Kd.R_drewN | apply Kd.R_drew));exact HO_85.out) hb);replace HB:=bW (eA bC hb);(try clear hb);(try clear hb2);(try clear hk);(try clear hi)) | (go_at_call 122;(with_reducible refine (iJ.calls t142 (iB ByteArray.empty y138 x87_5) t143 _ A41.out).mono ?_);rintro e w' ⟨rfl,⟨nd,rfl⟩⟩))
                     go_meet
                     case rel=>exact ⟨_,(t143),bE,H',⟨dW⟩,⟨aJ⟩,⟨aT⟩,⟨dR⟩,⟨aA⟩⟩
                    replace c39:=Bool.eq_false_iff.mpr c39;subst c39;rw[if_neg (show ¬ (false=true) by decide)] at H;have H':=bW H;clear H;go_wp2
                    go_meet
                    case rel=>exact ⟨_,(false),bE,H',⟨dW⟩,⟨aJ⟩,⟨aT⟩,⟨dR⟩,⟨aA⟩⟩
                   clear HC38
                   (try clear c4);(try clear c4b0);(try clear c4b1);(try clear c4b2);(try clear c8);(try clear c8b0);(try clear c9);(try clear c9b0);(try clear c11);(try clear c11b0);(try clear c11b1);(try clear c12);(try clear c12b0);(try clear c12b1);(try clear c20);(try clear c23);(try clear c27);(try clear c27b0);(try clear c27b1);(try clear c28);(try clear c28b0);(try clear c28b1);(try clear c29);(try clear c29b0);(try clear c29b1);(try clear c30);(try clear c30b0);(try clear c30b1);(try clear c35);(try clear c35b0);(try clear c36);(try clear c36b0);(try clear c37);(try clear c37b0);(try clear hx130_0);(try clear hx141_0);(try clear p130);(try clear p141);(try clear q130);(try clear q141)
                   obtain ⟨kq,x97_37,rfl,HA,HJ37,HO_5,HO_8,HO_85,HB⟩:=hcut
                   cases kq with
                   | zero=>exact absurd HA.out (by simp[eB.j5])
                   | succ kj37 =>
                    have H:=HA.out;clear HA;simp only[eB.j5] at H
                    by_cases c43:x97_37=true
                    ·subst c43;rw[if_pos rfl] at H;replace H:=Option.bind_eq_some_iff.mp H;obtain ⟨t144,A440,H⟩:=H;have A44:=bW A440;clear A440
                     by_cases c45:t144=true
                     ·subst c45;rw[if_pos rfl] at H;obtain rfl:=Option.some.inj H;obtain ⟨Ao46,co46,eo46⟩:=Kd.R_slice HO_8.out;subst eo46
                      go_wp2_with (first | ((with_reducible refine eQ (f:=120) rfl ?_);refine fU (some 100) rfl rfl Tryz.func120 bB rfl #[.slice Ao46 x8_5.length co46,.string (iB ByteArray.empty y138 x87_5)] rfl bD ?_;(with_reducible refine (fD.calls kj37 _ _ x8_5 (iB ByteArray.empty y138 x87_5) true _ ?side1 ?side2 A44.out).mono ?_);(case side1=>exact cK);(case side2=>exact (Kd.R_reads' HO_8.out).2.1);rintro e w' ⟨rfl,⟨nd,rfl⟩⟩;refine ⟨_,rfl,?_⟩))
                      go_ret;exact ⟨aN,aA⟩
                     replace c45:=Bool.eq_false_iff.mpr c45;subst c45;rw[if_neg (show ¬ (false=true) by decide)] at H
                     by_cases c47:(t136.size:Int)=((iB ByteArray.empty y138 x87_5).size:Int)
                     ·rw[if_pos c47] at H;have c47b0:=beq_iff_eq.mpr c47;have c47b1:=bne_eq_false_iff_eq.mpr c47;have c47b2:(t136.size==(iB ByteArray.empty y138 x87_5).size)=true:=by first | simpa using c47 | (simp at c47 ⊢;omega)
                      clear c47;obtain rfl:=Option.some.inj H;obtain ⟨Ao48,co48,eo48⟩:=Kd.R_slice HO_8.out;subst eo48
                      go_wp2_with (first | ((with_reducible refine eQ (f:=120) rfl ?_);refine fU (some 100) rfl rfl Tryz.func120 bB rfl #[.slice Ao48 x8_5.length co48,.string (iB ByteArray.empty y138 x87_5)] rfl bD ?_;(with_reducible refine (fD.calls kj37 _ _ x8_5 (iB ByteArray.empty y138 x87_5) false _ ?side1 ?side2 A44.out).mono ?_);(case side1=>exact cK);(case side2=>exact (Kd.R_reads' HO_8.out).2.1);rintro e w' ⟨rfl,⟨nd,rfl⟩⟩;refine ⟨_,rfl,?_⟩))
                      go_ret;exact ⟨aN,aA⟩
                     rw[if_neg c47] at H;have c47b0:=beq_eq_false_iff_ne.mpr c47;have c47b1:=bne_iff_ne.mpr c47;have c47b2:(t136.size==(iB ByteArray.empty y138 x87_5).size)=false:=by first | simpa using c47 | (simp at c47 ⊢;omega)
                     by_cases c49:x8_5.length < 8796093022208
                     ·rw[if_pos c49] at H;have LMc49:=bW c49;clear c49
                      obtain ⟨y145,hy145⟩:∃ y_:List ByteArray,y_=(x8_5++[(iB ByteArray.empty y138 x87_5)]):=⟨_,rfl⟩
                      replace H:(eB.l1 kj37 a0 a1 t127 y145 x10_2 x11_23 t136 t137 y138 (y138.length:Int) (wrap64 (x87_5+1)))=some r:=by first | (rw[hy145];with_reducible exact H) | (have H2_:=(Option.bind_some _ _).symm.trans H;rw[hy145];with_reducible exact H2_) | (have H2_:=(Option.bind_some _ _).symm.trans H;with_reducible exact H2_) | with_reducible exact H | (rw[hy145];exact H) | exact H
                      have Ny145:=bW hy145;clear hy145;have H':=bW H;clear H;obtain ⟨Ao50,co50,eo50⟩:=Kd.R_slice HO_8.out;subst eo50
                      go_wp2_with (first | ((with_reducible refine eQ (f:=120) rfl ?_);refine fU (some 100) rfl rfl Tryz.func120 bB rfl #[.slice Ao50 x8_5.length co50,.string (iB ByteArray.empty y138 x87_5)] rfl bD ?_;(with_reducible refine (fD.calls kj37 _ _ x8_5 (iB ByteArray.empty y138 x87_5) false _ ?side1 ?side2 A44.out).mono ?_);(case side1=>exact cK);(case side2=>exact (Kd.R_reads' HO_8.out).2.1);rintro e w' ⟨rfl,⟨nd,rfl⟩⟩;refine ⟨_,rfl,?_⟩) | ((with_reducible refine nY (b:=.append) (xs:=#[.tmp 108,.tmp 110]) rfl ?_);(try (refine iU bH ?_;dsimp only));at_builtin;refine Kd.R_append Kd.string (w0:=w) w.heap.size rfl (.tmp 108) (.tmp 110) 22 9 (.string ⟨#[]⟩) 16 rfl Tryz.underlying22 info9 rfl bF bA (.slice Ao50 x8_5.length co50) x8_5 (iB ByteArray.empty y138 x87_5) [.string (iB ByteArray.empty y138 x87_5)] (fun k_=>some k_≠(.slice (some ad141) y138.length co34:Value).ownBlock) (fun _=>False) rfl rfl ?aP (fun _ hk=>hk.elim) ?aF ?aO ?aB ?aS ?aL ?_;(case aP=>exact rfl);(case aB=>exact bC);(case aF=>exact (fun k_ hk=>Kd.fresh' (Kd.R_lt (by (with_reducible repeat (first | apply Kd.R_alloc | apply Kd.R_drewN | apply Kd.R_drew));exact HO_85.out)) k_ hk));(case aO=>exact bM);(case aS=>exact (eJ bC));(case aL=>have:=LMc49.out;omega);intro v146 w51 ho hb hg hat;rw[← Ny145.out] at ho;have n0_:=bW (Kd.R_over' bP (Kd.R_typed bM) bF hg);have n1_:=bW (Kd.R_after (ok:=(fun _=>True)) (by (with_reducible repeat (first | apply Kd.R_alloc | apply Kd.R_drewN | apply Kd.R_drew));exact Kd.R_mono HO_85.out (fun _ hk=>⟨trivial,hk⟩)) hg hat);have n2_:=bW (hb);have n3_:=bW (ho);clear HO_5;clear HO_85;clear HB;clear HO_8;have HO_5:=n0_;have HO_85:=n1_;have HB:=n2_;have HO147:=n3_;clear n0_ n1_ n2_ n3_;clear ho hb hg hat))
                      go_roundg kj37
                      case measure=>have:=HJ13.out;have:=HK2.out;have:=HJ20.out;have:=HJ23.out;have:=HK5.out;have:=HJ37.out;omega
                      case rel=>exact ⟨(y145),(wrap64 (x87_5+1)),bE,H',⟨by have:=HJ13.out;have:=HK2.out;have:=HJ20.out;have:=HJ23.out;have:=HK5.out;have:=HJ37.out;omega⟩,⟨aJ⟩,⟨by (with_reducible repeat (first | apply Kd.R_alloc | apply Kd.R_drewN | apply Kd.R_drew));exact HO147.out⟩,⟨by (with_reducible repeat (first | apply Kd.R_alloc | apply Kd.R_drewN | apply Kd.R_drew));exact Kd.R_mono HO_85.out (fun _ hk=>hk.2)⟩,⟨aA⟩⟩
                     rw[if_neg c49] at H;exact absurd H bJ
                    replace c43:=Bool.eq_false_iff.mpr c43;subst c43;rw[if_neg (show ¬ (false=true) by decide)] at H;have H':=bW H;clear H;go_wp2
                    go_roundg kj37
                    case measure=>have:=HJ13.out;have:=HK2.out;have:=HJ20.out;have:=HJ23.out;have:=HK5.out;have:=HJ37.out;omega
                    case rel=>exact ⟨(x8_5),(wrap64 (x87_5+1)),bE,H',⟨by have:=HJ13.out;have:=HK2.out;have:=HJ20.out;have:=HJ23.out;have:=HK5.out;have:=HJ37.out;omega⟩,⟨aJ⟩,⟨aT⟩,⟨dR⟩,⟨aA⟩⟩
                  rw[if_neg c37] at H;exact absurd H bJ
                 rw[if_neg c36] at H;exact absurd H bJ
                rw[if_neg c35] at H;have c35b0:=decide_eq_false c35;clear c35;have H':=bW H;clear H;go_wp2
                go_roundg k5
                case measure=>have:=HJ13.out;have:=HK2.out;have:=HJ20.out;have:=HJ23.out;have:=HK5.out;omega
                case rel=>exact ⟨(x8_5),(wrap64 (x11_23+1)),(wrap64 (x10_2+1)),bE,bE,H',⟨by have:=HJ13.out;have:=HK2.out;have:=HJ20.out;have:=HJ23.out;have:=HK5.out;omega⟩,⟨aJ⟩,⟨by (with_reducible repeat (first | apply Kd.R_alloc | apply Kd.R_drewN | apply Kd.R_drew));exact Kd.R_mono HO_8.out (fun _ hk=>trivial)⟩,⟨aA⟩⟩
             rw[if_neg c29] at H;exact absurd H bJ
            rw[if_neg c28] at H;exact absurd H bJ
           rw[if_neg c27] at H;exact absurd H bJ
         replace c23:=Bool.eq_false_iff.mpr c23;subst c23;rw[if_neg (show ¬ (false=true) by decide)] at H;obtain rfl:=Option.some.inj H;go_wp2;go_ret;exact ⟨aN,aA⟩
    rw[if_neg c12] at H;exact absurd H bJ
   rw[if_neg c11] at H;exact absurd H bJ
  rw[if_neg c9] at H;exact absurd H bJ
 rw[if_neg c8] at H;exact absurd H bJ
end Go.Proofs.YtlkoeeccebmjmaaGreatDoor.PCore
