/- Texts that the law leans on: PCorex3, PCorex4. Condition: as told at each. -/
import Derived.Test.YtcdgldnphhidlaaGreatDoorVa
import Derived.Test.YtcdgldnphhidlaaGreatDoorV8
set_option linter.unusedVariables false
set_option linter.unusedSimpArgs false
set_option maxRecDepth 100000
set_option maxHeartbeats 16000000
namespace Go.Proofs.YtcdgldnphhidlaaGreatDoor.PCore
open Go.RowKit Go.ZW.PrintWords Go.ZW.PrintLast Go.ZW.PrintMore
attribute [local go_sem] kF kH lE lF jR jS kG kI   -- for this text's walks alone
def fW.l0:Nat→ByteArray→ByteArray→Int→Option (Bool)
 | 0,_,_,_=>none
 | k+1,x0,x1,x5=>if (wrap64 (x5+(x1.size:Int)))≤(x0.size:Int) then (if 0≤x5 then (if x5≤(wrap64 (x5+(x1.size:Int))) then (if (x0.extract (x5:Int).toNat ((wrap64 (x5+(x1.size:Int))):Int).toNat).toList=x1.toList then (some true) else (fW.l0 k x0 x1 (wrap64 (x5+1)))) else (none)) else (none)) else (some false)
def fW.f (k:Nat) (a0:ByteArray) (a1:ByteArray):Option (Bool):=fW.l0 k a0 a1 0
theorem fW.mono_l:∀ k,(∀ y0 y1 y2,LeO (fW.l0 k y0 y1 y2) (fW.l0 (k+1) y0 y1 y2))
 | 0=>fun _ _ _ r h=>by simp[fW.l0] at h
 | k+1=>by
  have ih0:=fW.mono_l k
  intro y0 y1 y2;unfold fW.l0
  exact dC
theorem fW.mono:∀ a0 a1 k,LeO (fW.f k a0 a1) (fW.f (k+1) a0 a1):=by
 intro a0 a1 k;have ih0:=fW.mono_l k;unfold fW.f
 exact dC
theorem fW.calls (k:Nat) (a0:ByteArray) (a1:ByteArray) (r:Bool) (w:World) (h:fW.f k a0 a1=some r) :
 Calls Tryz.prog 59 #[.string a0,.string a1] w fun e w'=>e = .returned (.bool r)∧eW w w':=by
 unfold fW.f at h;have H:=h;clear h;have H':=cH H;clear H;go_enter Tryz.func59,Tryz.ntmps59;go_wp2
 go_loopg [5] k (fun kq v5 w'=>∃ (x5_1:Int),v5 = .int .i64 x5_1∧Aside0 (fW.l0 kq a0 a1 x5_1=some r)∧Aside0 (kq≤k)∧eW w w')
 case atStart=>exact ⟨(0),bE,H',⟨Nat.le_refl _⟩,dM⟩
 case round =>
  clear H'
  obtain ⟨x5_1,rfl,HA,HK1,⟨m1,rfl⟩⟩:=hrel
  cases gk with
  | zero=>exact absurd HA.out (by simp[fW.l0])
  | succ k1 =>
   have H:=HA.out;clear HA;simp only[fW.l0] at H
   by_cases c3:(wrap64 (x5_1+(a1.size:Int)))≤(a0.size:Int)
   ·rw[if_pos c3] at H;have c3b0:=decide_eq_true c3;clear c3
    by_cases c4:0≤x5_1
    ·rw[if_pos c4] at H;have c4b0:=eq_true c4;have c4b1:=decide_eq_true c4;clear c4
     by_cases c5:x5_1≤(wrap64 (x5_1+(a1.size:Int)))
     ·rw[if_pos c5] at H;have c5b0:=eq_true c5;have c5b1:=decide_eq_true c5;have c6b0:=eq_true (cG:(wrap64 (x5_1+(a1.size:Int)))≤(a0.size:Int))
      by_cases c7:(a0.extract (x5_1:Int).toNat ((wrap64 (x5_1+(a1.size:Int))):Int).toNat).toList=a1.toList
      ·rw[if_pos c7] at H;have c7b0:=beq_iff_eq.mpr c7;have c7b1:=bne_eq_false_iff_eq.mpr c7;clear c7;obtain rfl:=Option.some.inj H;go_wp2;go_ret;exact ⟨bE,dM⟩
      rw[if_neg c7] at H;have c7b0:=beq_eq_false_iff_ne.mpr c7;have c7b1:=bne_iff_ne.mpr c7;have H':=cH H;clear H;go_wp2
      go_roundg k1
      case measure=>have:=HK1.out;omega
      case rel=>exact ⟨(wrap64 (x5_1+1)),bE,H',⟨aT⟩,dM⟩
     rw[if_neg c5] at H;exact absurd H bJ
    rw[if_neg c4] at H;exact absurd H bJ
   rw[if_neg c3] at H;have c3b0:=decide_eq_false c3;clear c3;obtain rfl:=Option.some.inj H;go_wp2;go_ret;exact ⟨bE,dM⟩
def fW.Pure:Prop:=∀ (a0:ByteArray) (a1:ByteArray),a0.size≤140737488351232→a1.size≤140737488351232→∃ k,fW.f k a0 a1=some true
theorem fW.walk (P:fW.Pure) (a0:ByteArray) (a1:ByteArray) (w:World) (w0:a0.size≤140737488351232) (w1:a1.size≤140737488351232) :
 Calls Tryz.prog 59 #[.string a0,.string a1] w fun e w'=>e = .returned (.bool true)∧Below w.heap.size w w':=by
 obtain ⟨k,h⟩:=P a0 a1 w0 w1;refine (fW.calls k a0 a1 true w h).mono ?_;rintro e w' ⟨rfl,hd⟩;exact ⟨rfl,hd.below⟩
def fR.l0:Nat→ByteArray→Int→Option (Bool)
 | 0,_,_=>none
 | k+1,x0,x3=>if x3 < (x0.size:Int) then (if 0≤x3 then (if (bt x0 x3) > 127 then (some false) else (fR.l0 k x0 (wrap64 (x3+1)))) else (none)) else (some true)
def fR.f (k:Nat) (a0:ByteArray):Option (Bool):=fR.l0 k a0 0
theorem fR.mono_l:∀ k,(∀ y0 y1,LeO (fR.l0 k y0 y1) (fR.l0 (k+1) y0 y1))
 | 0=>fun _ _ r h=>by simp[fR.l0] at h
 | k+1=>by
  have ih0:=fR.mono_l k
  intro y0 y1;unfold fR.l0
  exact dD
theorem fR.mono:∀ a0 k,LeO (fR.f k a0) (fR.f (k+1) a0):=by
 intro a0 k;have ih0:=fR.mono_l k;unfold fR.f
 exact dD
theorem fR.calls (k:Nat) (a0:ByteArray) (r:Bool) (w:World) (h:fR.f k a0=some r) :
 Calls Tryz.prog 60 #[.string a0] w fun e w'=>e = .returned (.bool r)∧eW w w':=by
 unfold fR.f at h;have H:=h;clear h;have H':=cH H;clear H;go_enter Tryz.func60,Tryz.ntmps60;go_wp2
 go_loopg [3] k (fun kq v3 w'=>∃ (x3_1:Int),v3 = .int .i64 x3_1∧Aside0 (fR.l0 kq a0 x3_1=some r)∧Aside0 (kq≤k)∧eW w w')
 case atStart=>exact ⟨(0),bE,H',⟨Nat.le_refl _⟩,dM⟩
 case round =>
  clear H';obtain ⟨x3_1,rfl,HA,HK1,⟨m1,rfl⟩⟩:=hrel
  cases gk with
  | zero=>exact absurd HA.out (by simp[fR.l0])
  | succ k1 =>
   have H:=HA.out;clear HA;simp only[fR.l0] at H
   by_cases c2:x3_1 < (a0.size:Int)
   ·rw[if_pos c2] at H;have c2b0:=decide_eq_true c2;clear c2
    by_cases c3:0≤x3_1
    ·rw[if_pos c3] at H;have c3b0:=decide_eq_true c3;clear c3
     by_cases c5:(bt a0 x3_1) > 127
     ·rw[if_pos c5] at H;have c5b0:=decide_eq_true c5;clear c5;obtain rfl:=Option.some.inj H;have p4:0≤(x3_1:Int):=cG;have q4:x3_1 < (a0.size:Int):=cG;have hx4:=eX a0 x3_1;replace p4:=eq_true p4;replace q4:=eq_true q4;go_wp2;go_ret;exact ⟨bE,dM⟩
     rw[if_neg c5] at H;have c5b0:=decide_eq_false c5;clear c5;have H':=cH H;clear H;have p4:0≤(x3_1:Int):=cG;have q4:x3_1 < (a0.size:Int):=cG;have hx4:=eX a0 x3_1;replace p4:=eq_true p4;replace q4:=eq_true q4;go_wp2
     go_roundg k1
     case measure=>have:=HK1.out;omega
     case rel=>exact ⟨(wrap64 (x3_1+1)),bE,H',⟨aT⟩,dM⟩
    rw[if_neg c3] at H;exact absurd H bJ
   rw[if_neg c2] at H;have c2b0:=decide_eq_false c2;clear c2;obtain rfl:=Option.some.inj H;go_wp2;go_ret;exact ⟨bE,dM⟩
def jO.f (a0:ByteArray):Option ByteArray:=if a0.size≤140737488355328 then some (Go.Proofs.YtcdgldnphhidlaaGreatDoor.Lower.low a0) else none
theorem jO.calls (a0:ByteArray) (r:ByteArray) (w:World) (h:jO.f a0=some r) :
 Calls Tryz.prog 69 #[.string a0] w fun e w'=>e = .returned (.string r)∧Below w.heap.size w w':=by
 unfold jO.f at h;split at h
 ·rename_i hs
  cases h;exact Go.Proofs.YtcdgldnphhidlaaGreatDoor.Lower.lower_calls a0 w hs
 cases h
mutual
def eN.l0:Nat→ByteArray→List Int→Int→Option (List Int)
 | 0,_,_,_=>none
 | k+1,x0,x3,x4=>if x4 < (x0.size:Int) then (if 0≤x4 then (if (bt x0 x4)=46 then (if x3.length < 17592186044416 then ((some (x3++[x4]:List Int)).bind fun y124=>(if (wrap64 (x4+1))=(x0.size:Int) then (eN.j1 k x0 y124 x4 true) else (if 0≤(wrap64 (x4+1)) then (if (wrap64 (x4+1)) < (x0.size:Int) then (eN.j1 k x0 y124 x4 ((bt x0 (wrap64 (x4+1))) != 95)) else (none)) else (none)))) else (none)) else (eN.l0 k x0 x3 (wrap64 (x4+1)))) else (none)) else (some x3)
def eN.j1:Nat→ByteArray→List Int→Int→Bool→Option (List Int)
 | 0,_,_,_,_=>none
 | k+1,x0,x3,x4,x31=>if x31=true then (eN.l0 k x0 x3 (wrap64 (x4+1))) else (eN.l1 k x0 x3 x4 (wrap64 (x4+2)))
def eN.l1:Nat→ByteArray→List Int→Int→Int→Option (List Int)
 | 0,_,_,_,_=>none
 | k+1,x0,x3,x4,x5=>if x5 < (x0.size:Int) then (if 0≤x5 then (if (bt x0 x5)=95 then (if (wrap64 (x5+1))=(x0.size:Int) then (eN.l0 k x0 x3 (wrap64 (x5+1))) else (if 0≤(wrap64 (x5+1)) then (if (wrap64 (x5+1)) < (x0.size:Int) then (if (bt x0 (wrap64 (x5+1)))=46 then (eN.l0 k x0 x3 (wrap64 (x5+1))) else (eN.l1 k x0 x3 x4 (wrap64 (x5+1)))) else (none)) else (none))) else (eN.l1 k x0 x3 x4 (wrap64 (x5+1)))) else (none)) else (eN.l0 k x0 x3 (wrap64 (x4+1)))
end
def eN.f (k:Nat) (a0:ByteArray):Option (List Int):=eN.l0 k a0 ([]:List Int) 0
theorem eN.mono_l:∀ k,(∀ y0 y1 y2,LeO (eN.l0 k y0 y1 y2) (eN.l0 (k+1) y0 y1 y2))∧(∀ y0 y1 y2 y3,LeO (eN.j1 k y0 y1 y2 y3) (eN.j1 (k+1) y0 y1 y2 y3))∧(∀ y0 y1 y2 y3,LeO (eN.l1 k y0 y1 y2 y3) (eN.l1 (k+1) y0 y1 y2 y3))
 | 0=>⟨fun _ _ _ r h=>by simp[eN.l0] at h,fun _ _ _ _ r h=>by simp[eN.j1] at h,fun _ _ _ _ r h=>by simp[eN.l1] at h⟩
 | k+1=>by
  obtain ⟨ih0,ih1,ih2⟩:=eN.mono_l k;refine ⟨?_,?_,?_⟩
  ·intro y0 y1 y2;unfold eN.l0
   exact dG
  ·intro y0 y1 y2 y3;unfold eN.j1
   exact dG
  intro y0 y1 y2 y3;unfold eN.l1
  exact dG
theorem eN.mono:∀ a0 k,LeO (eN.f k a0) (eN.f (k+1) a0):=by
 intro a0 k;obtain ⟨ih0,ih1,ih2⟩:=eN.mono_l k;unfold eN.f
 exact dG
theorem eN.calls (k:Nat) (a0:ByteArray) (r:List Int) (w:World) (h:eN.f k a0=some r) :
 Calls Tryz.prog 86 #[.string a0] w fun e w'=>∃ v0_:Value,e = .returned (v0_)∧Kd.R (Kd.int .i64) 3 w' w.heap.size (fun _=>True) v0_ r∧Below w.heap.size w w':=by
 have HB:=cH (Below.refl w.heap.size w);unfold eN.f at h;have H:=h;clear h;have H':=cH H;clear H;go_enter Tryz.func86,Tryz.ntmps86;go_wp2
 go_loopg [3,4] k (fun kq v3 v4 w'=>∃ (x3_1:List Int) (x4_1:Int),v4 = .int .i64 x4_1∧Aside0 (eN.l0 kq a0 x3_1 x4_1=some r)∧Aside0 (kq≤k)∧Aside0 (Kd.R (Kd.int .i64) 3 w' w.heap.size (fun _=>True) v3 x3_1)∧Aside0 (Below w.heap.size w w'))
 case atStart=>exact ⟨(([]:List Int)),(0),bE,H',⟨Nat.le_refl _⟩,⟨by first | exact Kd.R_nil _ _ _ _ _ | exact Kd.N_nil _ _ _ _ _ | exact Kd.V_nil _ _ _ _ _ | exact Kd.Q_nil _ _ _ _ _ | exact Kd.S_nil _ _ _ _ _⟩,⟨aA⟩⟩
 case round =>
  clear H';obtain ⟨x3_1,x4_1,rfl,HA,HK1,HO_3,HB⟩:=hrel
  cases gk with
  | zero=>exact absurd HA.out (by simp[eN.l0])
  | succ k1 =>
   have H:=HA.out;clear HA;simp only[eN.l0] at H
   by_cases c2:x4_1 < (a0.size:Int)
   ·rw[if_pos c2] at H;have c2b0:=decide_eq_true c2;clear c2
    by_cases c3:0≤x4_1
    ·rw[if_pos c3] at H;have c3b0:=decide_eq_true c3;clear c3
     by_cases c5:(bt a0 x4_1)=46
     ·rw[if_pos c5] at H;have c5b0:=beq_iff_eq.mpr c5;have c5b1:=bne_eq_false_iff_eq.mpr c5;clear c5
      by_cases c6:x3_1.length < 17592186044416
      ·rw[if_pos c6] at H;have LMc6:=cH c6;clear c6
       obtain ⟨y124,hy124⟩:∃ y_:List Int,y_=(x3_1++[x4_1]):=⟨_,rfl⟩
       replace H:(if (wrap64 (x4_1+1))=(a0.size:Int) then (eN.j1 k1 a0 y124 x4_1 true) else (if 0≤(wrap64 (x4_1+1)) then (if (wrap64 (x4_1+1)) < (a0.size:Int) then (eN.j1 k1 a0 y124 x4_1 ((bt a0 (wrap64 (x4_1+1))) != 95)) else (none)) else (none)))=some r:=by first | (rw[hy124];with_reducible exact H) | (have H2_:=(Option.bind_some _ _).symm.trans H;rw[hy124];with_reducible exact H2_) | (have H2_:=(Option.bind_some _ _).symm.trans H;with_reducible exact H2_) | with_reducible exact H | (rw[hy124];exact H) | exact H
       have Ny124:=cH hy124;clear hy124;have HC7:=cH H;clear H;have p4:0≤(x4_1:Int):=cG;have q4:x4_1 < (a0.size:Int):=cG;have hx4:=eX a0 x4_1;replace p4:=eq_true p4;replace q4:=eq_true q4
       go_upto_region 7 with (first | ((with_reducible refine sB (b:=.append) (xs:=#[.tmp 16,.tmp 18]) rfl ?_);(try (refine iF bK ?_;dsimp only));at_builtin;refine Kd.R_append (Kd.int .i64) (w0:=w) w.heap.size rfl (.tmp 16) (.tmp 18) 80 3 (.int .i64 0) 8 rfl Tryz.underlying80 info3 rfl bH bA u3 x3_1 x4_1 [.int .i64 x4_1] (fun _=>True) (fun _=>False) rfl rfl ?aP (fun _ hk=>hk.elim) ?aF ?aO ?aB ?aS ?aL ?_;(case aP=>exact rfl);(case aB=>exact bC);(case aF=>exact (fun _ _=>trivial));(case aO=>exact (by (with_reducible repeat (first | apply Kd.R_alloc | apply Kd.R_drewN | apply Kd.R_drew));exact HO_3.out));(case aS=>exact (eP bC));(case aL=>have:=LMc6.out;omega);intro v125 w8 ho hb hg hat;rw[← Ny124.out] at ho;have n0_:=cH (hb);have n1_:=cH (ho);clear HB;clear HO_3;have HB:=n0_;have HO126:=n1_;clear n0_ n1_;clear ho hb hg hat))
       (try simp only[Act.put,List.setIfInBounds_toArray,List.set_cons_zero,List.set_cons_succ])
       go_cut [31] (fun v31 wc=>∃ (kq:Nat) (x31_6:Bool),v31 = .bool x31_6∧Aside0 (eN.j1 kq a0 y124 x4_1 x31_6=some r)∧Aside0 (kq≤k1)∧Aside0 (Kd.R (Kd.int .i64) 3 wc w.heap.size (fun _=>True) v125 y124)∧Aside0 (Below w.heap.size w wc))
       case first =>
        have H:=HC7.out;clear HC7
        by_cases c9:(wrap64 (x4_1+1))=(a0.size:Int)
        ·rw[if_pos c9] at H;have c9b0:=beq_iff_eq.mpr c9;have c9b1:=bne_eq_false_iff_eq.mpr c9;clear c9
         (first | rw[c9b0] | (simp only[jZ,mJ];rw[c9b0]) | skip)
         have H':=cH H;clear H;go_wp2
         go_meet
         case rel=>exact ⟨_,(true),bE,H',⟨dW⟩,⟨by (with_reducible repeat (first | apply Kd.R_alloc | apply Kd.R_drewN | apply Kd.R_drew));exact HO126.out⟩,⟨aA⟩⟩
        rw[if_neg c9] at H;have c9b0:=beq_eq_false_iff_ne.mpr c9;have c9b1:=bne_iff_ne.mpr c9
        (first | rw[c9b0] | (simp only[jZ,mJ];rw[c9b0]) | skip)
        obtain ⟨ji10,hji10⟩:∃ j_:Int,(wrap64 (x4_1+1))=j_:=⟨_,rfl⟩
        replace H:(if 0≤(ji10) then (if (ji10) < (a0.size:Int) then (eN.j1 k1 a0 y124 x4_1 ((bt a0 (ji10)) != 95)) else (none)) else (none))=some r:=by first | (rw[hji10] at H;exact H) | (simp only[hji10] at H ⊢;exact H)
        (try rw[hji10] at c9b0)
        (try rw[hji10] at c9b1)
        have hji10w:(IntKind.i64.wrap (x4_1+1))=ji10:=(jZ _).trans hji10
        by_cases c11:0≤(ji10)
        ·rw[if_pos c11] at H;have c11b0:=decide_eq_true c11;clear c11
         by_cases c12:(ji10) < (a0.size:Int)
         ·rw[if_pos c12] at H;have c12b0:=decide_eq_true c12;clear c12;have H':=cH H;clear H;have p13:0≤((ji10):Int):=cG;have q13:(ji10) < (a0.size:Int):=cG;have hx13:=eX a0 (ji10);replace p13:=eq_true p13;replace q13:=eq_true q13;go_wp2
          go_meet
          case rel=>exact ⟨_,(((bt a0 (ji10)) != 95)),(by first | rfl | (simp;done) | (simp only[← hji10] <;> (first | rfl | simp)) | (simp[*];done)),H',⟨dW⟩,⟨by (with_reducible repeat (first | apply Kd.R_alloc | apply Kd.R_drewN | apply Kd.R_drew));exact HO126.out⟩,⟨aA⟩⟩
         rw[if_neg c12] at H;exact absurd H bJ
        rw[if_neg c11] at H;exact absurd H bJ
       clear HC7
       (try clear c2);(try clear c2b0);(try clear c3);(try clear c3b0);(try clear p4);(try clear q4);(try clear hx4);(try clear c5);(try clear c5b0);(try clear c5b1);(try clear c6);(try clear p4);(try clear q4)
       obtain ⟨kq,x31_6,rfl,HA,HJ6,HO_3,HB⟩:=hcut
       cases kq with
       | zero=>exact absurd HA.out (by simp[eN.j1])
       | succ kj6 =>
        have H:=HA.out;clear HA;simp only[eN.j1] at H
        by_cases c14:x31_6=true
        ·subst c14;rw[if_pos rfl] at H;have H':=cH H;clear H;go_wp2
         go_roundg kj6
         case measure=>have:=HK1.out;have:=HJ6.out;omega
         case rel=>exact ⟨(y124),(wrap64 (x4_1+1)),bE,H',⟨by have:=HK1.out;have:=HJ6.out;omega⟩,⟨aJ⟩,⟨aA⟩⟩
        replace c14:=Bool.eq_false_iff.mpr c14;subst c14;rw[if_neg (show ¬ (false=true) by decide)] at H;have H':=cH H;clear H;go_wp2
        go_loopg [4,5] kj6 (fun kq v4 v5 w'=>∃ (x4_3:Int) (x5_3:Int),v4 = .int .i64 x4_3∧v5 = .int .i64 x5_3∧Aside0 (eN.l1 kq a0 y124 x4_3 x5_3=some r)∧Aside0 (kq≤kj6)∧Aside0 (Kd.R (Kd.int .i64) 3 w' w.heap.size (fun _=>True) v125 y124)∧Aside0 (Below w.heap.size w w'))
        case atStart=>exact ⟨(x4_1),(wrap64 (x4_1+2)),bE,bE,H',⟨Nat.le_refl _⟩,⟨aJ⟩,⟨aA⟩⟩
        case round =>
         clear H'
         (try clear c2);(try clear c2b0);(try clear c3);(try clear c3b0);(try clear p4);(try clear q4);(try clear hx4);(try clear c5);(try clear c5b0);(try clear c5b1);(try clear c6);(try clear c14);(try clear p4);(try clear q4)
         obtain ⟨x4_3,x5_3,rfl,rfl,HA,HK3,HO_3,HB⟩:=hrel
         cases gk with
         | zero=>exact absurd HA.out (by simp[eN.l1])
         | succ k3 =>
          have H:=HA.out;clear HA;simp only[eN.l1] at H
          by_cases c15:x5_3 < (a0.size:Int)
          ·rw[if_pos c15] at H;have c15b0:=decide_eq_true c15;clear c15
           by_cases c16:0≤x5_3
           ·rw[if_pos c16] at H;have c16b0:=decide_eq_true c16;clear c16
            by_cases c18:(bt a0 x5_3)=95
            ·rw[if_pos c18] at H;have c18b0:=beq_iff_eq.mpr c18;have c18b1:=bne_eq_false_iff_eq.mpr c18;clear c18
             by_cases c19:(wrap64 (x5_3+1))=(a0.size:Int)
             ·rw[if_pos c19] at H;have c19b0:=beq_iff_eq.mpr c19;have c19b1:=bne_eq_false_iff_eq.mpr c19;clear c19;have H':=cH H;clear H;have p17:0≤(x5_3:Int):=cG;have q17:x5_3 < (a0.size:Int):=cG;have hx17:=eX a0 x5_3;replace p17:=eq_true p17;replace q17:=eq_true q17;go_wp2
              go_roundg k3
              case measure=>have:=HK1.out;have:=HJ6.out;have:=HK3.out;omega
              case rel=>exact ⟨(y124),(wrap64 (x5_3+1)),bE,H',⟨dX⟩,⟨aJ⟩,⟨aA⟩⟩
             rw[if_neg c19] at H;have c19b0:=beq_eq_false_iff_ne.mpr c19;have c19b1:=bne_iff_ne.mpr c19
             obtain ⟨ji20,hji20⟩:∃ j_:Int,(wrap64 (x5_3+1))=j_:=⟨_,rfl⟩
             replace H:(if 0≤(ji20) then (if (ji20) < (a0.size:Int) then (if (bt a0 (ji20))=46 then (eN.l0 k3 a0 y124 ji20) else (eN.l1 k3 a0 y124 x4_3 ji20)) else (none)) else (none))=some r:=by first | (rw[hji20] at H;exact H) | (simp only[hji20] at H ⊢;exact H)
             (try rw[hji20] at c19b0)
             (try rw[hji20] at c19b1)
             have hji20w:(IntKind.i64.wrap (x5_3+1))=ji20:=(jZ _).trans hji20
             by_cases c21:0≤(ji20)
             ·rw[if_pos c21] at H;have c21b0:=decide_eq_true c21;clear c21
              by_cases c22:(ji20) < (a0.size:Int)
              ·rw[if_pos c22] at H;have c22b0:=decide_eq_true c22;clear c22
               by_cases c24:(bt a0 (ji20))=46
               ·rw[if_pos c24] at H;have c24b0:=beq_iff_eq.mpr c24;have c24b1:=bne_eq_false_iff_eq.mpr c24;clear c24;have H':=cH H;clear H;have p17:0≤(x5_3:Int):=cG;have q17:x5_3 < (a0.size:Int):=cG;have hx17:=eX a0 x5_3;replace p17:=eq_true p17;replace q17:=eq_true q17;have p23:0≤((ji20):Int):=cG;have q23:(ji20) < (a0.size:Int):=cG;have hx23:=eX a0 (ji20);replace p23:=eq_true p23;replace q23:=eq_true q23;go_wp2
                go_roundg k3
                case measure=>have:=HK1.out;have:=HJ6.out;have:=HK3.out;omega
                case rel=>exact ⟨(y124),(ji20),(by first | rfl | (simp;done) | (simp only[← hji20] <;> (first | rfl | simp)) | (simp[*];done)),H',⟨dX⟩,⟨aJ⟩,⟨aA⟩⟩
               rw[if_neg c24] at H;have c24b0:=beq_eq_false_iff_ne.mpr c24;have c24b1:=bne_iff_ne.mpr c24;have H':=cH H;clear H;have p17:0≤(x5_3:Int):=cG;have q17:x5_3 < (a0.size:Int):=cG;have hx17:=eX a0 x5_3;replace p17:=eq_true p17;replace q17:=eq_true q17;have p23:0≤((ji20):Int):=cG;have q23:(ji20) < (a0.size:Int):=cG;have hx23:=eX a0 (ji20);replace p23:=eq_true p23;replace q23:=eq_true q23;go_wp2
               go_roundg k3
               case measure=>have:=HK1.out;have:=HJ6.out;have:=HK3.out;omega
               case rel=>exact ⟨(x4_3),(ji20),bE,(by first | rfl | (simp;done) | (simp only[← hji20] <;> (first | rfl | simp)) | (simp[*];done)),H',⟨dX⟩,⟨aJ⟩,⟨aA⟩⟩
              rw[if_neg c22] at H;exact absurd H bJ
             rw[if_neg c21] at H;exact absurd H bJ
            rw[if_neg c18] at H;have c18b0:=beq_eq_false_iff_ne.mpr c18;have c18b1:=bne_iff_ne.mpr c18;have H':=cH H;clear H;have p17:0≤(x5_3:Int):=cG;have q17:x5_3 < (a0.size:Int):=cG;have hx17:=eX a0 x5_3;replace p17:=eq_true p17;replace q17:=eq_true q17;go_wp2
            go_roundg k3
            case measure=>have:=HK1.out;have:=HJ6.out;have:=HK3.out;omega
            case rel=>exact ⟨(x4_3),(wrap64 (x5_3+1)),bE,bE,H',⟨dX⟩,⟨aJ⟩,⟨aA⟩⟩
           rw[if_neg c16] at H;exact absurd H bJ
          rw[if_neg c15] at H;have c15b0:=decide_eq_false c15;clear c15;have H':=cH H;clear H;go_wp2
          go_roundg k3
          case measure=>have:=HK1.out;have:=HJ6.out;have:=HK3.out;omega
          case rel=>exact ⟨(y124),(wrap64 (x4_3+1)),bE,H',⟨dX⟩,⟨aJ⟩,⟨aA⟩⟩
      rw[if_neg c6] at H;exact absurd H bJ
     rw[if_neg c5] at H;have c5b0:=beq_eq_false_iff_ne.mpr c5;have c5b1:=bne_iff_ne.mpr c5;have H':=cH H;clear H;have p4:0≤(x4_1:Int):=cG;have q4:x4_1 < (a0.size:Int):=cG;have hx4:=eX a0 x4_1;replace p4:=eq_true p4;replace q4:=eq_true q4;go_wp2
     go_roundg k1
     case measure=>have:=HK1.out;omega
     case rel=>exact ⟨(x3_1),(wrap64 (x4_1+1)),bE,H',⟨aT⟩,⟨aJ⟩,⟨aA⟩⟩
    rw[if_neg c3] at H;exact absurd H bJ
   rw[if_neg c2] at H;have c2b0:=decide_eq_false c2;clear c2;obtain rfl:=Option.some.inj H;go_wp2;go_ret;exact ⟨_,aC,aJ,aA⟩
def kL.f (a0:ByteArray):Option (ByteArray×Bool):=if (a0.size:Int) < 3 then (some ((⟨#[]⟩:ByteArray),false)) else (if 0 < (a0.size:Int) then (if (bt a0 0)=95 then (if 0≤(wrap64 ((a0.size:Int) - 1)) then (if (wrap64 ((a0.size:Int) - 1)) < (a0.size:Int) then (if (bt a0 (wrap64 ((a0.size:Int) - 1)))=95 then (if 1≤(wrap64 ((a0.size:Int) - 1)) then (if (wrap64 ((a0.size:Int) - 1))≤(a0.size:Int) then (some (a0.extract 1 ((wrap64 ((a0.size:Int) - 1)):Int).toNat,true)) else (none)) else (none)) else (some ((⟨#[]⟩:ByteArray),false))) else (none)) else (none)) else (some ((⟨#[]⟩:ByteArray),false))) else (none))
theorem kL.calls (a0:ByteArray) (r1:ByteArray) (r2:Bool) (w:World) (h:kL.f a0=some (r1,r2)) :
 Calls Tryz.prog 87 #[.string a0] w fun e w'=>e = .returned (.tuple #[.string r1,.bool r2])∧eW w w':=by
 unfold kL.f at h;have H:=h;clear h
 by_cases c2:(a0.size:Int) < 3
 ·rw[if_pos c2] at H;have c2b0:=decide_eq_true c2;have c2b1:decide (a0.size < 3)=true:=decide_eq_true bA;clear c2;simp only[Option.some.injEq,Prod.mk.injEq] at H;obtain ⟨rfl,rfl⟩:=H;go_enter Tryz.func87,Tryz.ntmps87;go_wp2
  go_ret2
  exact ⟨bE,dM⟩
 rw[if_neg c2] at H;have c2b0:=decide_eq_false c2;have c2b1:decide (a0.size < 3)=false:=decide_eq_false bA;clear c2
 by_cases c3:0 < (a0.size:Int)
 ·rw[if_pos c3] at H;have c3b0:=decide_eq_true c3;have c3b1:decide (0 < a0.size)=true:=decide_eq_true bA;clear c3
  by_cases c5:(bt a0 0)=95
  ·rw[if_pos c5] at H;have c5b0:=beq_iff_eq.mpr c5;have c5b1:=bne_eq_false_iff_eq.mpr c5;clear c5
   obtain ⟨ji6,hji6⟩:∃ j_:Int,(wrap64 ((a0.size:Int) - 1))=j_:=⟨_,rfl⟩
   replace H:(if 0≤(ji6) then (if (ji6) < (a0.size:Int) then (if (bt a0 (ji6))=95 then (if 1≤(ji6) then (if (ji6)≤(a0.size:Int) then (some (a0.extract 1 ((ji6):Int).toNat,true)) else (none)) else (none)) else (some ((⟨#[]⟩:ByteArray),false))) else (none)) else (none))=some (r1,r2):=by first | (rw[hji6] at H;exact H) | (simp only[hji6] at H ⊢;exact H)
   have hji6w:(IntKind.i64.wrap ((a0.size:Int) - 1))=ji6:=(jZ _).trans hji6
   by_cases c7:0≤(ji6)
   ·rw[if_pos c7] at H;have c7b0:=decide_eq_true c7;clear c7
    by_cases c8:(ji6) < (a0.size:Int)
    ·rw[if_pos c8] at H;have c8b0:=decide_eq_true c8;clear c8
     by_cases c10:(bt a0 (ji6))=95
     ·rw[if_pos c10] at H;have c10b0:=beq_iff_eq.mpr c10;have c10b1:=bne_eq_false_iff_eq.mpr c10;clear c10
      by_cases c11:1≤(ji6)
      ·rw[if_pos c11] at H;have c11b0:=eq_true c11;have c11b1:=decide_eq_true c11;clear c11
       by_cases c12:(ji6)≤(a0.size:Int)
       ·rw[if_pos c12] at H;have c12b0:=eq_true c12;have c12b1:=decide_eq_true c12;clear c12;simp only[Option.some.injEq,Prod.mk.injEq] at H;obtain ⟨rfl,rfl⟩:=H
        have p4:0≤(0:Int):=bA
        have q4:0 < a0.size:=(by have:(0:Int) < (a0.size:Int):=cG;omega)
        have hx4:∀ h:0 < a0.size,((a0[0]'h).toNat:Int)=bt a0 0:=eX a0 0;clear p4;have qi4:(0 < (a0.size:Int))=True:=eq_true (cG);replace q4:=eq_true q4;have p9:0≤((ji6):Int):=cG;have q9:(ji6) < (a0.size:Int):=cG;have hx9:=eX a0 (ji6);replace p9:=eq_true p9;replace q9:=eq_true q9;go_enter Tryz.func87,Tryz.ntmps87;go_wp2
        go_ret2
        exact ⟨by first | rfl | (simp;done) | (simp only[← hji6] <;> (first | rfl | simp)) | (simp[*];done),dM⟩
       rw[if_neg c12] at H;exact absurd H bJ
      rw[if_neg c11] at H;exact absurd H bJ
     rw[if_neg c10] at H;have c10b0:=beq_eq_false_iff_ne.mpr c10;have c10b1:=bne_iff_ne.mpr c10;simp only[Option.some.injEq,Prod.mk.injEq] at H;obtain ⟨rfl,rfl⟩:=H
     have p4:0≤(0:Int):=bA
     have q4:0 < a0.size:=(by have:(0:Int) < (a0.size:Int):=cG;omega)
     have hx4:∀ h:0 < a0.size,((a0[0]'h).toNat:Int)=bt a0 0:=eX a0 0;clear p4;have qi4:(0 < (a0.size:Int))=True:=eq_true (cG);replace q4:=eq_true q4;have p9:0≤((ji6):Int):=cG;have q9:(ji6) < (a0.size:Int):=cG;have hx9:=eX a0 (ji6);replace p9:=eq_true p9;replace q9:=eq_true q9;go_enter Tryz.func87,Tryz.ntmps87;go_wp2
     go_ret2
     exact ⟨by first | rfl | (simp;done) | (simp only[← hji6] <;> (first | rfl | simp)) | (simp[*];done),dM⟩
    rw[if_neg c8] at H;exact absurd H bJ
   rw[if_neg c7] at H;exact absurd H bJ
  rw[if_neg c5] at H;have c5b0:=beq_eq_false_iff_ne.mpr c5;have c5b1:=bne_iff_ne.mpr c5;simp only[Option.some.injEq,Prod.mk.injEq] at H;obtain ⟨rfl,rfl⟩:=H
  have p4:0≤(0:Int):=bA
  have q4:0 < a0.size:=(by have:(0:Int) < (a0.size:Int):=cG;omega)
  have hx4:∀ h:0 < a0.size,((a0[0]'h).toNat:Int)=bt a0 0:=eX a0 0;clear p4;have qi4:(0 < (a0.size:Int))=True:=eq_true (cG);replace q4:=eq_true q4;go_enter Tryz.func87,Tryz.ntmps87;go_wp2
  go_ret2
  exact ⟨bE,dM⟩
 rw[if_neg c3] at H;exact absurd H bJ
def kO.f (a0:ByteArray) (a1:ByteArray):Option (Bool):=if (a0.size:Int)≥(a1.size:Int) then (if 0≤(a1.size:Int) then (if (a1.size:Int)≤(a0.size:Int) then (some ((a0.extract 0 ((a1.size:Int):Int).toNat).toList==a1.toList)) else (none)) else (none)) else (some false)
theorem kO.calls (a0:ByteArray) (a1:ByteArray) (r:Bool) (w:World) (h:kO.f a0 a1=some r) :
 Calls Tryz.prog 88 #[.string a0,.string a1] w fun e w'=>e = .returned (.bool r)∧eW w w':=by
 unfold kO.f at h;have H:=h;clear h
 by_cases c3:(a0.size:Int)≥(a1.size:Int)
 ·rw[if_pos c3] at H;have c3b0:=decide_eq_true c3;have c3b1:decide (a1.size≤a0.size)=true:=decide_eq_true (Int.ofNat_le.mp c3);clear c3
  by_cases c4:0≤(a1.size:Int)
  ·rw[if_pos c4] at H;have c4b0:=eq_true c4;have c4b1:=decide_eq_true c4;clear c4
   by_cases c5:(a1.size:Int)≤(a0.size:Int)
   ·rw[if_pos c5] at H;have c5b0:=eq_true c5;have c5b1:=decide_eq_true c5;clear c5;obtain rfl:=Option.some.inj H;go_enter Tryz.func88,Tryz.ntmps88;go_wp2;go_ret;exact ⟨bE,dM⟩
   rw[if_neg c5] at H;exact absurd H bJ
  rw[if_neg c4] at H;exact absurd H bJ
 rw[if_neg c3] at H;have c3b0:=decide_eq_false c3;have c3b1:decide (a1.size≤a0.size)=false:=decide_eq_false (fun h=>c3 (Int.ofNat_le.mpr h));clear c3;obtain rfl:=Option.some.inj H;go_enter Tryz.func88,Tryz.ntmps88;go_wp2;go_ret;exact ⟨bE,dM⟩
def kO.Pure:Prop:=∀ (a0:ByteArray) (a1:ByteArray),a0.size≤140737488351232→a1.size≤140737488351232→kO.f a0 a1=some true
theorem kO.walk (P:kO.Pure) (a0:ByteArray) (a1:ByteArray) (w:World) (w0:a0.size≤140737488351232) (w1:a1.size≤140737488351232) :
 Calls Tryz.prog 88 #[.string a0,.string a1] w fun e w'=>e = .returned (.bool true)∧Below w.heap.size w w':=by
 have h:=P a0 a1 w0 w1;refine (kO.calls a0 a1 true w h).mono ?_;rintro e w' ⟨rfl,hd⟩;exact ⟨rfl,hd.below⟩
end Go.Proofs.YtcdgldnphhidlaaGreatDoor.PCore
namespace Go.Proofs.YtcdgldnphhidlaaGreatDoor.PCore
open Go.RowKit Go.ZW.PrintWords Go.ZW.PrintLast Go.ZW.PrintMore
attribute [local go_sem] kF kH lE lF jR jS kG kI   -- for this text's walks alone
mutual
def eE.j0:Nat→ByteArray→ByteArray→List Int→Bool→Option (Bool)
 | 0,_,_,_,_=>none
 | k+1,x0,x1,x5,x53=>if x53=true then (some false) else (eE.l0 k x0 x1 x5 ([]:List ByteArray) 0 0)
def eE.l0:Nat→ByteArray→ByteArray→List Int→List ByteArray→Int→Int→Option (Bool)
 | 0,_,_,_,_,_,_=>none
 | k+1,x0,x1,x5,x8,x9,x10=>if x10≤(x5.length:Int) then (eE.j2 k x0 x1 x5 x8 x9 x10 (x0.toList==([108,97,121,111,117,116,115]:List UInt8))) else (eE.j2 k x0 x1 x5 x8 x9 x10 false)
def eE.j2:Nat→ByteArray→ByteArray→List Int→List ByteArray→Int→Int→Bool→Option (Bool)
 | 0,_,_,_,_,_,_,_=>none
 | k+1,x0,x1,x5,x8,x9,x10,x61=>if x61=true then (if x10 < (x5.length:Int) then (if 0≤x10 then (eE.j3 k x0 x1 x5 x8 x9 x10 (rd x5 x10)) else (none)) else (eE.j3 k x0 x1 x5 x8 x9 x10 (x1.size:Int))) else (some true)
def eE.j3:Nat→ByteArray→ByteArray→List Int→List ByteArray→Int→Int→Int→Option (Bool)
 | 0,_,_,_,_,_,_,_=>none
 | k+1,x0,x1,x5,x8,x9,x10,x11=>if 0≤x9 then (if x9≤x11 then (if x11≤(x1.size:Int) then (if (x1.extract (x9:Int).toNat (x11:Int).toNat).toList=([]:List UInt8) then (some false) else ((kL.f (x1.extract (x9:Int).toNat (x11:Int).toNat)).bind fun bt136=>((some (([(⟨#[111,117,116,112,117,116,102,111,114,109,97,116,95]⟩:ByteArray),(⟨#[107,105,110,100,95]⟩:ByteArray),(⟨#[108,97,121,111,117,116,95]⟩:ByteArray)]:List ByteArray):List ByteArray)).bind fun y138=>(eE.l1 k x0 x1 x5 x8 x10 x11 bt136.1 bt136.2 y138 (y138.length:Int) 0)))) else (none)) else (none)) else (none)
def eE.l1:Nat→ByteArray→ByteArray→List Int→List ByteArray→Int→Int→ByteArray→Bool→List ByteArray→Int→Int→Option (Bool)
 | 0,_,_,_,_,_,_,_,_,_,_,_=>none
 | k+1,x0,x1,x5,x8,x10,x11,x13,x14,x85,x86,x87=>if x87 < x86 then (if 0≤x87 then (if x87 < (x85.length:Int) then (if x14=true then ((jO.f x13).bind fun t142=>((kO.f t142 (gE ByteArray.empty x85 x87)).bind fun t143=>(eE.j5 k x0 x1 x5 x8 x10 x11 x13 x14 (gE ByteArray.empty x85 x87) x85 x86 x87 t143))) else (eE.j5 k x0 x1 x5 x8 x10 x11 x13 x14 (gE ByteArray.empty x85 x87) x85 x86 x87 false)) else (none)) else (none)) else (eE.l0 k x0 x1 x5 x8 (wrap64 (x11+1)) (wrap64 (x10+1)))
def eE.j5:Nat→ByteArray→ByteArray→List Int→List ByteArray→Int→Int→ByteArray→Bool→ByteArray→List ByteArray→Int→Int→Bool→Option (Bool)
 | 0,_,_,_,_,_,_,_,_,_,_,_,_,_=>none
 | k+1,x0,x1,x5,x8,x10,x11,x13,x14,x16,x85,x86,x87,x97=>if x97=true then ((fP.f k x8 x16).bind fun t144=>(if t144=true then (some false) else (if (x13.size:Int)=(x16.size:Int) then (some false) else (if x8.length < 8796093022208 then (eE.l1 k x0 x1 x5 (x8++[x16]) x10 x11 x13 x14 x85 x86 (wrap64 (x87+1))) else (none))))) else (eE.l1 k x0 x1 x5 x8 x10 x11 x13 x14 x85 x86 (wrap64 (x87+1)))
end
def eE.f (k:Nat) (a0:ByteArray) (a1:ByteArray):Option (Bool):=(eN.f k a1).bind fun t127=>(if (t127.length:Int)=0 then (some true) else (if 0≤(wrap64 ((t127.length:Int) - 1)) then (if (wrap64 ((t127.length:Int) - 1)) < (t127.length:Int) then (if 0≤(wrap64 ((rd t127 (wrap64 ((t127.length:Int) - 1)))+1)) then (if (wrap64 ((rd t127 (wrap64 ((t127.length:Int) - 1)))+1))≤(a1.size:Int) then ((kL.f (a1.extract ((wrap64 ((rd t127 (wrap64 ((t127.length:Int) - 1)))+1)):Int).toNat a1.size)).bind fun bt131=>(if bt131.2=true then (eE.j0 k a0 a1 t127 true) else (if 0 < (t127.length:Int) then (if (rd t127 0)=0 then (eE.j0 k a0 a1 t127 true) else (eE.j0 k a0 a1 t127 ((wrap64 ((rd t127 (wrap64 ((t127.length:Int) - 1)))+1))==(a1.size:Int)))) else (none)))) else (none)) else (none)) else (none)) else (none)))
theorem eE.mono_l:∀ k,(∀ y0 y1 y2 y3,LeO (eE.j0 k y0 y1 y2 y3) (eE.j0 (k+1) y0 y1 y2 y3))∧(∀ y0 y1 y2 y3 y4 y5,LeO (eE.l0 k y0 y1 y2 y3 y4 y5) (eE.l0 (k+1) y0 y1 y2 y3 y4 y5))∧(∀ y0 y1 y2 y3 y4 y5 y6,LeO (eE.j2 k y0 y1 y2 y3 y4 y5 y6) (eE.j2 (k+1) y0 y1 y2 y3 y4 y5 y6))∧(∀ y0 y1 y2 y3 y4 y5 y6,LeO (eE.j3 k y0 y1 y2 y3 y4 y5 y6) (eE.j3 (k+1) y0 y1 y2 y3 y4 y5 y6))∧(∀ y0 y1 y2 y3 y4 y5 y6 y7 y8 y9 y10,LeO (eE.l1 k y0 y1 y2 y3 y4 y5 y6 y7 y8 y9 y10) (eE.l1 (k+1) y0 y1 y2 y3 y4 y5 y6 y7 y8 y9 y10))∧(∀ y0 y1 y2 y3 y4 y5 y6 y7 y8 y9 y10 y11 y12,LeO (eE.j5 k y0 y1 y2 y3 y4 y5 y6 y7 y8 y9 y10 y11 y12) (eE.j5 (k+1) y0 y1 y2 y3 y4 y5 y6 y7 y8 y9 y10 y11 y12))
 | 0=>⟨fun _ _ _ _ r h=>by simp[eE.j0] at h,fun _ _ _ _ _ _ r h=>by simp[eE.l0] at h,fun _ _ _ _ _ _ _ r h=>by simp[eE.j2] at h,fun _ _ _ _ _ _ _ r h=>by simp[eE.j3] at h,fun _ _ _ _ _ _ _ _ _ _ _ r h=>by simp[eE.l1] at h,fun _ _ _ _ _ _ _ _ _ _ _ _ _ r h=>by simp[eE.j5] at h⟩
 | k+1=>by
  obtain ⟨ih0,ih1,ih2,ih3,ih4,ih5⟩:=eE.mono_l k;refine ⟨?_,?_,?_,?_,?_,?_⟩
  ·intro y0 y1 y2 y3;unfold eE.j0
   exact dH
  ·intro y0 y1 y2 y3 y4 y5;unfold eE.l0
   exact dH
  ·intro y0 y1 y2 y3 y4 y5 y6;unfold eE.j2
   exact dH
  ·intro y0 y1 y2 y3 y4 y5 y6;unfold eE.j3
   exact dH
  ·intro y0 y1 y2 y3 y4 y5 y6 y7 y8 y9 y10;unfold eE.l1
   exact dH
  intro y0 y1 y2 y3 y4 y5 y6 y7 y8 y9 y10 y11 y12;unfold eE.j5
  exact dH
theorem eE.mono:∀ a0 a1 k,LeO (eE.f k a0 a1) (eE.f (k+1) a0 a1):=by
 intro a0 a1 k;obtain ⟨ih0,ih1,ih2,ih3,ih4,ih5⟩:=eE.mono_l k;unfold eE.f
 exact dH
theorem eE.calls (k:Nat) (a0:ByteArray) (a1:ByteArray) (r:Bool) (w:World) (h:eE.f k a0 a1=some r) :
 Calls Tryz.prog 61 #[.string a0,.string a1] w fun e w'=>e = .returned (.bool r)∧Below w.heap.size w w':=by
 have HB:=cH (Below.refl w.heap.size w)
 unfold eE.f at h;have H:=h;clear h
 replace H:=Option.bind_eq_some_iff.mp H;obtain ⟨t127,A30,H⟩:=H;have A3:=cH A30;clear A30
 by_cases c4:(t127.length:Int)=0
 ·rw[if_pos c4] at H;have c4b0:=beq_iff_eq.mpr c4;have c4b1:=bne_eq_false_iff_eq.mpr c4;clear c4;obtain rfl:=Option.some.inj H;go_enter Tryz.func61,Tryz.ntmps61
  go_wp2_with (first | ((with_reducible refine fE (f:=86) rfl ?_);refine gP (some 18) rfl rfl Tryz.func86 bB rfl #[.string a1] rfl bD ?_;(with_reducible refine (eN.calls k a1 t127 _ A3.out).mono ?_);rintro e w5 ⟨v128,rfl,ho0,hb⟩;refine ⟨_,rfl,?_⟩;have HO129:=cH (Kd.R_lower ho0 (eP bC));replace HB:=cH (eB bC hb);(try clear hb);(try clear hb2);(try clear hk);(try clear hi);(try clear ho0);obtain ⟨Ao6,co6,eo6⟩:=Kd.R_slice HO129.out;subst eo6))
  go_ret;exact ⟨aC,aA⟩
 rw[if_neg c4] at H;have c4b0:=beq_eq_false_iff_ne.mpr c4;have c4b1:=bne_iff_ne.mpr c4;have c4b2:¬ (t127=[]):=fun h_=>c4 (by rw[h_];rfl)
 obtain ⟨ji7,hji7⟩:∃ j_:Int,(wrap64 ((t127.length:Int) - 1))=j_:=⟨_,rfl⟩
 replace H:(if 0≤(ji7) then (if (ji7) < (t127.length:Int) then (if 0≤(wrap64 ((rd t127 (ji7))+1)) then (if (wrap64 ((rd t127 (ji7))+1))≤(a1.size:Int) then ((kL.f (a1.extract ((wrap64 ((rd t127 (ji7))+1)):Int).toNat a1.size)).bind fun bt131=>(if bt131.2=true then (eE.j0 k a0 a1 t127 true) else (if 0 < (t127.length:Int) then (if (rd t127 0)=0 then (eE.j0 k a0 a1 t127 true) else (eE.j0 k a0 a1 t127 ((wrap64 ((rd t127 (ji7))+1))==(a1.size:Int)))) else (none)))) else (none)) else (none)) else (none)) else (none))=some r:=by first | (rw[hji7] at H;exact H) | (simp only[hji7] at H ⊢;exact H)
 (try rw[hji7] at A3)
 have hji7w:(IntKind.i64.wrap ((t127.length:Int) - 1))=ji7:=(jZ _).trans hji7
 by_cases c8:0≤(ji7)
 ·rw[if_pos c8] at H;have c8b0:=decide_eq_true c8;clear c8
  by_cases c9:(ji7) < (t127.length:Int)
  ·rw[if_pos c9] at H;have c9b0:=decide_eq_true c9;clear c9
   obtain ⟨ji10,hji10⟩:∃ j_:Int,(wrap64 ((rd t127 (ji7))+1))=j_:=⟨_,rfl⟩
   replace H:(if 0≤(ji10) then (if (ji10)≤(a1.size:Int) then ((kL.f (a1.extract ((ji10):Int).toNat a1.size)).bind fun bt131=>(if bt131.2=true then (eE.j0 k a0 a1 t127 true) else (if 0 < (t127.length:Int) then (if (rd t127 0)=0 then (eE.j0 k a0 a1 t127 true) else (eE.j0 k a0 a1 t127 ((ji10)==(a1.size:Int)))) else (none)))) else (none)) else (none))=some r:=by first | (rw[hji10] at H;exact H) | (simp only[hji10] at H ⊢;exact H)
   (try rw[hji10] at A3)
   have hji10w:(IntKind.i64.wrap ((rd t127 (ji7))+1))=ji10:=(jZ _).trans hji10
   by_cases c11:0≤(ji10)
   ·rw[if_pos c11] at H;have c11b0:=eq_true c11;have c11b1:=decide_eq_true c11;clear c11
    by_cases c12:(ji10)≤(a1.size:Int)
    ·rw[if_pos c12] at H;have c12b0:=eq_true c12;have c12b1:=decide_eq_true c12;clear c12;replace H:=Option.bind_eq_some_iff.mp H;obtain ⟨⟨t131,t132⟩,A130,H⟩:=H;replace H:(if t132=true then (eE.j0 k a0 a1 t127 true) else (if 0 < (t127.length:Int) then (if (rd t127 0)=0 then (eE.j0 k a0 a1 t127 true) else (eE.j0 k a0 a1 t127 ((ji10)==(a1.size:Int)))) else (none)))=some r:=H;have A13:=cH A130;clear A130;have HC14:=cH H;clear H;go_enter Tryz.func61,Tryz.ntmps61
     go_upto_region 5 with (first | ((with_reducible refine fE (f:=86) rfl ?_);refine gP (some 18) rfl rfl Tryz.func86 bB rfl #[.string a1] rfl bD ?_;(with_reducible refine (eN.calls k a1 t127 _ A3.out).mono ?_);rintro e w15 ⟨v128,rfl,ho0,hb⟩;refine ⟨_,rfl,?_⟩;have HO129:=cH (Kd.R_lower ho0 (eP bC));replace HB:=cH (eB bC hb);(try clear hb);(try clear hb2);(try clear hk);(try clear hi);(try clear ho0);obtain ⟨Ao16,co16,eo16⟩:=Kd.R_slice HO129.out;subst eo16;have p130:0≤((ji7):Int):=cG;have q130:(ji7) < (t127.length:Int):=cG;obtain ⟨ad130,e130,hx130_0⟩:=Kd.at_int (Kd.R_reads' HO129.out).2.2 (ji7) p130 q130;cases e130;replace p130:=eq_true p130;replace q130:=eq_true q130) | ((with_reducible refine fE (f:=87) rfl ?_);refine gP (some 32) rfl rfl Tryz.func87 bB rfl #[.string (a1.extract ((ji10):Int).toNat a1.size)] rfl (by (try simp only[List.map_toArray,List.map_cons,List.map_nil]);first | done | (simp only[hji10];rfl) | rfl | (simp only[List.length_drop,List.length_take];rfl)) ?_;(with_reducible refine (kL.calls (a1.extract ((ji10):Int).toNat a1.size) t131 t132 _ A13.out).mono ?_);rintro e w' ⟨rfl,⟨nd,rfl⟩⟩;refine ⟨_,rfl,?_⟩))
     (try simp only[Act.put,List.setIfInBounds_toArray,List.set_cons_zero,List.set_cons_succ])
     go_cut [53] (fun v53 wc=>∃ (kq:Nat) (x53_13:Bool),v53 = .bool x53_13∧Aside0 (eE.j0 kq a0 a1 t127 x53_13=some r)∧Aside0 (kq≤k)∧Aside0 (Kd.R (Kd.int .i64) 3 wc w.heap.size (fun _=>True) (.slice (some ad130) t127.length co16) t127)∧Aside0 (Below w.heap.size w wc))
     case first =>
      have H:=HC14.out;clear HC14
      by_cases c17:t132=true
      ·subst c17;rw[if_pos rfl] at H;have H':=cH H;clear H;go_wp2
       go_meet
       case rel=>exact ⟨_,(true),bE,H',⟨dV⟩,⟨dS⟩,⟨aA⟩⟩
      replace c17:=Bool.eq_false_iff.mpr c17;subst c17;rw[if_neg (show ¬ (false=true) by decide)] at H
      by_cases c18:0 < (t127.length:Int)
      ·rw[if_pos c18] at H;have c18b0:=decide_eq_true c18;have c18b1:decide (0 < t127.length)=true:=decide_eq_true bA;clear c18
       (first | rw[c18b0] | (simp only[jZ,mJ];rw[c18b0]) | skip)
       by_cases c19:(rd t127 0)=0
       ·rw[if_pos c19] at H;have c19b0:=beq_iff_eq.mpr c19;have c19b1:=bne_eq_false_iff_eq.mpr c19;clear c19;have H':=cH H;clear H
        have p133:0≤(0:Int):=bA
        have q133:0 < (t127.length:Int):=cG;obtain ⟨ad133,e133,hx133_0⟩:=Kd.at_int (Kd.R_reads' HO129.out).2.2 0 p133 q133
        obtain rfl:ad130=ad133:=(by injection e133)
        have qi133:(0 < t127.length)=True:=eq_true bA
        (try rw[show ((0:Int)).toNat=0 from rfl] at hx133_0)
        (try rw[Addr.add_zero'] at hx133_0)
        replace p133:=eq_true p133;replace q133:=eq_true q133;go_wp2
        go_meet
        case rel=>exact ⟨_,(true),bE,H',⟨dV⟩,⟨dS⟩,⟨aA⟩⟩
       rw[if_neg c19] at H;have c19b0:=beq_eq_false_iff_ne.mpr c19;have c19b1:=bne_iff_ne.mpr c19;have H':=cH H;clear H
       have p133:0≤(0:Int):=bA
       have q133:0 < (t127.length:Int):=cG;obtain ⟨ad133,e133,hx133_0⟩:=Kd.at_int (Kd.R_reads' HO129.out).2.2 0 p133 q133
       obtain rfl:ad130=ad133:=(by injection e133)
       have qi133:(0 < t127.length)=True:=eq_true bA
       (try rw[show ((0:Int)).toNat=0 from rfl] at hx133_0)
       (try rw[Addr.add_zero'] at hx133_0)
       replace p133:=eq_true p133;replace q133:=eq_true q133;have p134:0≤((ji7):Int):=cG;have q134:(ji7) < (t127.length:Int):=cG;obtain ⟨ad134,e134,hx134_0⟩:=Kd.at_int (Kd.R_reads' HO129.out).2.2 (ji7) p134 q134
       obtain rfl:ad130=ad134:=(by injection e134)
       replace p134:=eq_true p134;replace q134:=eq_true q134;go_wp2
       go_meet
       case rel=>exact ⟨_,(((ji10)==(a1.size:Int))),(by first | rfl | (simp;done) | (simp only[← hji10] <;> (first | rfl | simp)) | (simp[*];done)),H',⟨dV⟩,⟨dS⟩,⟨aA⟩⟩
      rw[if_neg c18] at H;exact absurd H bJ
     clear HC14
     (try clear c4);(try clear c4b0);(try clear c4b1);(try clear c4b2);(try clear c8);(try clear c8b0);(try clear c9);(try clear c9b0);(try clear c11);(try clear c11b0);(try clear c11b1);(try clear c12);(try clear c12b0);(try clear c12b1);(try clear hx130_0);(try clear p130);(try clear q130)
     obtain ⟨kq,x53_13,rfl,HA,HJ13,HO_5,HB⟩:=hcut
     cases kq with
     | zero=>exact absurd HA.out (by simp[eE.j0])
     | succ kj13 =>
      have H:=HA.out;clear HA;simp only[eE.j0] at H
      by_cases c20:x53_13=true
      ·subst c20;rw[if_pos rfl] at H;obtain rfl:=Option.some.inj H;go_wp2;go_ret;exact ⟨aK,aA⟩
      replace c20:=Bool.eq_false_iff.mpr c20;subst c20;rw[if_neg (show ¬ (false=true) by decide)] at H;have H':=cH H;clear H;go_wp2
      go_loopg [8,9,10] kj13 (fun kq v8 v9 v10 w'=>∃ (x8_2:List ByteArray) (x9_2:Int) (x10_2:Int),v9 = .int .i64 x9_2∧v10 = .int .i64 x10_2∧Aside0 (eE.l0 kq a0 a1 t127 x8_2 x9_2 x10_2=some r)∧Aside0 (kq≤kj13)∧Aside0 (Kd.R (Kd.int .i64) 3 w' w.heap.size (fun _=>True) (.slice (some ad130) t127.length co16) t127)∧Aside0 (Kd.R Kd.string 9 w' w.heap.size (fun _=>True) v8 x8_2)∧Aside0 (Below w.heap.size w w'))
      case atStart=>exact ⟨(([]:List ByteArray)),(0),(0),bE,bE,H',⟨Nat.le_refl _⟩,⟨aH⟩,⟨by first | exact Kd.R_nil _ _ _ _ _ | exact Kd.N_nil _ _ _ _ _ | exact Kd.V_nil _ _ _ _ _ | exact Kd.Q_nil _ _ _ _ _ | exact Kd.S_nil _ _ _ _ _⟩,⟨aA⟩⟩
      case round =>
       clear H'
       (try clear c4);(try clear c4b0);(try clear c4b1);(try clear c4b2);(try clear c8);(try clear c8b0);(try clear c9);(try clear c9b0);(try clear c11);(try clear c11b0);(try clear c11b1);(try clear c12);(try clear c12b0);(try clear c12b1);(try clear c20);(try clear hx130_0);(try clear p130);(try clear q130)
       obtain ⟨x8_2,x9_2,x10_2,rfl,rfl,HA,HK2,HO_5,HO_8,HB⟩:=hrel
       cases gk with
       | zero=>exact absurd HA.out (by simp[eE.l0])
       | succ k2 =>
        have H:=HA.out;clear HA;simp only[eE.l0] at H;have HC21:=cH H;clear H
        go_upto_region 10 with (fail)
        go_cut [61] (fun v61 wc=>∃ (kq:Nat) (x61_20:Bool),v61 = .bool x61_20∧Aside0 (eE.j2 kq a0 a1 t127 x8_2 x9_2 x10_2 x61_20=some r)∧Aside0 (kq≤k2)∧Aside0 (Kd.R (Kd.int .i64) 3 wc w.heap.size (fun _=>True) (.slice (some ad130) t127.length co16) t127)∧Aside0 (Kd.R Kd.string 9 wc w.heap.size (fun _=>True) u8 x8_2)∧Aside0 (Below w.heap.size w wc))
        case first =>
         have H:=HC21.out;clear HC21
         by_cases c22:x10_2≤(t127.length:Int)
         ·rw[if_pos c22] at H;have c22b0:=decide_eq_true c22;clear c22
          (first | rw[c22b0] | (simp only[jZ,mJ];rw[c22b0]) | skip)
          have H':=cH H;clear H;go_wp2
          go_meet
          case rel=>exact ⟨_,((a0.toList==([108,97,121,111,117,116,115]:List UInt8))),bE,H',⟨by have:=HJ13.out;have:=HK2.out;first | omega | exact Nat.le_refl _⟩,⟨aH⟩,⟨aR⟩,⟨aA⟩⟩
         rw[if_neg c22] at H;have c22b0:=decide_eq_false c22;clear c22
         (first | rw[c22b0] | (simp only[jZ,mJ];rw[c22b0]) | skip)
         have H':=cH H;clear H;go_wp2
         go_meet
         case rel=>exact ⟨_,(false),bE,H',⟨by have:=HJ13.out;have:=HK2.out;first | omega | exact Nat.le_refl _⟩,⟨aH⟩,⟨aR⟩,⟨aA⟩⟩
        clear HC21
        (try clear c4);(try clear c4b0);(try clear c4b1);(try clear c4b2);(try clear c8);(try clear c8b0);(try clear c9);(try clear c9b0);(try clear c11);(try clear c11b0);(try clear c11b1);(try clear c12);(try clear c12b0);(try clear c12b1);(try clear c20);(try clear hx130_0);(try clear p130);(try clear q130)
        obtain ⟨kq,x61_20,rfl,HA,HJ20,HO_5,HO_8,HB⟩:=hcut
        cases kq with
        | zero=>exact absurd HA.out (by simp[eE.j2])
        | succ kj20 =>
         have H:=HA.out;clear HA;simp only[eE.j2] at H
         by_cases c23:x61_20=true
         ·subst c23;rw[if_pos rfl] at H;have HC24:=cH H;clear H
          go_upto_if 69 with (fail)
          go_cut [11] (fun v11 wc=>∃ (kq:Nat) (x11_23:Int),v11 = .int .i64 x11_23∧Aside0 (eE.j3 kq a0 a1 t127 x8_2 x9_2 x10_2 x11_23=some r)∧Aside0 (kq≤kj20)∧Aside0 (Kd.R (Kd.int .i64) 3 wc w.heap.size (fun _=>True) (.slice (some ad130) t127.length co16) t127)∧Aside0 (Kd.R Kd.string 9 wc w.heap.size (fun _=>True) u8 x8_2)∧Aside0 (Below w.heap.size w wc))
          case first =>
           have H:=HC24.out;clear HC24
           by_cases c25:x10_2 < (t127.length:Int)
           ·rw[if_pos c25] at H;have c25b0:=decide_eq_true c25;clear c25
            (first | rw[c25b0] | (simp only[jZ,mJ];rw[c25b0]) | skip)
            by_cases c26:0≤x10_2
            ·rw[if_pos c26] at H;have c26b0:=decide_eq_true c26;clear c26;have H':=cH H;clear H;have p135:0≤(x10_2:Int):=cG;have q135:x10_2 < (t127.length:Int):=cG;obtain ⟨ad135,e135,hx135_0⟩:=Kd.at_int (Kd.R_reads' HO_5.out).2.2 x10_2 p135 q135
             obtain rfl:ad130=ad135:=(by injection e135)
             replace p135:=eq_true p135;replace q135:=eq_true q135;go_wp2
             go_meet
             case rel=>exact ⟨_,(rd t127 x10_2),bE,H',⟨by have:=HJ13.out;have:=HK2.out;have:=HJ20.out;first | omega | exact Nat.le_refl _⟩,⟨aH⟩,⟨aR⟩,⟨aA⟩⟩
            rw[if_neg c26] at H;exact absurd H bJ
           rw[if_neg c25] at H;have c25b0:=decide_eq_false c25;clear c25
           (first | rw[c25b0] | (simp only[jZ,mJ];rw[c25b0]) | skip)
           have H':=cH H;clear H;go_wp2
           go_meet
           case rel=>exact ⟨_,((a1.size:Int)),bE,H',⟨by have:=HJ13.out;have:=HK2.out;have:=HJ20.out;first | omega | exact Nat.le_refl _⟩,⟨aH⟩,⟨aR⟩,⟨aA⟩⟩
          clear HC24
          (try clear c4);(try clear c4b0);(try clear c4b1);(try clear c4b2);(try clear c8);(try clear c8b0);(try clear c9);(try clear c9b0);(try clear c11);(try clear c11b0);(try clear c11b1);(try clear c12);(try clear c12b0);(try clear c12b1);(try clear c20);(try clear c23);(try clear hx130_0);(try clear p130);(try clear q130)
          obtain ⟨kq,x11_23,rfl,HA,HJ23,HO_5,HO_8,HB⟩:=hcut
          cases kq with
          | zero=>exact absurd HA.out (by simp[eE.j3])
          | succ kj23 =>
           have H:=HA.out;clear HA;simp only[eE.j3] at H
           by_cases c27:0≤x9_2
           ·rw[if_pos c27] at H;have c27b0:=eq_true c27;have c27b1:=decide_eq_true c27;clear c27
            by_cases c28:x9_2≤x11_23
            ·rw[if_pos c28] at H;have c28b0:=eq_true c28;have c28b1:=decide_eq_true c28;clear c28
             by_cases c29:x11_23≤(a1.size:Int)
             ·rw[if_pos c29] at H;have c29b0:=eq_true c29;have c29b1:=decide_eq_true c29;clear c29
              by_cases c30:(a1.extract (x9_2:Int).toNat (x11_23:Int).toNat).toList=([]:List UInt8)
              ·rw[if_pos c30] at H;have c30b0:=beq_iff_eq.mpr c30;have c30b1:=bne_eq_false_iff_eq.mpr c30;clear c30;obtain rfl:=Option.some.inj H;go_wp2;go_ret;exact ⟨aK,aA⟩
              rw[if_neg c30] at H;have c30b0:=beq_eq_false_iff_ne.mpr c30;have c30b1:=bne_iff_ne.mpr c30;replace H:=Option.bind_eq_some_iff.mp H;obtain ⟨⟨t136,t137⟩,A310,H⟩:=H;replace H:((some (([(⟨#[111,117,116,112,117,116,102,111,114,109,97,116,95]⟩:ByteArray),(⟨#[107,105,110,100,95]⟩:ByteArray),(⟨#[108,97,121,111,117,116,95]⟩:ByteArray)]:List ByteArray):List ByteArray)).bind fun y138=>(eE.l1 kj23 a0 a1 t127 x8_2 x10_2 x11_23 t136 t137 y138 (y138.length:Int) 0))=some r:=H;have A31:=cH A310;clear A310
              obtain ⟨y138,hy138⟩:∃ y_:List ByteArray,y_=(([(⟨#[111,117,116,112,117,116,102,111,114,109,97,116,95]⟩:ByteArray),(⟨#[107,105,110,100,95]⟩:ByteArray),(⟨#[108,97,121,111,117,116,95]⟩:ByteArray)]:List ByteArray)):=⟨_,rfl⟩
              replace H:(eE.l1 kj23 a0 a1 t127 x8_2 x10_2 x11_23 t136 t137 y138 (y138.length:Int) 0)=some r:=by first | (rw[hy138];with_reducible exact H) | (have H2_:=(Option.bind_some _ _).symm.trans H;rw[hy138];with_reducible exact H2_) | (have H2_:=(Option.bind_some _ _).symm.trans H;with_reducible exact H2_) | with_reducible exact H | (rw[hy138];exact H) | exact H
              have Ny138:=cH hy138;clear hy138;have H':=cH H;clear H
              go_wp2_with (first | ((with_reducible refine fE (f:=87) rfl ?_);refine gP (some 82) rfl rfl Tryz.func87 bB rfl #[.string (a1.extract (x9_2:Int).toNat (x11_23:Int).toNat)] rfl bD ?_;(with_reducible refine (kL.calls (a1.extract (x9_2:Int).toNat (x11_23:Int).toNat) t136 t137 _ A31.out).mono ?_);rintro e w' ⟨rfl,⟨nd,rfl⟩⟩;refine ⟨_,rfl,?_⟩) | ((with_reducible refine gN (N:=85) rfl ?_);(try (refine iF bK ?_;dsimp only));refine Kd.R_lit Kd.string _ 9 ?hg (N:=85) ?hd (xs:=([(⟨#[111,117,116,112,117,116,102,111,114,109,97,116,95]⟩:ByteArray),(⟨#[107,105,110,100,95]⟩:ByteArray),(⟨#[108,97,121,111,117,116,95]⟩:ByteArray)]:List ByteArray)) (inner:=[.string (⟨#[111,117,116,112,117,116,102,111,114,109,97,116,95]⟩:ByteArray),.string (⟨#[107,105,110,100,95]⟩:ByteArray),.string (⟨#[108,97,121,111,117,116,95]⟩:ByteArray)]) (ok:=fun _=>True) (okp:=fun _=>True) ?hr ?hp (fun _ hk=>hk) trivial (Below.refl _ _) (Nat.le_refl _) bJ ?_;(case hd=>rfl);(case hg=>rfl);(case hr=>exact cL);(case hp=>exact (hL.one (show Kd.M Kd.string _ _ _ (⟨#[111,117,116,112,117,116,102,111,114,109,97,116,95]⟩:ByteArray) [.string (⟨#[111,117,116,112,117,116,102,111,114,109,97,116,95]⟩:ByteArray)] from rfl) (hL.one (show Kd.M Kd.string _ _ _ (⟨#[107,105,110,100,95]⟩:ByteArray) [.string (⟨#[107,105,110,100,95]⟩:ByteArray)] from rfl) (hL.one (show Kd.M Kd.string _ _ _ (⟨#[108,97,121,111,117,116,95]⟩:ByteArray) [.string (⟨#[108,97,121,111,117,116,95]⟩:ByteArray)] from rfl) (hL.none _ _)))));intro v139 w32 ho33 hb hg_ hnew_;clear hg_ hnew_;(first | rw[← Ny138.out] at ho33 | (simp only[Int.reduceToNat] at ho33;rw[← Ny138.out] at ho33));have HO140:=cH (Kd.R_lower (Kd.R_new' ho33 (Kd.R_lt bQ)) (eP bC));replace HO_5:=cH (Kd.R_below bZ hb);replace HO_8:=cH (Kd.R_elder' bQ (Kd.R_base ho33) hb);replace HB:=cH (eB bC hb);clear hb ho33;obtain ⟨Ao34,co34,eo34⟩:=Kd.R_slice HO140.out;subst eo34))
              go_loopg [8,87] kj23 (fun kq v8 v87 w'=>∃ (x8_5:List ByteArray) (x87_5:Int),v87 = .int .i64 x87_5∧Aside0 (eE.l1 kq a0 a1 t127 x8_5 x10_2 x11_23 t136 t137 y138 (y138.length:Int) x87_5=some r)∧Aside0 (kq≤kj23)∧Aside0 (Kd.R (Kd.int .i64) 3 w' w.heap.size (fun _=>True) (.slice (some ad130) t127.length co16) t127)∧Aside0 (Kd.R Kd.string 9 w' w.heap.size (fun k_=>some k_≠((.slice Ao34 y138.length co34):Value).ownBlock) v8 x8_5)∧Aside0 (Kd.R Kd.string 9 w' w.heap.size (fun k_=>some k_≠(v8:Value).ownBlock) (.slice Ao34 y138.length co34) y138)∧Aside0 (Below w.heap.size w w'))
              case atStart=>exact ⟨(x8_2),(0),bE,H',⟨Nat.le_refl _⟩,⟨aH⟩,⟨by (with_reducible repeat (first | apply Kd.R_alloc | apply Kd.R_drewN | apply Kd.R_drew));exact Kd.R_mono HO_8.out (fun _ hk=>hk.2)⟩,⟨by (with_reducible repeat (first | apply Kd.R_alloc | apply Kd.R_drewN | apply Kd.R_drew));exact Kd.R_mono HO140.out (fun _ hk=>hk.2)⟩,⟨aA⟩⟩
              case round =>
               clear H'
               (try clear c4);(try clear c4b0);(try clear c4b1);(try clear c4b2);(try clear c8);(try clear c8b0);(try clear c9);(try clear c9b0);(try clear c11);(try clear c11b0);(try clear c11b1);(try clear c12);(try clear c12b0);(try clear c12b1);(try clear c20);(try clear c23);(try clear c27);(try clear c27b0);(try clear c27b1);(try clear c28);(try clear c28b0);(try clear c28b1);(try clear c29);(try clear c29b0);(try clear c29b1);(try clear c30);(try clear c30b0);(try clear c30b1);(try clear hx130_0);(try clear p130);(try clear q130)
               obtain ⟨x8_5,x87_5,rfl,HA,HK5,HO_5,HO_8,HO_85,HB⟩:=hrel
               cases gk with
               | zero=>exact absurd HA.out (by simp[eE.l1])
               | succ k5 =>
                have H:=HA.out;clear HA;simp only[eE.l1] at H
                by_cases c35:x87_5 < (y138.length:Int)
                ·rw[if_pos c35] at H;have c35b0:=decide_eq_true c35;clear c35
                 by_cases c36:0≤x87_5
                 ·rw[if_pos c36] at H;have c36b0:=decide_eq_true c36;clear c36
                  by_cases c37:x87_5 < (y138.length:Int)
                  ·rw[if_pos c37] at H;have c37b0:=decide_eq_true c37;clear c37;have HC38:=cH H;clear H;have p141:0≤(x87_5:Int):=cG;have q141:x87_5 < (y138.length:Int):=cG;obtain ⟨ad141,e141,hx141_0⟩:=Kd.at_string (Kd.R_reads' HO_85.out).2.2 x87_5 p141 q141;cases e141;replace p141:=eq_true p141;replace q141:=eq_true q141
                   go_upto_region 22 with (fail)
                   go_cut [97] (fun v97 wc=>∃ (kq:Nat) (x97_37:Bool),v97 = .bool x97_37∧Aside0 (eE.j5 kq a0 a1 t127 x8_5 x10_2 x11_23 t136 t137 (gE ByteArray.empty y138 x87_5) y138 (y138.length:Int) x87_5 x97_37=some r)∧Aside0 (kq≤k5)∧Aside0 (Kd.R (Kd.int .i64) 3 wc w.heap.size (fun _=>True) (.slice (some ad130) t127.length co16) t127)∧Aside0 (Kd.R Kd.string 9 wc w.heap.size (fun k_=>some k_≠((.slice (some ad141) y138.length co34):Value).ownBlock) u8 x8_5)∧Aside0 (Kd.R Kd.string 9 wc w.heap.size (fun k_=>some k_≠(u8:Value).ownBlock) (.slice (some ad141) y138.length co34) y138)∧Aside0 (Below w.heap.size w wc))
                   case first =>
                    have H:=HC38.out;clear HC38
                    by_cases c39:t137=true
                    ·subst c39;rw[if_pos rfl] at H;replace H:=Option.bind_eq_some_iff.mp H;obtain ⟨t142,A400,H⟩:=H;have A40:=cH A400;clear A400;replace H:=Option.bind_eq_some_iff.mp H;obtain ⟨t143,A410,H⟩:=H;have A41:=cH A410;clear A410;have H':=cH H;clear H
                     go_wp2_with (first | (go_at_call 69;(with_reducible refine (jO.calls t136 t142 _ A40.out).mono ?_);rintro e w42 ⟨rfl,hb⟩;replace HO_5:=cH (Kd.R_below bZ hb);replace HO_8:=cH (Kd.R_below bQ hb);replace HO_85:=cH (Kd.R_below (by (with_reducible repeat (first | apply Kd.R_alloc | apply Kd.R_drewN | apply Kd.R_drew));exact HO_85.out) hb);replace HB:=cH (eB bC hb);(try clear hb);(try clear hb2);(try clear hk);(try clear hi)) | (go_at_call 88;(with_reducible refine (kO.calls t142 (gE ByteArray.empty y138 x87_5) t143 _ A41.out).mono ?_);rintro e w' ⟨rfl,⟨nd,rfl⟩⟩))
                     go_meet
                     case rel=>exact ⟨_,(t143),bE,H',⟨dZ⟩,⟨aH⟩,⟨aR⟩,⟨dT⟩,⟨aA⟩⟩
                    replace c39:=Bool.eq_false_iff.mpr c39;subst c39;rw[if_neg (show ¬ (false=true) by decide)] at H;have H':=cH H;clear H;go_wp2
                    go_meet
                    case rel=>exact ⟨_,(false),bE,H',⟨dZ⟩,⟨aH⟩,⟨aR⟩,⟨dT⟩,⟨aA⟩⟩
                   clear HC38
                   (try clear c4);(try clear c4b0);(try clear c4b1);(try clear c4b2);(try clear c8);(try clear c8b0);(try clear c9);(try clear c9b0);(try clear c11);(try clear c11b0);(try clear c11b1);(try clear c12);(try clear c12b0);(try clear c12b1);(try clear c20);(try clear c23);(try clear c27);(try clear c27b0);(try clear c27b1);(try clear c28);(try clear c28b0);(try clear c28b1);(try clear c29);(try clear c29b0);(try clear c29b1);(try clear c30);(try clear c30b0);(try clear c30b1);(try clear c35);(try clear c35b0);(try clear c36);(try clear c36b0);(try clear c37);(try clear c37b0);(try clear hx130_0);(try clear hx141_0);(try clear p130);(try clear p141);(try clear q130);(try clear q141)
                   obtain ⟨kq,x97_37,rfl,HA,HJ37,HO_5,HO_8,HO_85,HB⟩:=hcut
                   cases kq with
                   | zero=>exact absurd HA.out (by simp[eE.j5])
                   | succ kj37 =>
                    have H:=HA.out;clear HA;simp only[eE.j5] at H
                    by_cases c43:x97_37=true
                    ·subst c43;rw[if_pos rfl] at H;replace H:=Option.bind_eq_some_iff.mp H;obtain ⟨t144,A440,H⟩:=H;have A44:=cH A440;clear A440
                     by_cases c45:t144=true
                     ·subst c45;rw[if_pos rfl] at H;obtain rfl:=Option.some.inj H;obtain ⟨Ao46,co46,eo46⟩:=Kd.R_slice HO_8.out;subst eo46
                      go_wp2_with (first | ((with_reducible refine fE (f:=84) rfl ?_);refine gP (some 100) rfl rfl Tryz.func84 bB rfl #[.slice Ao46 x8_5.length co46,.string (gE ByteArray.empty y138 x87_5)] rfl bD ?_;(with_reducible refine (fP.calls kj37 _ _ x8_5 (gE ByteArray.empty y138 x87_5) true _ ?side1 ?side2 A44.out).mono ?_);(case side1=>exact cU);(case side2=>exact (Kd.R_reads' HO_8.out).2.1);rintro e w' ⟨rfl,⟨nd,rfl⟩⟩;refine ⟨_,rfl,?_⟩))
                      go_ret;exact ⟨aK,aA⟩
                     replace c45:=Bool.eq_false_iff.mpr c45;subst c45;rw[if_neg (show ¬ (false=true) by decide)] at H
                     by_cases c47:(t136.size:Int)=((gE ByteArray.empty y138 x87_5).size:Int)
                     ·rw[if_pos c47] at H;have c47b0:=beq_iff_eq.mpr c47;have c47b1:=bne_eq_false_iff_eq.mpr c47;have c47b2:(t136.size==(gE ByteArray.empty y138 x87_5).size)=true:=by first | simpa using c47 | (simp at c47 ⊢;omega)
                      clear c47;obtain rfl:=Option.some.inj H;obtain ⟨Ao48,co48,eo48⟩:=Kd.R_slice HO_8.out;subst eo48
                      go_wp2_with (first | ((with_reducible refine fE (f:=84) rfl ?_);refine gP (some 100) rfl rfl Tryz.func84 bB rfl #[.slice Ao48 x8_5.length co48,.string (gE ByteArray.empty y138 x87_5)] rfl bD ?_;(with_reducible refine (fP.calls kj37 _ _ x8_5 (gE ByteArray.empty y138 x87_5) false _ ?side1 ?side2 A44.out).mono ?_);(case side1=>exact cU);(case side2=>exact (Kd.R_reads' HO_8.out).2.1);rintro e w' ⟨rfl,⟨nd,rfl⟩⟩;refine ⟨_,rfl,?_⟩))
                      go_ret;exact ⟨aK,aA⟩
                     rw[if_neg c47] at H;have c47b0:=beq_eq_false_iff_ne.mpr c47;have c47b1:=bne_iff_ne.mpr c47;have c47b2:(t136.size==(gE ByteArray.empty y138 x87_5).size)=false:=by first | simpa using c47 | (simp at c47 ⊢;omega)
                     by_cases c49:x8_5.length < 8796093022208
                     ·rw[if_pos c49] at H;have LMc49:=cH c49;clear c49
                      obtain ⟨y145,hy145⟩:∃ y_:List ByteArray,y_=(x8_5++[(gE ByteArray.empty y138 x87_5)]):=⟨_,rfl⟩
                      replace H:(eE.l1 kj37 a0 a1 t127 y145 x10_2 x11_23 t136 t137 y138 (y138.length:Int) (wrap64 (x87_5+1)))=some r:=by first | (rw[hy145];with_reducible exact H) | (have H2_:=(Option.bind_some _ _).symm.trans H;rw[hy145];with_reducible exact H2_) | (have H2_:=(Option.bind_some _ _).symm.trans H;with_reducible exact H2_) | with_reducible exact H | (rw[hy145];exact H) | exact H
                      have Ny145:=cH hy145;clear hy145;have H':=cH H;clear H;obtain ⟨Ao50,co50,eo50⟩:=Kd.R_slice HO_8.out;subst eo50
                      go_wp2_with (first | ((with_reducible refine fE (f:=84) rfl ?_);refine gP (some 100) rfl rfl Tryz.func84 bB rfl #[.slice Ao50 x8_5.length co50,.string (gE ByteArray.empty y138 x87_5)] rfl bD ?_;(with_reducible refine (fP.calls kj37 _ _ x8_5 (gE ByteArray.empty y138 x87_5) false _ ?side1 ?side2 A44.out).mono ?_);(case side1=>exact cU);(case side2=>exact (Kd.R_reads' HO_8.out).2.1);rintro e w' ⟨rfl,⟨nd,rfl⟩⟩;refine ⟨_,rfl,?_⟩) | ((with_reducible refine sB (b:=.append) (xs:=#[.tmp 108,.tmp 110]) rfl ?_);(try (refine iF bK ?_;dsimp only));at_builtin;refine Kd.R_append Kd.string (w0:=w) w.heap.size rfl (.tmp 108) (.tmp 110) 22 9 (.string ⟨#[]⟩) 16 rfl Tryz.underlying22 info9 rfl bH bA (.slice Ao50 x8_5.length co50) x8_5 (gE ByteArray.empty y138 x87_5) [.string (gE ByteArray.empty y138 x87_5)] (fun k_=>some k_≠(.slice (some ad141) y138.length co34:Value).ownBlock) (fun _=>False) rfl rfl ?aP (fun _ hk=>hk.elim) ?aF ?aO ?aB ?aS ?aL ?_;(case aP=>exact rfl);(case aB=>exact bC);(case aF=>exact (fun k_ hk=>Kd.fresh' (Kd.R_lt (by (with_reducible repeat (first | apply Kd.R_alloc | apply Kd.R_drewN | apply Kd.R_drew));exact HO_85.out)) k_ hk));(case aO=>exact bQ);(case aS=>exact (eP bC));(case aL=>have:=LMc49.out;omega);intro v146 w51 ho hb hg hat;rw[← Ny145.out] at ho;have n0_:=cH (Kd.R_over' bZ (Kd.R_typed bQ) bH hg);have n1_:=cH (Kd.R_after (ok:=(fun _=>True)) (by (with_reducible repeat (first | apply Kd.R_alloc | apply Kd.R_drewN | apply Kd.R_drew));exact Kd.R_mono HO_85.out (fun _ hk=>⟨trivial,hk⟩)) hg hat);have n2_:=cH (hb);have n3_:=cH (ho);clear HO_5;clear HO_85;clear HB;clear HO_8;have HO_5:=n0_;have HO_85:=n1_;have HB:=n2_;have HO147:=n3_;clear n0_ n1_ n2_ n3_;clear ho hb hg hat))
                      go_roundg kj37
                      case measure=>have:=HJ13.out;have:=HK2.out;have:=HJ20.out;have:=HJ23.out;have:=HK5.out;have:=HJ37.out;omega
                      case rel=>exact ⟨(y145),(wrap64 (x87_5+1)),bE,H',⟨by have:=HJ13.out;have:=HK2.out;have:=HJ20.out;have:=HJ23.out;have:=HK5.out;have:=HJ37.out;omega⟩,⟨aH⟩,⟨by (with_reducible repeat (first | apply Kd.R_alloc | apply Kd.R_drewN | apply Kd.R_drew));exact HO147.out⟩,⟨by (with_reducible repeat (first | apply Kd.R_alloc | apply Kd.R_drewN | apply Kd.R_drew));exact Kd.R_mono HO_85.out (fun _ hk=>hk.2)⟩,⟨aA⟩⟩
                     rw[if_neg c49] at H;exact absurd H bJ
                    replace c43:=Bool.eq_false_iff.mpr c43;subst c43;rw[if_neg (show ¬ (false=true) by decide)] at H;have H':=cH H;clear H;go_wp2
                    go_roundg kj37
                    case measure=>have:=HJ13.out;have:=HK2.out;have:=HJ20.out;have:=HJ23.out;have:=HK5.out;have:=HJ37.out;omega
                    case rel=>exact ⟨(x8_5),(wrap64 (x87_5+1)),bE,H',⟨by have:=HJ13.out;have:=HK2.out;have:=HJ20.out;have:=HJ23.out;have:=HK5.out;have:=HJ37.out;omega⟩,⟨aH⟩,⟨aR⟩,⟨dT⟩,⟨aA⟩⟩
                  rw[if_neg c37] at H;exact absurd H bJ
                 rw[if_neg c36] at H;exact absurd H bJ
                rw[if_neg c35] at H;have c35b0:=decide_eq_false c35;clear c35;have H':=cH H;clear H;go_wp2
                go_roundg k5
                case measure=>have:=HJ13.out;have:=HK2.out;have:=HJ20.out;have:=HJ23.out;have:=HK5.out;omega
                case rel=>exact ⟨(x8_5),(wrap64 (x11_23+1)),(wrap64 (x10_2+1)),bE,bE,H',⟨by have:=HJ13.out;have:=HK2.out;have:=HJ20.out;have:=HJ23.out;have:=HK5.out;omega⟩,⟨aH⟩,⟨by (with_reducible repeat (first | apply Kd.R_alloc | apply Kd.R_drewN | apply Kd.R_drew));exact Kd.R_mono HO_8.out (fun _ hk=>trivial)⟩,⟨aA⟩⟩
             rw[if_neg c29] at H;exact absurd H bJ
            rw[if_neg c28] at H;exact absurd H bJ
           rw[if_neg c27] at H;exact absurd H bJ
         replace c23:=Bool.eq_false_iff.mpr c23;subst c23;rw[if_neg (show ¬ (false=true) by decide)] at H;obtain rfl:=Option.some.inj H;go_wp2;go_ret;exact ⟨aK,aA⟩
    rw[if_neg c12] at H;exact absurd H bJ
   rw[if_neg c11] at H;exact absurd H bJ
  rw[if_neg c9] at H;exact absurd H bJ
 rw[if_neg c8] at H;exact absurd H bJ
end Go.Proofs.YtcdgldnphhidlaaGreatDoor.PCore
