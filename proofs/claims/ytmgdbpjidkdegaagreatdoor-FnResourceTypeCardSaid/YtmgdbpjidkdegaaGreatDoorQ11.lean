/- Texts that the law leans on: PCorex3. Condition: as told at each. -/
import Derived.Test.YtmgdbpjidkdegaaGreatDoorQa
import Derived.Test.YtmgdbpjidkdegaaGreatDoorQ8
set_option linter.unusedVariables false
set_option linter.unusedSimpArgs false
namespace Go.Proofs.YtmgdbpjidkdegaaGreatDoor.PCore
open Go.RowKit Go.Proofs.YtmgdbpjidkdegaaGreatDoorW.PrintWords Go.Proofs.YtmgdbpjidkdegaaGreatDoorW.PrintLast Go.Proofs.YtmgdbpjidkdegaaGreatDoorW.PrintMore
attribute [local go_sem] max2_int min2_int max_two min_two max_three min_three max_four min_four   -- for this text's walks alone
set_option linter.unusedVariables false
set_option linter.unusedSimpArgs false
def spec_holds.l0:Nat→ByteArray→ByteArray→Int→Option (Bool)
 | 0,_,_,_=>none
 | k+1,x0,x1,x5=>if (wrap64 (x5+(x1.size:Int)))≤(x0.size:Int) then (if 0≤x5 then (if x5≤(wrap64 (x5+(x1.size:Int))) then (if (x0.extract (x5:Int).toNat ((wrap64 (x5+(x1.size:Int))):Int).toNat).toList=x1.toList then (some true) else (spec_holds.l0 k x0 x1 (wrap64 (x5+1)))) else (none)) else (none)) else (some false)
def spec_holds.f (k:Nat) (a0:ByteArray) (a1:ByteArray):Option (Bool):=spec_holds.l0 k a0 a1 0
theorem spec_holds.mono_l:∀ k,(∀ y0 y1 y2,LeO (spec_holds.l0 k y0 y1 y2) (spec_holds.l0 (k+1) y0 y1 y2))
 | 0=>fun _ _ _ r h=>by simp[spec_holds.l0] at h
 | k+1=>by
  have ih0:=spec_holds.mono_l k
  ·intro y0 y1 y2;unfold spec_holds.l0
   exact cN
theorem spec_holds.mono:∀ a0 a1 k,LeO (spec_holds.f k a0 a1) (spec_holds.f (k+1) a0 a1):=by
 intro a0 a1 k;have ih0:=spec_holds.mono_l k;unfold spec_holds.f
 exact cN
set_option maxHeartbeats 8000000 in
set_option maxRecDepth 100000 in
theorem spec_holds.calls (k:Nat) (a0:ByteArray) (a1:ByteArray) (r:Bool) (w:World) (h:spec_holds.f k a0 a1=some r) :
 Calls Tryz.prog 49 #[.string a0,.string a1] w fun e w'=>e = .returned (.bool r)∧Drawn0 w w':=by
 have H:(spec_holds.l0 k a0 a1 0)=some r:=h;clear h;have H':=bR H;clear H;go_enter Tryz.func49,Tryz.ntmps49;go_wp2
 go_loopg [5] k (fun kq v5 w'=>∃ (x5_1:Int),v5 = .int .i64 x5_1∧Aside0 (spec_holds.l0 kq a0 a1 x5_1=some r)∧Aside0 (kq≤k)∧Drawn0 w w')
 case atStart=>exact ⟨(0),bE,H',⟨Nat.le_refl _⟩,dA⟩
 case round =>
  clear H'
  try clear p2
  obtain ⟨x5_1,rfl,HA,HK1,⟨m1,rfl⟩⟩:=hrel
  cases gk with
  | zero=>exact absurd HA.out (by simp[spec_holds.l0])
  | succ k1 =>
   have H:=HA.out;clear HA;simp only[spec_holds.l0] at H
   by_cases c3:(wrap64 (x5_1+(a1.size:Int)))≤(a0.size:Int)
   ·rw[if_pos c3] at H;have c3b0:decide ((wrap64 (x5_1+(a1.size:Int)))≤(a0.size:Int))=true:=decide_eq_true c3;clear c3
    by_cases c4:0≤x5_1
    ·rw[if_pos c4] at H;have c4b0:=eq_true c4;have c4b1:decide (0≤x5_1)=true:=decide_eq_true c4;clear c4
     by_cases c5:x5_1≤(wrap64 (x5_1+(a1.size:Int)))
     ·rw[if_pos c5] at H;have c5b0:=eq_true c5;have c5b1:decide (x5_1≤(wrap64 (x5_1+(a1.size:Int))))=true:=decide_eq_true c5;have c6b0:=eq_true (bQ:(wrap64 (x5_1+(a1.size:Int)))≤(a0.size:Int))
      by_cases c7:(a0.extract (x5_1:Int).toNat ((wrap64 (x5_1+(a1.size:Int))):Int).toNat).toList=a1.toList
      ·rw[if_pos c7] at H;have c7b0:((a0.extract (x5_1:Int).toNat ((wrap64 (x5_1+(a1.size:Int))):Int).toNat).toList==a1.toList)=true:=beq_iff_eq.mpr c7;have c7b1:((a0.extract (x5_1:Int).toNat ((wrap64 (x5_1+(a1.size:Int))):Int).toNat).toList != a1.toList)=false:=bne_eq_false_iff_eq.mpr c7;clear c7;obtain rfl:=Option.some.inj H;go_wp2;go_ret;exact ⟨cZ,dA⟩
      ·rw[if_neg c7] at H;have c7b0:((a0.extract (x5_1:Int).toNat ((wrap64 (x5_1+(a1.size:Int))):Int).toNat).toList==a1.toList)=false:=beq_eq_false_iff_ne.mpr c7;have c7b1:((a0.extract (x5_1:Int).toNat ((wrap64 (x5_1+(a1.size:Int))):Int).toNat).toList != a1.toList)=true:=bne_iff_ne.mpr c7;have H':=bR H;clear H;go_wp2
       go_roundg k1
       case measure=>have:=HK1.out;omega
       case rel=>exact ⟨(wrap64 (x5_1+1)),bE,H',⟨by have:=HK1.out;omega⟩,dA⟩
     ·rw[if_neg c5] at H;exact absurd H bI
    ·rw[if_neg c4] at H;exact absurd H bI
   ·rw[if_neg c3] at H;have c3b0:decide ((wrap64 (x5_1+(a1.size:Int)))≤(a0.size:Int))=false:=decide_eq_false c3;clear c3;obtain rfl:=Option.some.inj H;go_wp2;go_ret;exact ⟨cZ,dA⟩
def spec_holds.Pure:Prop:=∀ (a0:ByteArray) (a1:ByteArray),a0.size≤140737488351232→a1.size≤140737488351232→∃ k,spec_holds.f k a0 a1=some true
theorem spec_holds.walk (P:spec_holds.Pure) (a0:ByteArray) (a1:ByteArray) (w:World) (w0:a0.size≤140737488351232) (w1:a1.size≤140737488351232) :
 Calls Tryz.prog 49 #[.string a0,.string a1] w fun e w'=>e = .returned (.bool true)∧Below w.heap.size w w':=by
 obtain ⟨k,h⟩:=P a0 a1 w0 w1;refine (spec_holds.calls k a0 a1 true w h).mono ?_;rintro e w' ⟨rfl,hd⟩;exact ⟨rfl,hd.below⟩
def spec_Ascii.l0:Nat→ByteArray→Int→Option (Bool)
 | 0,_,_=>none
 | k+1,x0,x3=>if x3 < (x0.size:Int) then (if 0≤x3 then (if (bt x0 x3) > 127 then (some false) else (spec_Ascii.l0 k x0 (wrap64 (x3+1)))) else (none)) else (some true)
def spec_Ascii.f (k:Nat) (a0:ByteArray):Option (Bool):=spec_Ascii.l0 k a0 0
theorem spec_Ascii.mono_l:∀ k,(∀ y0 y1,LeO (spec_Ascii.l0 k y0 y1) (spec_Ascii.l0 (k+1) y0 y1))
 | 0=>fun _ _ r h=>by simp[spec_Ascii.l0] at h
 | k+1=>by
  have ih0:=spec_Ascii.mono_l k
  ·intro y0 y1;unfold spec_Ascii.l0
   exact cO
theorem spec_Ascii.mono:∀ a0 k,LeO (spec_Ascii.f k a0) (spec_Ascii.f (k+1) a0):=by
 intro a0 k;have ih0:=spec_Ascii.mono_l k;unfold spec_Ascii.f
 exact cO
set_option maxHeartbeats 8000000 in
set_option maxRecDepth 100000 in
theorem spec_Ascii.calls (k:Nat) (a0:ByteArray) (r:Bool) (w:World) (h:spec_Ascii.f k a0=some r) :
 Calls Tryz.prog 50 #[.string a0] w fun e w'=>e = .returned (.bool r)∧Drawn0 w w':=by
 have H:(spec_Ascii.l0 k a0 0)=some r:=h;clear h;have H':=bR H;clear H;go_enter Tryz.func50,Tryz.ntmps50;go_wp2
 go_loopg [3] k (fun kq v3 w'=>∃ (x3_1:Int),v3 = .int .i64 x3_1∧Aside0 (spec_Ascii.l0 kq a0 x3_1=some r)∧Aside0 (kq≤k)∧Drawn0 w w')
 case atStart=>exact ⟨(0),bE,H',⟨Nat.le_refl _⟩,dA⟩
 case round =>
  clear H';obtain ⟨x3_1,rfl,HA,HK1,⟨m1,rfl⟩⟩:=hrel
  cases gk with
  | zero=>exact absurd HA.out (by simp[spec_Ascii.l0])
  | succ k1 =>
   have H:=HA.out;clear HA;simp only[spec_Ascii.l0] at H
   by_cases c2:x3_1 < (a0.size:Int)
   ·rw[if_pos c2] at H;have c2b0:decide (x3_1 < (a0.size:Int))=true:=decide_eq_true c2;clear c2
    by_cases c3:0≤x3_1
    ·rw[if_pos c3] at H;have c3b0:decide (0≤x3_1)=true:=decide_eq_true c3;clear c3
     by_cases c5:(bt a0 x3_1) > 127
     ·rw[if_pos c5] at H;have c5b0:decide (127 < (bt a0 x3_1))=true:=decide_eq_true c5;clear c5;obtain rfl:=Option.some.inj H;have p4:0≤(x3_1:Int):=bQ;have q4:x3_1 < (a0.size:Int):=bQ;have hx4:=bt_at a0 x3_1;replace p4:=eq_true p4;replace q4:=eq_true q4;go_wp2;go_ret;exact ⟨cZ,dA⟩
     ·rw[if_neg c5] at H;have c5b0:decide (127 < (bt a0 x3_1))=false:=decide_eq_false c5;clear c5;have H':=bR H;clear H;have p4:0≤(x3_1:Int):=bQ;have q4:x3_1 < (a0.size:Int):=bQ;have hx4:=bt_at a0 x3_1;replace p4:=eq_true p4;replace q4:=eq_true q4;go_wp2
      go_roundg k1
      case measure=>have:=HK1.out;omega
      case rel=>exact ⟨(wrap64 (x3_1+1)),bE,H',⟨by have:=HK1.out;omega⟩,dA⟩
    ·rw[if_neg c3] at H;exact absurd H bI
   ·rw[if_neg c2] at H;have c2b0:decide (x3_1 < (a0.size:Int))=false:=decide_eq_false c2;clear c2;obtain rfl:=Option.some.inj H;go_wp2;go_ret;exact ⟨cZ,dA⟩
def spec_lower.f (a0:ByteArray):Option ByteArray:=if a0.size≤140737488355328 then some (Go.Proofs.YtmgdbpjidkdegaaGreatDoor.Lower.low a0) else none
theorem spec_lower.calls (a0:ByteArray) (r:ByteArray) (w:World) (h:spec_lower.f a0=some r) :
 Calls Tryz.prog 63 #[.string a0] w fun e w'=>e = .returned (.string r)∧Below w.heap.size w w':=by
 unfold spec_lower.f at h;split at h
 ·rename_i hs
  cases h;exact Go.Proofs.YtmgdbpjidkdegaaGreatDoor.Lower.lower_calls a0 w hs
 ·cases h
mutual
def spec_cutPoints.l0:Nat→ByteArray→List Int→Int→Option (List Int)
 | 0,_,_,_=>none
 | k+1,x0,x3,x4=>if x4 < (x0.size:Int) then (if 0≤x4 then (if (bt x0 x4)=46 then (if x3.length < 17592186044416 then ((some (x3++[x4]:List Int)).bind fun y124=>(if (wrap64 (x4+1))=(x0.size:Int) then (spec_cutPoints.j1 k x0 y124 x4 true) else (if 0≤(wrap64 (x4+1)) then (if (wrap64 (x4+1)) < (x0.size:Int) then (spec_cutPoints.j1 k x0 y124 x4 ((bt x0 (wrap64 (x4+1))) != 95)) else (none)) else (none)))) else (none)) else (spec_cutPoints.l0 k x0 x3 (wrap64 (x4+1)))) else (none)) else (some x3)
def spec_cutPoints.j1:Nat→ByteArray→List Int→Int→Bool→Option (List Int)
 | 0,_,_,_,_=>none
 | k+1,x0,x3,x4,x31=>if x31=true then (spec_cutPoints.l0 k x0 x3 (wrap64 (x4+1))) else (spec_cutPoints.l1 k x0 x3 x4 (wrap64 (x4+2)))
def spec_cutPoints.l1:Nat→ByteArray→List Int→Int→Int→Option (List Int)
 | 0,_,_,_,_=>none
 | k+1,x0,x3,x4,x5=>if x5 < (x0.size:Int) then (if 0≤x5 then (if (bt x0 x5)=95 then (if (wrap64 (x5+1))=(x0.size:Int) then (spec_cutPoints.l0 k x0 x3 (wrap64 (x5+1))) else (if 0≤(wrap64 (x5+1)) then (if (wrap64 (x5+1)) < (x0.size:Int) then (if (bt x0 (wrap64 (x5+1)))=46 then (spec_cutPoints.l0 k x0 x3 (wrap64 (x5+1))) else (spec_cutPoints.l1 k x0 x3 x4 (wrap64 (x5+1)))) else (none)) else (none))) else (spec_cutPoints.l1 k x0 x3 x4 (wrap64 (x5+1)))) else (none)) else (spec_cutPoints.l0 k x0 x3 (wrap64 (x4+1)))
end
def spec_cutPoints.f (k:Nat) (a0:ByteArray):Option (List Int):=spec_cutPoints.l0 k a0 ([]:List Int) 0
theorem spec_cutPoints.mono_l:∀ k,(∀ y0 y1 y2,LeO (spec_cutPoints.l0 k y0 y1 y2) (spec_cutPoints.l0 (k+1) y0 y1 y2))∧(∀ y0 y1 y2 y3,LeO (spec_cutPoints.j1 k y0 y1 y2 y3) (spec_cutPoints.j1 (k+1) y0 y1 y2 y3))∧(∀ y0 y1 y2 y3,LeO (spec_cutPoints.l1 k y0 y1 y2 y3) (spec_cutPoints.l1 (k+1) y0 y1 y2 y3))
 | 0=>⟨fun _ _ _ r h=>by simp[spec_cutPoints.l0] at h,fun _ _ _ _ r h=>by simp[spec_cutPoints.j1] at h,fun _ _ _ _ r h=>by simp[spec_cutPoints.l1] at h⟩
 | k+1=>by
  obtain ⟨ih0,ih1,ih2⟩:=spec_cutPoints.mono_l k;refine ⟨?_,?_,?_⟩
  ·intro y0 y1 y2;unfold spec_cutPoints.l0
   exact cS
  ·intro y0 y1 y2 y3;unfold spec_cutPoints.j1
   exact cS
  ·intro y0 y1 y2 y3;unfold spec_cutPoints.l1
   exact cS
theorem spec_cutPoints.mono:∀ a0 k,LeO (spec_cutPoints.f k a0) (spec_cutPoints.f (k+1) a0):=by
 intro a0 k;obtain ⟨ih0,ih1,ih2⟩:=spec_cutPoints.mono_l k;unfold spec_cutPoints.f
 exact cS
set_option maxHeartbeats 8000000 in
set_option maxRecDepth 100000 in
theorem spec_cutPoints.calls (k:Nat) (a0:ByteArray) (r:List Int) (w:World) (h:spec_cutPoints.f k a0=some r) :
 Calls Tryz.prog 70 #[.string a0] w fun e w'=>∃ v0_:Value,e = .returned (v0_)∧Kd.R (Kd.int .i64) 3 w' w.heap.size (fun _=>True) v0_ r∧Below w.heap.size w w':=by
 have HB:=bR (Below.refl w.heap.size w);have H:(spec_cutPoints.l0 k a0 ([]:List Int) 0)=some r:=h;clear h;have H':=bR H;clear H;go_enter Tryz.func70,Tryz.ntmps70;go_wp2
 go_loopg [3,4] k (fun kq v3 v4 w'=>∃ (x3_1:List Int) (x4_1:Int),v4 = .int .i64 x4_1∧Aside0 (spec_cutPoints.l0 kq a0 x3_1 x4_1=some r)∧Aside0 (kq≤k)∧Aside0 (Kd.R (Kd.int .i64) 3 w' w.heap.size (fun _=>True) v3 x3_1)∧Aside0 (Below w.heap.size w w'))
 case atStart=>exact ⟨(([]:List Int)),(0),bE,H',⟨Nat.le_refl _⟩,⟨by first | exact Kd.R_nil _ _ _ _ _ | exact Kd.N_nil _ _ _ _ _ | exact Kd.V_nil _ _ _ _ _ | exact Kd.Q_nil _ _ _ _ _ | exact Kd.S_nil _ _ _ _ _⟩,⟨by repeat (first | (with_reducible first | exact HB.out | apply below_alloc | apply pw_below_drewN | apply below_drew1) | exact HB.out)⟩⟩
 case round =>
  clear H';obtain ⟨x3_1,x4_1,rfl,HA,HK1,HO_3,HB⟩:=hrel
  cases gk with
  | zero=>exact absurd HA.out (by simp[spec_cutPoints.l0])
  | succ k1 =>
   have H:=HA.out;clear HA;simp only[spec_cutPoints.l0] at H
   by_cases c2:x4_1 < (a0.size:Int)
   ·rw[if_pos c2] at H;have c2b0:decide (x4_1 < (a0.size:Int))=true:=decide_eq_true c2;clear c2
    by_cases c3:0≤x4_1
    ·rw[if_pos c3] at H;have c3b0:decide (0≤x4_1)=true:=decide_eq_true c3;clear c3
     by_cases c5:(bt a0 x4_1)=46
     ·rw[if_pos c5] at H;have c5b0:((bt a0 x4_1)==46)=true:=beq_iff_eq.mpr c5;have c5b1:((bt a0 x4_1) != 46)=false:=bne_eq_false_iff_eq.mpr c5;clear c5
      by_cases c6:x3_1.length < 17592186044416
      ·rw[if_pos c6] at H;have LMc6:=bR c6;clear c6
       obtain ⟨y124,hy124⟩:∃ y_:List Int,y_=(x3_1++[x4_1]):=⟨_,rfl⟩
       replace H:(if (wrap64 (x4_1+1))=(a0.size:Int) then (spec_cutPoints.j1 k1 a0 y124 x4_1 true) else (if 0≤(wrap64 (x4_1+1)) then (if (wrap64 (x4_1+1)) < (a0.size:Int) then (spec_cutPoints.j1 k1 a0 y124 x4_1 ((bt a0 (wrap64 (x4_1+1))) != 95)) else (none)) else (none)))=some r:=by first | (rw[hy124];with_reducible exact H) | (have H2_:=(Option.bind_some _ _).symm.trans H;rw[hy124];with_reducible exact H2_) | (have H2_:=(Option.bind_some _ _).symm.trans H;with_reducible exact H2_) | with_reducible exact H | (rw[hy124];exact H) | exact H
       have Ny124:=bR hy124;clear hy124;have HC7:=bR H;clear H;have p4:0≤(x4_1:Int):=bQ;have q4:x4_1 < (a0.size:Int):=bQ;have hx4:=bt_at a0 x4_1;replace p4:=eq_true p4;replace q4:=eq_true q4
       go_upto_region 7 with (first | ((with_reducible refine gate_builtin (b:=.append) (xs:=#[.tmp 16,.tmp 18]) rfl ?_);(try (refine gate_guard bH ?_;dsimp only));at_builtin;refine Kd.R_append (Kd.int .i64) (w0:=w) w.heap.size rfl (.tmp 16) (.tmp 18) 68 3 (.int .i64 0) 8 rfl Tryz.underlying68 info3 rfl bG bA u3 x3_1 x4_1 [.int .i64 x4_1] (fun _=>True) (fun _=>False) rfl rfl ?aP (fun _ hk=>hk.elim) ?aF ?aO ?aB ?aS ?aL ?_;(case aP=>exact rfl);(case aB=>exact bC);(case aF=>exact (fun _ _=>trivial));(case aO=>exact bL);(case aS=>exact (below_size bC));(case aL=>have:=LMc6.out;omega);intro v125 w8 ho hb hg hat;rw[← Ny124.out] at ho;have n0_:=bR (hb);have n1_:=bR (ho);clear HB;clear HO_3;have HB:=n0_;have HO126:=n1_;clear n0_ n1_;clear ho hb hg hat))
       (try simp only[Act.put,List.setIfInBounds_toArray,List.set_cons_zero,List.set_cons_succ])
       go_cut [31] (fun v31 wc=>∃ (kq:Nat) (x31_6:Bool),v31 = .bool x31_6∧Aside0 (spec_cutPoints.j1 kq a0 y124 x4_1 x31_6=some r)∧Aside0 (kq≤k1)∧Aside0 (Kd.R (Kd.int .i64) 3 wc w.heap.size (fun _=>True) v125 y124)∧Aside0 (Below w.heap.size w wc))
       case first =>
        have H:=HC7.out;clear HC7
        by_cases c9:(wrap64 (x4_1+1))=(a0.size:Int)
        ·rw[if_pos c9] at H;have c9b0:((wrap64 (x4_1+1))==(a0.size:Int))=true:=beq_iff_eq.mpr c9;have c9b1:((wrap64 (x4_1+1)) != (a0.size:Int))=false:=bne_eq_false_iff_eq.mpr c9;clear c9
         (first | rw[c9b0] | (simp only[i64_w,i32_w];rw[c9b0]) | skip)
         have H':=bR H;clear H;go_wp2
         go_meet
         case rel=>exact ⟨_,(true),bE,H',⟨by have:=HK1.out;first | omega | exact Nat.le_refl _⟩,⟨by (with_reducible repeat (first | apply Kd.R_alloc | apply Kd.R_drewN | apply Kd.R_drew));exact HO126.out⟩,⟨by repeat (first | (with_reducible first | exact HB.out | apply below_alloc | apply pw_below_drewN | apply below_drew1) | exact HB.out)⟩⟩
        ·rw[if_neg c9] at H;have c9b0:((wrap64 (x4_1+1))==(a0.size:Int))=false:=beq_eq_false_iff_ne.mpr c9;have c9b1:((wrap64 (x4_1+1)) != (a0.size:Int))=true:=bne_iff_ne.mpr c9
         (first | rw[c9b0] | (simp only[i64_w,i32_w];rw[c9b0]) | skip)
         obtain ⟨ji10,hji10⟩:∃ j_:Int,(wrap64 (x4_1+1))=j_:=⟨_,rfl⟩
         replace H:(if 0≤(ji10) then (if (ji10) < (a0.size:Int) then (spec_cutPoints.j1 k1 a0 y124 x4_1 ((bt a0 (ji10)) != 95)) else (none)) else (none))=some r:=by first | (rw[hji10] at H;exact H) | (simp only[hji10] at H ⊢;exact H)
         (try rw[hji10] at c9b0)
         (try rw[hji10] at c9b1)
         have hji10w:(IntKind.i64.wrap (x4_1+1))=ji10:=(i64_w _).trans hji10
         by_cases c11:0≤(ji10)
         ·rw[if_pos c11] at H;have c11b0:decide (0≤(ji10))=true:=decide_eq_true c11;clear c11
          by_cases c12:(ji10) < (a0.size:Int)
          ·rw[if_pos c12] at H;have c12b0:decide ((ji10) < (a0.size:Int))=true:=decide_eq_true c12;clear c12;have H':=bR H;clear H;have p13:0≤((ji10):Int):=bQ;have q13:(ji10) < (a0.size:Int):=bQ;have hx13:=bt_at a0 (ji10);replace p13:=eq_true p13;replace q13:=eq_true q13;go_wp2
           go_meet
           case rel=>exact ⟨_,(((bt a0 (ji10)) != 95)),(by first | rfl | (simp;done) | (simp only[← hji10] <;> (first | rfl | simp)) | (simp[*];done)),H',⟨by have:=HK1.out;first | omega | exact Nat.le_refl _⟩,⟨by (with_reducible repeat (first | apply Kd.R_alloc | apply Kd.R_drewN | apply Kd.R_drew));exact HO126.out⟩,⟨by repeat (first | (with_reducible first | exact HB.out | apply below_alloc | apply pw_below_drewN | apply below_drew1) | exact HB.out)⟩⟩
          ·rw[if_neg c12] at H;exact absurd H bI
         ·rw[if_neg c11] at H;exact absurd H bI
       case rest =>
        clear HC7
        try clear c1
        try clear p1
        try clear q1
        try clear hx1
        try clear c2
        try clear c2b0
        try clear p2
        try clear c3
        try clear c3b0
        try clear p4
        try clear q4
        try clear hx4
        try clear c5
        try clear c5b0
        try clear c5b1
        try clear c6
        try clear p6
        try clear c7
        try clear c9
        try clear c9b0
        try clear c9b1
        try clear c11
        try clear c11b0
        try clear c12
        try clear c12b0
        try clear p13
        try clear q13
        try clear hx13
        try clear p13
        try clear p4
        try clear q13
        try clear q4
        obtain ⟨kq,x31_6,rfl,HA,HJ6,HO_3,HB⟩:=hcut
        cases kq with
        | zero=>exact absurd HA.out (by simp[spec_cutPoints.j1])
        | succ kj6 =>
         have H:=HA.out;clear HA;simp only[spec_cutPoints.j1] at H
         by_cases c14:x31_6=true
         ·subst c14;have H1:(spec_cutPoints.l0 kj6 a0 y124 (wrap64 (x4_1+1)))=some r:=by rw[if_pos rfl] at H;exact H
          clear H;have H:=H1;clear H1;have H':=bR H;clear H;go_wp2
          go_roundg kj6
          case measure=>have:=HK1.out;have:=HJ6.out;omega
          case rel=>exact ⟨(y124),(wrap64 (x4_1+1)),bE,H',⟨by have:=HK1.out;have:=HJ6.out;omega⟩,⟨by (with_reducible repeat (first | apply Kd.R_alloc | apply Kd.R_drewN | apply Kd.R_drew));exact HO_3.out⟩,⟨by repeat (first | (with_reducible first | exact HB.out | apply below_alloc | apply pw_below_drewN | apply below_drew1) | exact HB.out)⟩⟩
         ·replace c14:=Bool.eq_false_iff.mpr c14;subst c14;have H1:(spec_cutPoints.l1 kj6 a0 y124 x4_1 (wrap64 (x4_1+2)))=some r:=by rw[if_neg (show ¬ (false=true) by decide)] at H;exact H
          clear H;have H:=H1;clear H1;have H':=bR H;clear H;go_wp2
          go_loopg [4,5] kj6 (fun kq v4 v5 w'=>∃ (x4_3:Int) (x5_3:Int),v4 = .int .i64 x4_3∧v5 = .int .i64 x5_3∧Aside0 (spec_cutPoints.l1 kq a0 y124 x4_3 x5_3=some r)∧Aside0 (kq≤kj6)∧Aside0 (Kd.R (Kd.int .i64) 3 w' w.heap.size (fun _=>True) v125 y124)∧Aside0 (Below w.heap.size w w'))
          case atStart=>exact ⟨(x4_1),(wrap64 (x4_1+2)),bE,bE,H',⟨Nat.le_refl _⟩,⟨by (with_reducible repeat (first | apply Kd.R_alloc | apply Kd.R_drewN | apply Kd.R_drew));exact HO_3.out⟩,⟨by repeat (first | (with_reducible first | exact HB.out | apply below_alloc | apply pw_below_drewN | apply below_drew1) | exact HB.out)⟩⟩
          case round =>
           clear H'
           try clear c1
           try clear p1
           try clear q1
           try clear hx1
           try clear c2
           try clear c2b0
           try clear p2
           try clear c3
           try clear c3b0
           try clear p4
           try clear q4
           try clear hx4
           try clear c5
           try clear c5b0
           try clear c5b1
           try clear c6
           try clear p6
           try clear c7
           try clear c9
           try clear c9b0
           try clear c9b1
           try clear c11
           try clear c11b0
           try clear c12
           try clear c12b0
           try clear p13
           try clear q13
           try clear hx13
           try clear c14
           try clear p1
           try clear p13
           try clear p2
           try clear p4
           try clear p6
           try clear q1
           try clear q13
           try clear q4
           obtain ⟨x4_3,x5_3,rfl,rfl,HA,HK3,HO_3,HB⟩:=hrel
           cases gk with
           | zero=>exact absurd HA.out (by simp[spec_cutPoints.l1])
           | succ k3 =>
            have H:=HA.out;clear HA;simp only[spec_cutPoints.l1] at H
            by_cases c15:x5_3 < (a0.size:Int)
            ·rw[if_pos c15] at H;have c15b0:decide (x5_3 < (a0.size:Int))=true:=decide_eq_true c15;clear c15
             by_cases c16:0≤x5_3
             ·rw[if_pos c16] at H;have c16b0:decide (0≤x5_3)=true:=decide_eq_true c16;clear c16
              by_cases c18:(bt a0 x5_3)=95
              ·rw[if_pos c18] at H;have c18b0:((bt a0 x5_3)==95)=true:=beq_iff_eq.mpr c18;have c18b1:((bt a0 x5_3) != 95)=false:=bne_eq_false_iff_eq.mpr c18;clear c18
               by_cases c19:(wrap64 (x5_3+1))=(a0.size:Int)
               ·rw[if_pos c19] at H;have c19b0:((wrap64 (x5_3+1))==(a0.size:Int))=true:=beq_iff_eq.mpr c19;have c19b1:((wrap64 (x5_3+1)) != (a0.size:Int))=false:=bne_eq_false_iff_eq.mpr c19;clear c19;have H':=bR H;clear H;have p17:0≤(x5_3:Int):=bQ;have q17:x5_3 < (a0.size:Int):=bQ;have hx17:=bt_at a0 x5_3;replace p17:=eq_true p17;replace q17:=eq_true q17;go_wp2
                go_roundg k3
                case measure=>have:=HK1.out;have:=HJ6.out;have:=HK3.out;omega
                case rel=>exact ⟨(y124),(wrap64 (x5_3+1)),bE,H',⟨by have:=HK1.out;have:=HJ6.out;have:=HK3.out;omega⟩,⟨by (with_reducible repeat (first | apply Kd.R_alloc | apply Kd.R_drewN | apply Kd.R_drew));exact HO_3.out⟩,⟨by repeat (first | (with_reducible first | exact HB.out | apply below_alloc | apply pw_below_drewN | apply below_drew1) | exact HB.out)⟩⟩
               ·rw[if_neg c19] at H;have c19b0:((wrap64 (x5_3+1))==(a0.size:Int))=false:=beq_eq_false_iff_ne.mpr c19;have c19b1:((wrap64 (x5_3+1)) != (a0.size:Int))=true:=bne_iff_ne.mpr c19
                obtain ⟨ji20,hji20⟩:∃ j_:Int,(wrap64 (x5_3+1))=j_:=⟨_,rfl⟩
                replace H:(if 0≤(ji20) then (if (ji20) < (a0.size:Int) then (if (bt a0 (ji20))=46 then (spec_cutPoints.l0 k3 a0 y124 ji20) else (spec_cutPoints.l1 k3 a0 y124 x4_3 ji20)) else (none)) else (none))=some r:=by first | (rw[hji20] at H;exact H) | (simp only[hji20] at H ⊢;exact H)
                (try rw[hji20] at c19b0)
                (try rw[hji20] at c19b1)
                have hji20w:(IntKind.i64.wrap (x5_3+1))=ji20:=(i64_w _).trans hji20
                by_cases c21:0≤(ji20)
                ·rw[if_pos c21] at H;have c21b0:decide (0≤(ji20))=true:=decide_eq_true c21;clear c21
                 by_cases c22:(ji20) < (a0.size:Int)
                 ·rw[if_pos c22] at H;have c22b0:decide ((ji20) < (a0.size:Int))=true:=decide_eq_true c22;clear c22
                  by_cases c24:(bt a0 (ji20))=46
                  ·rw[if_pos c24] at H;have c24b0:((bt a0 (ji20))==46)=true:=beq_iff_eq.mpr c24;have c24b1:((bt a0 (ji20)) != 46)=false:=bne_eq_false_iff_eq.mpr c24;clear c24;have H':=bR H;clear H;have p17:0≤(x5_3:Int):=bQ;have q17:x5_3 < (a0.size:Int):=bQ;have hx17:=bt_at a0 x5_3;replace p17:=eq_true p17;replace q17:=eq_true q17;have p23:0≤((ji20):Int):=bQ;have q23:(ji20) < (a0.size:Int):=bQ;have hx23:=bt_at a0 (ji20);replace p23:=eq_true p23;replace q23:=eq_true q23;go_wp2
                   go_roundg k3
                   case measure=>have:=HK1.out;have:=HJ6.out;have:=HK3.out;omega
                   case rel=>exact ⟨(y124),(ji20),(by first | rfl | (simp;done) | (simp only[← hji20] <;> (first | rfl | simp)) | (simp[*];done)),H',⟨by have:=HK1.out;have:=HJ6.out;have:=HK3.out;omega⟩,⟨by (with_reducible repeat (first | apply Kd.R_alloc | apply Kd.R_drewN | apply Kd.R_drew));exact HO_3.out⟩,⟨by repeat (first | (with_reducible first | exact HB.out | apply below_alloc | apply pw_below_drewN | apply below_drew1) | exact HB.out)⟩⟩
                  ·rw[if_neg c24] at H;have c24b0:((bt a0 (ji20))==46)=false:=beq_eq_false_iff_ne.mpr c24;have c24b1:((bt a0 (ji20)) != 46)=true:=bne_iff_ne.mpr c24;have H':=bR H;clear H;have p17:0≤(x5_3:Int):=bQ;have q17:x5_3 < (a0.size:Int):=bQ;have hx17:=bt_at a0 x5_3;replace p17:=eq_true p17;replace q17:=eq_true q17;have p23:0≤((ji20):Int):=bQ;have q23:(ji20) < (a0.size:Int):=bQ;have hx23:=bt_at a0 (ji20);replace p23:=eq_true p23;replace q23:=eq_true q23;go_wp2
                   go_roundg k3
                   case measure=>have:=HK1.out;have:=HJ6.out;have:=HK3.out;omega
                   case rel=>exact ⟨(x4_3),(ji20),bE,(by first | rfl | (simp;done) | (simp only[← hji20] <;> (first | rfl | simp)) | (simp[*];done)),H',⟨by have:=HK1.out;have:=HJ6.out;have:=HK3.out;omega⟩,⟨by (with_reducible repeat (first | apply Kd.R_alloc | apply Kd.R_drewN | apply Kd.R_drew));exact HO_3.out⟩,⟨by repeat (first | (with_reducible first | exact HB.out | apply below_alloc | apply pw_below_drewN | apply below_drew1) | exact HB.out)⟩⟩
                 ·rw[if_neg c22] at H;exact absurd H bI
                ·rw[if_neg c21] at H;exact absurd H bI
              ·rw[if_neg c18] at H;have c18b0:((bt a0 x5_3)==95)=false:=beq_eq_false_iff_ne.mpr c18;have c18b1:((bt a0 x5_3) != 95)=true:=bne_iff_ne.mpr c18;have H':=bR H;clear H;have p17:0≤(x5_3:Int):=bQ;have q17:x5_3 < (a0.size:Int):=bQ;have hx17:=bt_at a0 x5_3;replace p17:=eq_true p17;replace q17:=eq_true q17;go_wp2
               go_roundg k3
               case measure=>have:=HK1.out;have:=HJ6.out;have:=HK3.out;omega
               case rel=>exact ⟨(x4_3),(wrap64 (x5_3+1)),bE,bE,H',⟨by have:=HK1.out;have:=HJ6.out;have:=HK3.out;omega⟩,⟨by (with_reducible repeat (first | apply Kd.R_alloc | apply Kd.R_drewN | apply Kd.R_drew));exact HO_3.out⟩,⟨by repeat (first | (with_reducible first | exact HB.out | apply below_alloc | apply pw_below_drewN | apply below_drew1) | exact HB.out)⟩⟩
             ·rw[if_neg c16] at H;exact absurd H bI
            ·rw[if_neg c15] at H;have c15b0:decide (x5_3 < (a0.size:Int))=false:=decide_eq_false c15;clear c15;have H':=bR H;clear H;go_wp2
             go_roundg k3
             case measure=>have:=HK1.out;have:=HJ6.out;have:=HK3.out;omega
             case rel=>exact ⟨(y124),(wrap64 (x4_3+1)),bE,H',⟨by have:=HK1.out;have:=HJ6.out;have:=HK3.out;omega⟩,⟨by (with_reducible repeat (first | apply Kd.R_alloc | apply Kd.R_drewN | apply Kd.R_drew));exact HO_3.out⟩,⟨by repeat (first | (with_reducible first | exact HB.out | apply below_alloc | apply pw_below_drewN | apply below_drew1) | exact HB.out)⟩⟩
      ·rw[if_neg c6] at H;exact absurd H bI
     ·rw[if_neg c5] at H;have c5b0:((bt a0 x4_1)==46)=false:=beq_eq_false_iff_ne.mpr c5;have c5b1:((bt a0 x4_1) != 46)=true:=bne_iff_ne.mpr c5;have H':=bR H;clear H;have p4:0≤(x4_1:Int):=bQ;have q4:x4_1 < (a0.size:Int):=bQ;have hx4:=bt_at a0 x4_1;replace p4:=eq_true p4;replace q4:=eq_true q4;go_wp2
      go_roundg k1
      case measure=>have:=HK1.out;omega
      case rel=>exact ⟨(x3_1),(wrap64 (x4_1+1)),bE,H',⟨by have:=HK1.out;omega⟩,⟨by (with_reducible repeat (first | apply Kd.R_alloc | apply Kd.R_drewN | apply Kd.R_drew));exact HO_3.out⟩,⟨by repeat (first | (with_reducible first | exact HB.out | apply below_alloc | apply pw_below_drewN | apply below_drew1) | exact HB.out)⟩⟩
    ·rw[if_neg c3] at H;exact absurd H bI
   ·rw[if_neg c2] at H;have c2b0:decide (x4_1 < (a0.size:Int))=false:=decide_eq_false c2;clear c2;obtain rfl:=Option.some.inj H;go_wp2;go_ret;exact ⟨_,by first | rfl | (simp[errW_none,errW_some] <;> rfl) | (simp[*,errW_none,errW_some] <;> rfl),by (with_reducible repeat (first | apply Kd.R_alloc | apply Kd.R_drewN | apply Kd.R_drew));exact HO_3.out,by repeat (first | (with_reducible first | exact HB.out | apply below_alloc | apply pw_below_drewN | apply below_drew1) | exact HB.out)⟩
def spec_wrapped.f (a0:ByteArray):Option (ByteArray×Bool):=if (a0.size:Int) < 3 then (some ((⟨#[]⟩:ByteArray),false)) else (if 0 < (a0.size:Int) then (if (bt a0 0)=95 then (if 0≤(wrap64 ((a0.size:Int) - 1)) then (if (wrap64 ((a0.size:Int) - 1)) < (a0.size:Int) then (if (bt a0 (wrap64 ((a0.size:Int) - 1)))=95 then (if 1≤(wrap64 ((a0.size:Int) - 1)) then (if (wrap64 ((a0.size:Int) - 1))≤(a0.size:Int) then (some (a0.extract 1 ((wrap64 ((a0.size:Int) - 1)):Int).toNat,true)) else (none)) else (none)) else (some ((⟨#[]⟩:ByteArray),false))) else (none)) else (none)) else (some ((⟨#[]⟩:ByteArray),false))) else (none))
set_option maxHeartbeats 8000000 in
set_option maxRecDepth 100000 in
theorem spec_wrapped.calls (a0:ByteArray) (r1:ByteArray) (r2:Bool) (w:World) (h:spec_wrapped.f a0=some (r1,r2)) :
 Calls Tryz.prog 71 #[.string a0] w fun e w'=>e = .returned (.tuple #[.string r1,.bool r2])∧Drawn0 w w':=by
 have H:(if (a0.size:Int) < 3 then (some ((⟨#[]⟩:ByteArray),false)) else (if 0 < (a0.size:Int) then (if (bt a0 0)=95 then (if 0≤(wrap64 ((a0.size:Int) - 1)) then (if (wrap64 ((a0.size:Int) - 1)) < (a0.size:Int) then (if (bt a0 (wrap64 ((a0.size:Int) - 1)))=95 then (if 1≤(wrap64 ((a0.size:Int) - 1)) then (if (wrap64 ((a0.size:Int) - 1))≤(a0.size:Int) then (some (a0.extract 1 ((wrap64 ((a0.size:Int) - 1)):Int).toNat,true)) else (none)) else (none)) else (some ((⟨#[]⟩:ByteArray),false))) else (none)) else (none)) else (some ((⟨#[]⟩:ByteArray),false))) else (none)))=some (r1,r2):=h;clear h
 by_cases c2:(a0.size:Int) < 3
 ·rw[if_pos c2] at H;have c2b0:decide ((a0.size:Int) < 3)=true:=decide_eq_true c2;have c2b1:decide (a0.size < 3)=true:=decide_eq_true bA;clear c2;simp only[Option.some.injEq,Prod.mk.injEq] at H;obtain ⟨rfl,rfl⟩:=H;go_enter Tryz.func71,Tryz.ntmps71;go_wp2
  go_ret2
  exact ⟨cZ,dA⟩
 ·rw[if_neg c2] at H;have c2b0:decide ((a0.size:Int) < 3)=false:=decide_eq_false c2;have c2b1:decide (a0.size < 3)=false:=decide_eq_false bA;clear c2
  by_cases c3:0 < (a0.size:Int)
  ·rw[if_pos c3] at H;have c3b0:decide (0 < (a0.size:Int))=true:=decide_eq_true c3;have c3b1:decide (0 < a0.size)=true:=decide_eq_true bA;clear c3
   by_cases c5:(bt a0 0)=95
   ·rw[if_pos c5] at H;have c5b0:((bt a0 0)==95)=true:=beq_iff_eq.mpr c5;have c5b1:((bt a0 0) != 95)=false:=bne_eq_false_iff_eq.mpr c5;clear c5
    obtain ⟨ji6,hji6⟩:∃ j_:Int,(wrap64 ((a0.size:Int) - 1))=j_:=⟨_,rfl⟩
    replace H:(if 0≤(ji6) then (if (ji6) < (a0.size:Int) then (if (bt a0 (ji6))=95 then (if 1≤(ji6) then (if (ji6)≤(a0.size:Int) then (some (a0.extract 1 ((ji6):Int).toNat,true)) else (none)) else (none)) else (some ((⟨#[]⟩:ByteArray),false))) else (none)) else (none))=some (r1,r2):=by first | (rw[hji6] at H;exact H) | (simp only[hji6] at H ⊢;exact H)
    have hji6w:(IntKind.i64.wrap ((a0.size:Int) - 1))=ji6:=(i64_w _).trans hji6
    by_cases c7:0≤(ji6)
    ·rw[if_pos c7] at H;have c7b0:decide (0≤(ji6))=true:=decide_eq_true c7;clear c7
     by_cases c8:(ji6) < (a0.size:Int)
     ·rw[if_pos c8] at H;have c8b0:decide ((ji6) < (a0.size:Int))=true:=decide_eq_true c8;clear c8
      by_cases c10:(bt a0 (ji6))=95
      ·rw[if_pos c10] at H;have c10b0:((bt a0 (ji6))==95)=true:=beq_iff_eq.mpr c10;have c10b1:((bt a0 (ji6)) != 95)=false:=bne_eq_false_iff_eq.mpr c10;clear c10
       by_cases c11:1≤(ji6)
       ·rw[if_pos c11] at H;have c11b0:=eq_true c11;have c11b1:decide (1≤(ji6))=true:=decide_eq_true c11;clear c11
        by_cases c12:(ji6)≤(a0.size:Int)
        ·rw[if_pos c12] at H;have c12b0:=eq_true c12;have c12b1:decide ((ji6)≤(a0.size:Int))=true:=decide_eq_true c12;clear c12;simp only[Option.some.injEq,Prod.mk.injEq] at H;obtain ⟨rfl,rfl⟩:=H
         have p4:0≤(0:Int):=bA
         have q4:0 < a0.size:=(by have:(0:Int) < (a0.size:Int):=bQ;omega)
         have hx4:∀ h:0 < a0.size,((a0[0]'h).toNat:Int)=bt a0 0:=bt_at a0 0;clear p4;have qi4:(0 < (a0.size:Int))=True:=eq_true (bQ);replace q4:=eq_true q4;have p9:0≤((ji6):Int):=bQ;have q9:(ji6) < (a0.size:Int):=bQ;have hx9:=bt_at a0 (ji6);replace p9:=eq_true p9;replace q9:=eq_true q9;go_enter Tryz.func71,Tryz.ntmps71;go_wp2
         go_ret2
         exact ⟨by first | rfl | (simp;done) | (simp only[← hji6] <;> (first | rfl | simp)) | (simp[*];done),dA⟩
        ·rw[if_neg c12] at H;exact absurd H bI
       ·rw[if_neg c11] at H;exact absurd H bI
      ·rw[if_neg c10] at H;have c10b0:((bt a0 (ji6))==95)=false:=beq_eq_false_iff_ne.mpr c10;have c10b1:((bt a0 (ji6)) != 95)=true:=bne_iff_ne.mpr c10;simp only[Option.some.injEq,Prod.mk.injEq] at H;obtain ⟨rfl,rfl⟩:=H
       have p4:0≤(0:Int):=bA
       have q4:0 < a0.size:=(by have:(0:Int) < (a0.size:Int):=bQ;omega)
       have hx4:∀ h:0 < a0.size,((a0[0]'h).toNat:Int)=bt a0 0:=bt_at a0 0;clear p4;have qi4:(0 < (a0.size:Int))=True:=eq_true (bQ);replace q4:=eq_true q4;have p9:0≤((ji6):Int):=bQ;have q9:(ji6) < (a0.size:Int):=bQ;have hx9:=bt_at a0 (ji6);replace p9:=eq_true p9;replace q9:=eq_true q9;go_enter Tryz.func71,Tryz.ntmps71;go_wp2
       go_ret2
       exact ⟨by first | rfl | (simp;done) | (simp only[← hji6] <;> (first | rfl | simp)) | (simp[*];done),dA⟩
     ·rw[if_neg c8] at H;exact absurd H bI
    ·rw[if_neg c7] at H;exact absurd H bI
   ·rw[if_neg c5] at H;have c5b0:((bt a0 0)==95)=false:=beq_eq_false_iff_ne.mpr c5;have c5b1:((bt a0 0) != 95)=true:=bne_iff_ne.mpr c5;simp only[Option.some.injEq,Prod.mk.injEq] at H;obtain ⟨rfl,rfl⟩:=H
    have p4:0≤(0:Int):=bA
    have q4:0 < a0.size:=(by have:(0:Int) < (a0.size:Int):=bQ;omega)
    have hx4:∀ h:0 < a0.size,((a0[0]'h).toNat:Int)=bt a0 0:=bt_at a0 0;clear p4;have qi4:(0 < (a0.size:Int))=True:=eq_true (bQ);replace q4:=eq_true q4;go_enter Tryz.func71,Tryz.ntmps71;go_wp2
    go_ret2
    exact ⟨cZ,dA⟩
  ·rw[if_neg c3] at H;exact absurd H bI
def spec_starts.f (a0:ByteArray) (a1:ByteArray):Option (Bool):=if (a0.size:Int)≥(a1.size:Int) then (if 0≤(a1.size:Int) then (if (a1.size:Int)≤(a0.size:Int) then (some ((a0.extract 0 ((a1.size:Int):Int).toNat).toList==a1.toList)) else (none)) else (none)) else (some false)
set_option maxHeartbeats 8000000 in
set_option maxRecDepth 100000 in
theorem spec_starts.calls (a0:ByteArray) (a1:ByteArray) (r:Bool) (w:World) (h:spec_starts.f a0 a1=some r) :
 Calls Tryz.prog 72 #[.string a0,.string a1] w fun e w'=>e = .returned (.bool r)∧Drawn0 w w':=by
 have H:(if (a0.size:Int)≥(a1.size:Int) then (if 0≤(a1.size:Int) then (if (a1.size:Int)≤(a0.size:Int) then (some ((a0.extract 0 ((a1.size:Int):Int).toNat).toList==a1.toList)) else (none)) else (none)) else (some false))=some r:=h;clear h
 by_cases c3:(a0.size:Int)≥(a1.size:Int)
 ·rw[if_pos c3] at H;have c3b0:decide ((a1.size:Int)≤(a0.size:Int))=true:=decide_eq_true c3;have c3b1:decide (a1.size≤a0.size)=true:=decide_eq_true (Int.ofNat_le.mp c3);clear c3
  by_cases c4:0≤(a1.size:Int)
  ·rw[if_pos c4] at H;have c4b0:=eq_true c4;have c4b1:decide (0≤(a1.size:Int))=true:=decide_eq_true c4;clear c4
   by_cases c5:(a1.size:Int)≤(a0.size:Int)
   ·rw[if_pos c5] at H;have c5b0:=eq_true c5;have c5b1:decide ((a1.size:Int)≤(a0.size:Int))=true:=decide_eq_true c5;clear c5;obtain rfl:=Option.some.inj H;go_enter Tryz.func72,Tryz.ntmps72;go_wp2;go_ret;exact ⟨cZ,dA⟩
   ·rw[if_neg c5] at H;exact absurd H bI
  ·rw[if_neg c4] at H;exact absurd H bI
 ·rw[if_neg c3] at H;have c3b0:decide ((a1.size:Int)≤(a0.size:Int))=false:=decide_eq_false c3;have c3b1:decide (a1.size≤a0.size)=false:=decide_eq_false (fun h=>c3 (Int.ofNat_le.mpr h));clear c3;obtain rfl:=Option.some.inj H;go_enter Tryz.func72,Tryz.ntmps72;go_wp2;go_ret;exact ⟨cZ,dA⟩
def spec_starts.Pure:Prop:=∀ (a0:ByteArray) (a1:ByteArray),a0.size≤140737488351232→a1.size≤140737488351232→spec_starts.f a0 a1=some true
theorem spec_starts.walk (P:spec_starts.Pure) (a0:ByteArray) (a1:ByteArray) (w:World) (w0:a0.size≤140737488351232) (w1:a1.size≤140737488351232) :
 Calls Tryz.prog 72 #[.string a0,.string a1] w fun e w'=>e = .returned (.bool true)∧Below w.heap.size w w':=by
 have h:=P a0 a1 w0 w1;refine (spec_starts.calls a0 a1 true w h).mono ?_;rintro e w' ⟨rfl,hd⟩;exact ⟨rfl,hd.below⟩
end Go.Proofs.YtmgdbpjidkdegaaGreatDoor.PCore
