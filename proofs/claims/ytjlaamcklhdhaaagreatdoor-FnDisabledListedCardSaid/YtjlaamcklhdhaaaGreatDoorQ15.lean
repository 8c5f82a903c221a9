/- Texts that the law leans on: PCorex7, PCorex8, PCorex, Find, Count. Condition: as told at each. -/
import Derived.Deep.LoopGhost
import Derived.Test.YtjlaamcklhdhaaaGreatDoorQ14
namespace Go.Proofs.YtjlaamcklhdhaaaGreatDoor.PCore
open Go.RowKit Go.Proofs.YtjlaamcklhdhaaaGreatDoorW.PrintWords Go.Proofs.YtjlaamcklhdhaaaGreatDoorW.PrintLast Go.Proofs.YtjlaamcklhdhaaaGreatDoorW.PrintMore
attribute [local go_sem] max2_int min2_int max_two min_two max_three min_three max_four min_four   -- for this text's walks alone
set_option linter.unusedVariables false
set_option linter.unusedSimpArgs false
def paths_isSkippedDot.l0:Nat→Int→List Int→Int→Int→Option (Bool)
 | 0,_,_,_,_=>none
 | k+1,x1,x7,x8,x9=>if x9 < x8 then (if 0≤x9 then (if x9 < (x7.length:Int) then (if (rd x7 x9)=x1 then (some true) else (if (rd x7 x9) > x1 then (some false) else (paths_isSkippedDot.l0 k x1 x7 x8 (wrap64 (x9+1))))) else (none)) else (none)) else (some false)
def paths_isSkippedDot.f (k:Nat) (l0:List Int) (a1:Int):Option (Bool):=paths_isSkippedDot.l0 k a1 l0 (l0.length:Int) 0
theorem paths_isSkippedDot.mono_l:∀ k,(∀ y0 y1 y2 y3,LeO (paths_isSkippedDot.l0 k y0 y1 y2 y3) (paths_isSkippedDot.l0 (k+1) y0 y1 y2 y3))
 | 0=>fun _ _ _ _ r h=>by simp[paths_isSkippedDot.l0] at h
 | k+1=>by
  have ih0:=paths_isSkippedDot.mono_l k
  ·intro y0 y1 y2 y3;unfold paths_isSkippedDot.l0
   repeat' first
   | (with_reducible exact ih0 _ _ _ _)
   | (with_reducible exact LeO.refl _)
   | (with_reducible exact LeO.none _)
   | (with_reducible refine LeO.ite ?_ ?_)
   | (with_reducible refine LeO.bind ?_ (fun _=>?_))
   | exact ih0 _ _ _ _
   | exact LeO.none _
   | refine LeO.ite ?_ ?_
   | refine LeO.bind ?_ (fun _=>?_)
theorem paths_isSkippedDot.mono:∀ a0 a1 k,LeO (paths_isSkippedDot.f k a0 a1) (paths_isSkippedDot.f (k+1) a0 a1):=by
 intro a0 a1 k;have ih0:=paths_isSkippedDot.mono_l k;unfold paths_isSkippedDot.f
 repeat' first
  | (with_reducible exact ih0 _ _ _ _)
  | (with_reducible exact LeO.refl _)
  | (with_reducible exact LeO.none _)
  | (with_reducible refine LeO.ite ?_ ?_)
  | (with_reducible refine LeO.bind ?_ (fun _=>?_))
  | exact ih0 _ _ _ _
  | exact LeO.none _
  | refine LeO.ite ?_ ?_
  | refine LeO.bind ?_ (fun _=>?_)
set_option maxHeartbeats 8000000 in
set_option maxRecDepth 100000 in
theorem paths_isSkippedDot.calls (k:Nat) (A0:Option Addr) (c0:Nat) (l0:List Int) (a1:Int) (r:Bool) (w:World) (hr0:Kd.C (Kd.int .i64) w A0 l0.length l0) (hc0:l0.length≤c0) (h:paths_isSkippedDot.f k l0 a1=some r) :
 Calls Tryz.prog 112 #[.slice A0 l0.length c0,.int .i64 a1] w fun e w'=>e = .returned (.bool r)∧Drawn0 w w':=by
 have HR0:=Aside0.mk hr0;have HC0:=Aside0.mk hc0;clear hr0 hc0;have H:(paths_isSkippedDot.l0 k a1 l0 (l0.length:Int) 0)=some r:=h;clear h;have H':=Aside0.mk H;clear H;go_enter Tryz.func112,Tryz.ntmps112;go_wp2
 go_loopg [9] k (fun kq v9 w'=>∃ (x9_1:Int),v9 = .int .i64 x9_1∧Aside0 (paths_isSkippedDot.l0 kq a1 l0 (l0.length:Int) x9_1=some r)∧Aside0 (kq≤k)∧Drawn0 w w')
 case atStart=>exact ⟨(0),(by first | rfl | (simp;done) | (simp[*];done)),H',⟨Nat.le_refl _⟩,by repeat (first | exact Drawn0.refl _ | apply Drawn0.step)⟩
 case round =>
  clear H'
  try clear c1
  try clear p2
  obtain ⟨x9_1,rfl,HA,HK1,⟨m1,rfl⟩⟩:=hrel
  cases gk with
  | zero=>exact absurd HA.out (by simp[paths_isSkippedDot.l0])
  | succ k1 =>
   have H:=HA.out;clear HA;simp only[paths_isSkippedDot.l0] at H
   by_cases c3:x9_1 < (l0.length:Int)
   ·rw[if_pos c3] at H;have c3b0:decide (x9_1 < (l0.length:Int))=true:=decide_eq_true c3;clear c3
    by_cases c4:0≤x9_1
    ·rw[if_pos c4] at H;have c4b0:decide (0≤x9_1)=true:=decide_eq_true c4;clear c4
     by_cases c5:x9_1 < (l0.length:Int)
     ·rw[if_pos c5] at H;have c5b0:decide (x9_1 < (l0.length:Int))=true:=decide_eq_true c5;clear c5
      by_cases c6:(rd l0 x9_1)=a1
      ·rw[if_pos c6] at H;have c6b0:((rd l0 x9_1)==a1)=true:=beq_iff_eq.mpr c6;have c6b1:((rd l0 x9_1) != a1)=false:=bne_eq_false_iff_eq.mpr c6;clear c6;obtain rfl:=Option.some.inj H;have p174:0≤(x9_1:Int):=of_decide_eq_true (by first | (with_reducible assumption) | assumption);have q174:x9_1 < (l0.length:Int):=of_decide_eq_true (by first | (with_reducible assumption) | assumption);obtain ⟨ad174,e174,hx174_0⟩:=Kd.at_int HR0.out x9_1 p174 q174;cases e174;replace p174:=eq_true p174;replace q174:=eq_true q174;go_wp2;go_ret;exact ⟨by first | rfl | (simp;done) | (simp[*];done),by repeat (first | exact Drawn0.refl _ | apply Drawn0.step)⟩
      ·rw[if_neg c6] at H;have c6b0:((rd l0 x9_1)==a1)=false:=beq_eq_false_iff_ne.mpr c6;have c6b1:((rd l0 x9_1) != a1)=true:=bne_iff_ne.mpr c6
       by_cases c7:(rd l0 x9_1) > a1
       ·rw[if_pos c7] at H;have c7b0:decide (a1 < (rd l0 x9_1))=true:=decide_eq_true c7;clear c7;obtain rfl:=Option.some.inj H;have p174:0≤(x9_1:Int):=of_decide_eq_true (by first | (with_reducible assumption) | assumption);have q174:x9_1 < (l0.length:Int):=of_decide_eq_true (by first | (with_reducible assumption) | assumption);obtain ⟨ad174,e174,hx174_0⟩:=Kd.at_int HR0.out x9_1 p174 q174;cases e174;replace p174:=eq_true p174;replace q174:=eq_true q174;go_wp2;go_ret;exact ⟨by first | rfl | (simp;done) | (simp[*];done),by repeat (first | exact Drawn0.refl _ | apply Drawn0.step)⟩
       ·rw[if_neg c7] at H;have c7b0:decide (a1 < (rd l0 x9_1))=false:=decide_eq_false c7;clear c7;have H':=Aside0.mk H;clear H;have p174:0≤(x9_1:Int):=of_decide_eq_true (by first | (with_reducible assumption) | assumption);have q174:x9_1 < (l0.length:Int):=of_decide_eq_true (by first | (with_reducible assumption) | assumption);obtain ⟨ad174,e174,hx174_0⟩:=Kd.at_int HR0.out x9_1 p174 q174;cases e174;replace p174:=eq_true p174;replace q174:=eq_true q174;go_wp2
        go_roundg k1
        case measure=>have:=HK1.out;omega
        case rel=>exact ⟨(wrap64 (x9_1+1)),(by first | rfl | (simp;done) | (simp[*];done)),H',⟨by have:=HK1.out;omega⟩,by repeat (first | exact Drawn0.refl _ | apply Drawn0.step)⟩
     ·rw[if_neg c5] at H;exact absurd H (by simp)
    ·rw[if_neg c4] at H;exact absurd H (by simp)
   ·rw[if_neg c3] at H;have c3b0:decide (x9_1 < (l0.length:Int))=false:=decide_eq_false c3;clear c3;obtain rfl:=Option.some.inj H;go_wp2;go_ret;exact ⟨by first | rfl | (simp;done) | (simp[*];done),by repeat (first | exact Drawn0.refl _ | apply Drawn0.step)⟩
def paths_isSkippedDot.Pure:Prop:=∀ (l0:List Int) (a1:Int),l0.length≤maxLen→l0.length * 8≤140737488351232→(∀ x∈l0,(Lit.int .i64 x).wf=true)→(Lit.int .i64 a1).wf=true→∃ k,paths_isSkippedDot.f k l0 a1=some true
theorem paths_isSkippedDot.walk (P:paths_isSkippedDot.Pure) (a0:Option Addr) (len0 cap0:Nat) (z0:List Int) (a1:Int) (w:World) (w0:(a0=none∧len0=0∧cap0=0∧z0=[])∨∃ x,a0=some x∧len0≤cap0∧cap0≤maxLen∧z0.length=cap0∧(∀ i,i < z0.length→w.cell? (x.add i)=some (.int .i64 (z0.getD i 0)))∧∀ n∈z0,(Lit.int .i64 n).wf=true) (y0:len0 * 8≤140737488351232) (w1:(Lit.int .i64 a1).wf=true) :
 Calls Tryz.prog 112 #[.slice a0 len0 cap0,.int .i64 a1] w fun e w'=>e = .returned (.bool true)∧Below w.heap.size w w':=by
 obtain ⟨l0,rfl,hr0,hm0,hw0,hc0⟩:=ReadsInt.ofRowC w0;obtain ⟨k,h⟩:=P l0 a1 hm0 y0 hw0 w1;refine (paths_isSkippedDot.calls k _ _ l0 a1 true w (Kd.C_of_reads (d:=(0:Int)) (h1:=fun _=>rfl) hr0) hc0 h).mono ?_;rintro e w' ⟨rfl,hd⟩;exact ⟨rfl,hd.below⟩
def paths_zzIndex.l0:Nat→ByteArray→ByteArray→Int→Option (Int)
 | 0,_,_,_=>none
 | k+1,x0,x1,x5=>if (wrap64 (x5+(x1.size:Int)))≤(x0.size:Int) then (if 0≤x5 then (if x5≤(wrap64 (x5+(x1.size:Int))) then (if (x0.extract (x5:Int).toNat ((wrap64 (x5+(x1.size:Int))):Int).toNat).toList=x1.toList then (some x5) else (paths_zzIndex.l0 k x0 x1 (wrap64 (x5+1)))) else (none)) else (none)) else (some (-1))
def paths_zzIndex.f (k:Nat) (a0:ByteArray) (a1:ByteArray):Option (Int):=paths_zzIndex.l0 k a0 a1 0
theorem paths_zzIndex.mono_l:∀ k,(∀ y0 y1 y2,LeO (paths_zzIndex.l0 k y0 y1 y2) (paths_zzIndex.l0 (k+1) y0 y1 y2))
 | 0=>fun _ _ _ r h=>by simp[paths_zzIndex.l0] at h
 | k+1=>by
  have ih0:=paths_zzIndex.mono_l k
  ·intro y0 y1 y2;unfold paths_zzIndex.l0
   repeat' first
   | (with_reducible exact ih0 _ _ _)
   | (with_reducible exact LeO.refl _)
   | (with_reducible exact LeO.none _)
   | (with_reducible refine LeO.ite ?_ ?_)
   | (with_reducible refine LeO.bind ?_ (fun _=>?_))
   | exact ih0 _ _ _
   | exact LeO.none _
   | refine LeO.ite ?_ ?_
   | refine LeO.bind ?_ (fun _=>?_)
theorem paths_zzIndex.mono:∀ a0 a1 k,LeO (paths_zzIndex.f k a0 a1) (paths_zzIndex.f (k+1) a0 a1):=by
 intro a0 a1 k;have ih0:=paths_zzIndex.mono_l k;unfold paths_zzIndex.f
 repeat' first
  | (with_reducible exact ih0 _ _ _)
  | (with_reducible exact LeO.refl _)
  | (with_reducible exact LeO.none _)
  | (with_reducible refine LeO.ite ?_ ?_)
  | (with_reducible refine LeO.bind ?_ (fun _=>?_))
  | exact ih0 _ _ _
  | exact LeO.none _
  | refine LeO.ite ?_ ?_
  | refine LeO.bind ?_ (fun _=>?_)
set_option maxHeartbeats 8000000 in
set_option maxRecDepth 100000 in
theorem paths_zzIndex.calls (k:Nat) (a0:ByteArray) (a1:ByteArray) (r:Int) (w:World) (h:paths_zzIndex.f k a0 a1=some r) :
 Calls Tryz.prog 124 #[.string a0,.string a1] w fun e w'=>e = .returned (.int .i64 r)∧Drawn0 w w':=by
 have H:(paths_zzIndex.l0 k a0 a1 0)=some r:=h;clear h;have H':=Aside0.mk H;clear H;go_enter Tryz.func124,Tryz.ntmps124;go_wp2
 go_loopg [5] k (fun kq v5 w'=>∃ (x5_1:Int),v5 = .int .i64 x5_1∧Aside0 (paths_zzIndex.l0 kq a0 a1 x5_1=some r)∧Aside0 (kq≤k)∧Drawn0 w w')
 case atStart=>exact ⟨(0),(by first | rfl | (simp;done) | (simp[*];done)),H',⟨Nat.le_refl _⟩,by repeat (first | exact Drawn0.refl _ | apply Drawn0.step)⟩
 case round =>
  clear H'
  try clear c1
  try clear p2
  obtain ⟨x5_1,rfl,HA,HK1,⟨m1,rfl⟩⟩:=hrel
  cases gk with
  | zero=>exact absurd HA.out (by simp[paths_zzIndex.l0])
  | succ k1 =>
   have H:=HA.out;clear HA;simp only[paths_zzIndex.l0] at H
   by_cases c3:(wrap64 (x5_1+(a1.size:Int)))≤(a0.size:Int)
   ·rw[if_pos c3] at H;have c3b0:decide ((wrap64 (x5_1+(a1.size:Int)))≤(a0.size:Int))=true:=decide_eq_true c3;clear c3
    by_cases c4:0≤x5_1
    ·rw[if_pos c4] at H;have c4b0:=eq_true c4;have c4b1:decide (0≤x5_1)=true:=decide_eq_true c4;clear c4
     by_cases c5:x5_1≤(wrap64 (x5_1+(a1.size:Int)))
     ·rw[if_pos c5] at H;have c5b0:=eq_true c5;have c5b1:decide (x5_1≤(wrap64 (x5_1+(a1.size:Int))))=true:=decide_eq_true c5;have c6b0:=eq_true (of_decide_eq_true (by first | (with_reducible assumption) | assumption):(wrap64 (x5_1+(a1.size:Int)))≤(a0.size:Int))
      by_cases c7:(a0.extract (x5_1:Int).toNat ((wrap64 (x5_1+(a1.size:Int))):Int).toNat).toList=a1.toList
      ·rw[if_pos c7] at H;have c7b0:((a0.extract (x5_1:Int).toNat ((wrap64 (x5_1+(a1.size:Int))):Int).toNat).toList==a1.toList)=true:=beq_iff_eq.mpr c7;have c7b1:((a0.extract (x5_1:Int).toNat ((wrap64 (x5_1+(a1.size:Int))):Int).toNat).toList != a1.toList)=false:=bne_eq_false_iff_eq.mpr c7;clear c7;obtain rfl:=Option.some.inj H;go_wp2;go_ret;exact ⟨by first | rfl | (simp;done) | (simp[*];done),by repeat (first | exact Drawn0.refl _ | apply Drawn0.step)⟩
      ·rw[if_neg c7] at H;have c7b0:((a0.extract (x5_1:Int).toNat ((wrap64 (x5_1+(a1.size:Int))):Int).toNat).toList==a1.toList)=false:=beq_eq_false_iff_ne.mpr c7;have c7b1:((a0.extract (x5_1:Int).toNat ((wrap64 (x5_1+(a1.size:Int))):Int).toNat).toList != a1.toList)=true:=bne_iff_ne.mpr c7;have H':=Aside0.mk H;clear H;go_wp2
       go_roundg k1
       case measure=>have:=HK1.out;omega
       case rel=>exact ⟨(wrap64 (x5_1+1)),(by first | rfl | (simp;done) | (simp[*];done)),H',⟨by have:=HK1.out;omega⟩,by repeat (first | exact Drawn0.refl _ | apply Drawn0.step)⟩
     ·rw[if_neg c5] at H;exact absurd H (by simp)
    ·rw[if_neg c4] at H;exact absurd H (by simp)
   ·rw[if_neg c3] at H;have c3b0:decide ((wrap64 (x5_1+(a1.size:Int)))≤(a0.size:Int))=false:=decide_eq_false c3;clear c3;obtain rfl:=Option.some.inj H;go_wp2;go_ret;exact ⟨by first | rfl | (simp;done) | (simp[*];done),by repeat (first | exact Drawn0.refl _ | apply Drawn0.step)⟩
def paths_zzContains.f (k:Nat) (a0:ByteArray) (a1:ByteArray):Option (Bool):=(paths_zzIndex.f k a0 a1).bind fun t175=>(some (decide (t175≥0)))
theorem paths_zzContains.mono:∀ a0 a1 k,LeO (paths_zzContains.f k a0 a1) (paths_zzContains.f (k+1) a0 a1):=by
 intro a0 a1 k;unfold paths_zzContains.f
 repeat' first
  | (with_reducible exact paths_zzIndex.mono _ _ _)
  | (with_reducible exact LeO.refl _)
  | (with_reducible exact LeO.none _)
  | (with_reducible refine LeO.ite ?_ ?_)
  | (with_reducible refine LeO.bind ?_ (fun _=>?_))
  | exact paths_zzIndex.mono _ _ _
  | exact LeO.none _
  | refine LeO.ite ?_ ?_
  | refine LeO.bind ?_ (fun _=>?_)
set_option maxHeartbeats 8000000 in
set_option maxRecDepth 100000 in
theorem paths_zzContains.calls (k:Nat) (a0:ByteArray) (a1:ByteArray) (r:Bool) (w:World) (h:paths_zzContains.f k a0 a1=some r) :
 Calls Tryz.prog 111 #[.string a0,.string a1] w fun e w'=>e = .returned (.bool r)∧Drawn0 w w':=by
 have H:((paths_zzIndex.f k a0 a1).bind fun t175=>(some (decide (t175≥0))))=some r:=h;clear h;replace H:=Option.bind_eq_some_iff.mp H;obtain ⟨t175,A30,H⟩:=H;replace H:(some (decide (t175≥0)))=some r:=H;have A3:=Aside0.mk A30;clear A30;obtain rfl:=Option.some.inj H;go_enter Tryz.func111,Tryz.ntmps111
 go_wp2_with (first | ((with_reducible refine gate_callee (f:=124) rfl ?_);refine goesL_ (some 7) rfl rfl Tryz.func124 (by kernel_rfl) rfl #[.string a0,.string a1] rfl (by (try simp only[List.map_toArray,List.map_cons,List.map_nil]);first | done | rfl | (simp only[List.length_drop,List.length_take];rfl)) ?_;(with_reducible refine (paths_zzIndex.calls k a0 a1 t175 _ A3.out).mono ?_);rintro e w' ⟨rfl,⟨nd,rfl⟩⟩;refine ⟨_,rfl,?_⟩))
 go_ret;exact ⟨by first | rfl | (simp;done) | (simp[*];done),by repeat (first | exact Drawn0.refl _ | apply Drawn0.step)⟩
def paths_zzContains.Pure:Prop:=∀ (a0:ByteArray) (a1:ByteArray),a0.size≤140737488351232→a1.size≤140737488351232→∃ k,paths_zzContains.f k a0 a1=some true
theorem paths_zzContains.walk (P:paths_zzContains.Pure) (a0:ByteArray) (a1:ByteArray) (w:World) (w0:a0.size≤140737488351232) (w1:a1.size≤140737488351232) :
 Calls Tryz.prog 111 #[.string a0,.string a1] w fun e w'=>e = .returned (.bool true)∧Below w.heap.size w w':=by
 obtain ⟨k,h⟩:=P a0 a1 w0 w1;refine (paths_zzContains.calls k a0 a1 true w h).mono ?_;rintro e w' ⟨rfl,hd⟩;exact ⟨rfl,hd.below⟩
def files_IsGoTmplExt.f (a0:ByteArray):Option (Bool):=some (a0.toList==([103,111,116,109,112,108]:List UInt8))
set_option maxHeartbeats 8000000 in
set_option maxRecDepth 100000 in
theorem files_IsGoTmplExt.calls (a0:ByteArray) (r:Bool) (w:World) (h:files_IsGoTmplExt.f a0=some r) :
 Calls Tryz.prog 131 #[.string a0] w fun e w'=>e = .returned (.bool r)∧Drawn0 w w':=by
 have H:(some (a0.toList==([103,111,116,109,112,108]:List UInt8)))=some r:=h;clear h;obtain rfl:=Option.some.inj H;go_enter Tryz.func131,Tryz.ntmps131;go_wp2;go_ret;exact ⟨by first | rfl | (simp;done) | (simp[*];done),by repeat (first | exact Drawn0.refl _ | apply Drawn0.step)⟩
def files_IsContentDataExt.f (a0:ByteArray):Option (Bool):=(files_IsGoTmplExt.f a0).bind fun t176=>(some t176)
set_option maxHeartbeats 8000000 in
set_option maxRecDepth 100000 in
theorem files_IsContentDataExt.calls (a0:ByteArray) (r:Bool) (w:World) (h:files_IsContentDataExt.f a0=some r) :
 Calls Tryz.prog 114 #[.string a0] w fun e w'=>e = .returned (.bool r)∧Drawn0 w w':=by
 have H:((files_IsGoTmplExt.f a0).bind fun t176=>(some t176))=some r:=h;clear h;replace H:=Option.bind_eq_some_iff.mp H;obtain ⟨t176,A20,H⟩:=H;replace H:(some t176)=some r:=H;have A2:=Aside0.mk A20;clear A20;obtain rfl:=Option.some.inj H;go_enter Tryz.func114,Tryz.ntmps114
 go_wp2_with (first | ((with_reducible refine gate_callee (f:=131) rfl ?_);refine goesL_ (some 4) rfl rfl Tryz.func131 (by kernel_rfl) rfl #[.string a0] rfl (by (try simp only[List.map_toArray,List.map_cons,List.map_nil]);first | done | rfl | (simp only[List.length_drop,List.length_take];rfl)) ?_;(with_reducible refine (files_IsGoTmplExt.calls a0 t176 _ A2.out).mono ?_);rintro e w' ⟨rfl,⟨nd,rfl⟩⟩;refine ⟨_,rfl,?_⟩))
 go_ret;exact ⟨by first | rfl | (simp;done) | (simp[*];done),by repeat (first | exact Drawn0.refl _ | apply Drawn0.step)⟩
def files_IsContentDataExt.Pure:Prop:=∀ (a0:ByteArray),a0.size≤140737488351232→files_IsContentDataExt.f a0=some true
theorem files_IsContentDataExt.walk (P:files_IsContentDataExt.Pure) (a0:ByteArray) (w:World) (w0:a0.size≤140737488351232) :
 Calls Tryz.prog 114 #[.string a0] w fun e w'=>e = .returned (.bool true)∧Below w.heap.size w w':=by
 have h:=P a0 w0;refine (files_IsContentDataExt.calls a0 true w h).mono ?_;rintro e w' ⟨rfl,hd⟩;exact ⟨rfl,hd.below⟩
def laws_begins.f (a0:ByteArray) (a1:ByteArray):Option (Bool):=if (a0.size:Int)≥(a1.size:Int) then (if 0≤(a1.size:Int) then (if (a1.size:Int)≤(a0.size:Int) then (some ((a0.extract 0 ((a1.size:Int):Int).toNat).toList==a1.toList)) else (none)) else (none)) else (some false)
set_option maxHeartbeats 8000000 in
set_option maxRecDepth 100000 in
theorem laws_begins.calls (a0:ByteArray) (a1:ByteArray) (r:Bool) (w:World) (h:laws_begins.f a0 a1=some r) :
 Calls Tryz.prog 18 #[.string a0,.string a1] w fun e w'=>e = .returned (.bool r)∧Drawn0 w w':=by
 have H:(if (a0.size:Int)≥(a1.size:Int) then (if 0≤(a1.size:Int) then (if (a1.size:Int)≤(a0.size:Int) then (some ((a0.extract 0 ((a1.size:Int):Int).toNat).toList==a1.toList)) else (none)) else (none)) else (some false))=some r:=h;clear h
 by_cases c3:(a0.size:Int)≥(a1.size:Int)
 ·rw[if_pos c3] at H;have c3b0:decide ((a1.size:Int)≤(a0.size:Int))=true:=decide_eq_true c3;have c3b1:decide (a1.size≤a0.size)=true:=decide_eq_true (Int.ofNat_le.mp c3);clear c3
  by_cases c4:0≤(a1.size:Int)
  ·rw[if_pos c4] at H;have c4b0:=eq_true c4;have c4b1:decide (0≤(a1.size:Int))=true:=decide_eq_true c4;clear c4
   by_cases c5:(a1.size:Int)≤(a0.size:Int)
   ·rw[if_pos c5] at H;have c5b0:=eq_true c5;have c5b1:decide ((a1.size:Int)≤(a0.size:Int))=true:=decide_eq_true c5;clear c5;obtain rfl:=Option.some.inj H;go_enter Tryz.func18,Tryz.ntmps18;go_wp2;go_ret;exact ⟨by first | rfl | (simp;done) | (simp[*];done),by repeat (first | exact Drawn0.refl _ | apply Drawn0.step)⟩
   ·rw[if_neg c5] at H;exact absurd H (by simp)
  ·rw[if_neg c4] at H;exact absurd H (by simp)
 ·rw[if_neg c3] at H;have c3b0:decide ((a1.size:Int)≤(a0.size:Int))=false:=decide_eq_false c3;have c3b1:decide (a1.size≤a0.size)=false:=decide_eq_false (fun h=>c3 (Int.ofNat_le.mpr h));clear c3;obtain rfl:=Option.some.inj H;go_enter Tryz.func18,Tryz.ntmps18;go_wp2;go_ret;exact ⟨by first | rfl | (simp;done) | (simp[*];done),by repeat (first | exact Drawn0.refl _ | apply Drawn0.step)⟩
def laws_begins.Pure:Prop:=∀ (a0:ByteArray) (a1:ByteArray),a0.size≤140737488351232→a1.size≤140737488351232→laws_begins.f a0 a1=some true
theorem laws_begins.walk (P:laws_begins.Pure) (a0:ByteArray) (a1:ByteArray) (w:World) (w0:a0.size≤140737488351232) (w1:a1.size≤140737488351232) :
 Calls Tryz.prog 18 #[.string a0,.string a1] w fun e w'=>e = .returned (.bool true)∧Below w.heap.size w w':=by
 have h:=P a0 a1 w0 w1;refine (laws_begins.calls a0 a1 true w h).mono ?_;rintro e w' ⟨rfl,hd⟩;exact ⟨rfl,hd.below⟩
def laws_ends.f (a0:ByteArray) (a1:ByteArray):Option (Bool):=if (a0.size:Int)≥(a1.size:Int) then (if 0≤(wrap64 ((a0.size:Int) - (a1.size:Int))) then (if (wrap64 ((a0.size:Int) - (a1.size:Int)))≤(a0.size:Int) then (some ((a0.extract ((wrap64 ((a0.size:Int) - (a1.size:Int))):Int).toNat a0.size).toList==a1.toList)) else (none)) else (none)) else (some false)
set_option maxHeartbeats 8000000 in
set_option maxRecDepth 100000 in
theorem laws_ends.calls (a0:ByteArray) (a1:ByteArray) (r:Bool) (w:World) (h:laws_ends.f a0 a1=some r) :
 Calls Tryz.prog 17 #[.string a0,.string a1] w fun e w'=>e = .returned (.bool r)∧Drawn0 w w':=by
 have H:(if (a0.size:Int)≥(a1.size:Int) then (if 0≤(wrap64 ((a0.size:Int) - (a1.size:Int))) then (if (wrap64 ((a0.size:Int) - (a1.size:Int)))≤(a0.size:Int) then (some ((a0.extract ((wrap64 ((a0.size:Int) - (a1.size:Int))):Int).toNat a0.size).toList==a1.toList)) else (none)) else (none)) else (some false))=some r:=h;clear h
 by_cases c3:(a0.size:Int)≥(a1.size:Int)
 ·rw[if_pos c3] at H;have c3b0:decide ((a1.size:Int)≤(a0.size:Int))=true:=decide_eq_true c3;have c3b1:decide (a1.size≤a0.size)=true:=decide_eq_true (Int.ofNat_le.mp c3);clear c3
  obtain ⟨ji4,hji4⟩:∃ j_:Int,(wrap64 ((a0.size:Int) - (a1.size:Int)))=j_:=⟨_,rfl⟩
  replace H:(if 0≤(ji4) then (if (ji4)≤(a0.size:Int) then (some ((a0.extract ((ji4):Int).toNat a0.size).toList==a1.toList)) else (none)) else (none))=some r:=by first | (rw[hji4] at H;exact H) | (simp only[hji4] at H ⊢;exact H)
  have hji4w:(IntKind.i64.wrap ((a0.size:Int) - (a1.size:Int)))=ji4:=(i64_w _).trans hji4
  by_cases c5:0≤(ji4)
  ·rw[if_pos c5] at H;have c5b0:=eq_true c5;have c5b1:decide (0≤(ji4))=true:=decide_eq_true c5;clear c5
   by_cases c6:(ji4)≤(a0.size:Int)
   ·rw[if_pos c6] at H;have c6b0:=eq_true c6;have c6b1:decide ((ji4)≤(a0.size:Int))=true:=decide_eq_true c6;clear c6;obtain rfl:=Option.some.inj H;go_enter Tryz.func17,Tryz.ntmps17;go_wp2;go_ret;exact ⟨by first | rfl | (simp;done) | (simp only[← hji4] <;> (first | rfl | simp)) | (simp[*];done),by repeat (first | exact Drawn0.refl _ | apply Drawn0.step)⟩
   ·rw[if_neg c6] at H;exact absurd H (by simp)
  ·rw[if_neg c5] at H;exact absurd H (by simp)
 ·rw[if_neg c3] at H;have c3b0:decide ((a1.size:Int)≤(a0.size:Int))=false:=decide_eq_false c3;have c3b1:decide (a1.size≤a0.size)=false:=decide_eq_false (fun h=>c3 (Int.ofNat_le.mpr h));clear c3;obtain rfl:=Option.some.inj H;go_enter Tryz.func17,Tryz.ntmps17;go_wp2;go_ret;exact ⟨by first | rfl | (simp;done) | (simp[*];done),by repeat (first | exact Drawn0.refl _ | apply Drawn0.step)⟩
def laws_ends.Pure:Prop:=∀ (a0:ByteArray) (a1:ByteArray),a0.size≤140737488351232→a1.size≤140737488351232→laws_ends.f a0 a1=some true
theorem laws_ends.walk (P:laws_ends.Pure) (a0:ByteArray) (a1:ByteArray) (w:World) (w0:a0.size≤140737488351232) (w1:a1.size≤140737488351232) :
 Calls Tryz.prog 17 #[.string a0,.string a1] w fun e w'=>e = .returned (.bool true)∧Below w.heap.size w w':=by
 have h:=P a0 a1 w0 w1;refine (laws_ends.calls a0 a1 true w h).mono ?_;rintro e w' ⟨rfl,hd⟩;exact ⟨rfl,hd.below⟩
def laws_holds.l0:Nat→ByteArray→ByteArray→Int→Option (Bool)
 | 0,_,_,_=>none
 | k+1,x0,x1,x5=>if (wrap64 (x5+(x1.size:Int)))≤(x0.size:Int) then (if 0≤x5 then (if x5≤(wrap64 (x5+(x1.size:Int))) then (if (x0.extract (x5:Int).toNat ((wrap64 (x5+(x1.size:Int))):Int).toNat).toList=x1.toList then (some true) else (laws_holds.l0 k x0 x1 (wrap64 (x5+1)))) else (none)) else (none)) else (some false)
def laws_holds.f (k:Nat) (a0:ByteArray) (a1:ByteArray):Option (Bool):=laws_holds.l0 k a0 a1 0
theorem laws_holds.mono_l:∀ k,(∀ y0 y1 y2,LeO (laws_holds.l0 k y0 y1 y2) (laws_holds.l0 (k+1) y0 y1 y2))
 | 0=>fun _ _ _ r h=>by simp[laws_holds.l0] at h
 | k+1=>by
  have ih0:=laws_holds.mono_l k
  ·intro y0 y1 y2;unfold laws_holds.l0
   repeat' first
   | (with_reducible exact ih0 _ _ _)
   | (with_reducible exact LeO.refl _)
   | (with_reducible exact LeO.none _)
   | (with_reducible refine LeO.ite ?_ ?_)
   | (with_reducible refine LeO.bind ?_ (fun _=>?_))
   | exact ih0 _ _ _
   | exact LeO.none _
   | refine LeO.ite ?_ ?_
   | refine LeO.bind ?_ (fun _=>?_)
theorem laws_holds.mono:∀ a0 a1 k,LeO (laws_holds.f k a0 a1) (laws_holds.f (k+1) a0 a1):=by
 intro a0 a1 k;have ih0:=laws_holds.mono_l k;unfold laws_holds.f
 repeat' first
  | (with_reducible exact ih0 _ _ _)
  | (with_reducible exact LeO.refl _)
  | (with_reducible exact LeO.none _)
  | (with_reducible refine LeO.ite ?_ ?_)
  | (with_reducible refine LeO.bind ?_ (fun _=>?_))
  | exact ih0 _ _ _
  | exact LeO.none _
  | refine LeO.ite ?_ ?_
  | refine LeO.bind ?_ (fun _=>?_)
set_option maxHeartbeats 8000000 in
set_option maxRecDepth 100000 in
theorem laws_holds.calls (k:Nat) (a0:ByteArray) (a1:ByteArray) (r:Bool) (w:World) (h:laws_holds.f k a0 a1=some r) :
 Calls Tryz.prog 20 #[.string a0,.string a1] w fun e w'=>e = .returned (.bool r)∧Drawn0 w w':=by
 have H:(laws_holds.l0 k a0 a1 0)=some r:=h;clear h;have H':=Aside0.mk H;clear H;go_enter Tryz.func20,Tryz.ntmps20;go_wp2
 go_loopg [5] k (fun kq v5 w'=>∃ (x5_1:Int),v5 = .int .i64 x5_1∧Aside0 (laws_holds.l0 kq a0 a1 x5_1=some r)∧Aside0 (kq≤k)∧Drawn0 w w')
 case atStart=>exact ⟨(0),(by first | rfl | (simp;done) | (simp[*];done)),H',⟨Nat.le_refl _⟩,by repeat (first | exact Drawn0.refl _ | apply Drawn0.step)⟩
 case round =>
  clear H'
  try clear c2
  try clear p2
  obtain ⟨x5_1,rfl,HA,HK1,⟨m1,rfl⟩⟩:=hrel
  cases gk with
  | zero=>exact absurd HA.out (by simp[laws_holds.l0])
  | succ k1 =>
   have H:=HA.out;clear HA;simp only[laws_holds.l0] at H
   by_cases c3:(wrap64 (x5_1+(a1.size:Int)))≤(a0.size:Int)
   ·rw[if_pos c3] at H;have c3b0:decide ((wrap64 (x5_1+(a1.size:Int)))≤(a0.size:Int))=true:=decide_eq_true c3;clear c3
    by_cases c4:0≤x5_1
    ·rw[if_pos c4] at H;have c4b0:=eq_true c4;have c4b1:decide (0≤x5_1)=true:=decide_eq_true c4;clear c4
     by_cases c5:x5_1≤(wrap64 (x5_1+(a1.size:Int)))
     ·rw[if_pos c5] at H;have c5b0:=eq_true c5;have c5b1:decide (x5_1≤(wrap64 (x5_1+(a1.size:Int))))=true:=decide_eq_true c5;have c6b0:=eq_true (of_decide_eq_true (by first | (with_reducible assumption) | assumption):(wrap64 (x5_1+(a1.size:Int)))≤(a0.size:Int))
      by_cases c7:(a0.extract (x5_1:Int).toNat ((wrap64 (x5_1+(a1.size:Int))):Int).toNat).toList=a1.toList
      ·rw[if_pos c7] at H;have c7b0:((a0.extract (x5_1:Int).toNat ((wrap64 (x5_1+(a1.size:Int))):Int).toNat).toList==a1.toList)=true:=beq_iff_eq.mpr c7;have c7b1:((a0.extract (x5_1:Int).toNat ((wrap64 (x5_1+(a1.size:Int))):Int).toNat).toList != a1.toList)=false:=bne_eq_false_iff_eq.mpr c7;clear c7;obtain rfl:=Option.some.inj H;go_wp2;go_ret;exact ⟨by first | rfl | (simp;done) | (simp[*];done),by repeat (first | exact Drawn0.refl _ | apply Drawn0.step)⟩
      ·rw[if_neg c7] at H;have c7b0:((a0.extract (x5_1:Int).toNat ((wrap64 (x5_1+(a1.size:Int))):Int).toNat).toList==a1.toList)=false:=beq_eq_false_iff_ne.mpr c7;have c7b1:((a0.extract (x5_1:Int).toNat ((wrap64 (x5_1+(a1.size:Int))):Int).toNat).toList != a1.toList)=true:=bne_iff_ne.mpr c7;have H':=Aside0.mk H;clear H;go_wp2
       go_roundg k1
       case measure=>have:=HK1.out;omega
       case rel=>exact ⟨(wrap64 (x5_1+1)),(by first | rfl | (simp;done) | (simp[*];done)),H',⟨by have:=HK1.out;omega⟩,by repeat (first | exact Drawn0.refl _ | apply Drawn0.step)⟩
     ·rw[if_neg c5] at H;exact absurd H (by simp)
    ·rw[if_neg c4] at H;exact absurd H (by simp)
   ·rw[if_neg c3] at H;have c3b0:decide ((wrap64 (x5_1+(a1.size:Int)))≤(a0.size:Int))=false:=decide_eq_false c3;clear c3;obtain rfl:=Option.some.inj H;go_wp2;go_ret;exact ⟨by first | rfl | (simp;done) | (simp[*];done),by repeat (first | exact Drawn0.refl _ | apply Drawn0.step)⟩
def laws_holds.Pure:Prop:=∀ (a0:ByteArray) (a1:ByteArray),a0.size≤140737488351232→a1.size≤140737488351232→∃ k,laws_holds.f k a0 a1=some true
theorem laws_holds.walk (P:laws_holds.Pure) (a0:ByteArray) (a1:ByteArray) (w:World) (w0:a0.size≤140737488351232) (w1:a1.size≤140737488351232) :
 Calls Tryz.prog 20 #[.string a0,.string a1] w fun e w'=>e = .returned (.bool true)∧Below w.heap.size w w':=by
 obtain ⟨k,h⟩:=P a0 a1 w0 w1;refine (laws_holds.calls k a0 a1 true w h).mono ?_;rintro e w' ⟨rfl,hd⟩;exact ⟨rfl,hd.below⟩
def laws_listed.l0:Nat→ByteArray→List ByteArray→Int→Int→Option (Bool)
 | 0,_,_,_,_=>none
 | k+1,x1,x7,x8,x9=>if x9 < x8 then (if 0≤x9 then (if x9 < (x7.length:Int) then (if (rdOf ByteArray.empty x7 x9).toList=x1.toList then (some true) else (laws_listed.l0 k x1 x7 x8 (wrap64 (x9+1)))) else (none)) else (none)) else (some false)
def laws_listed.f (k:Nat) (l0:List ByteArray) (a1:ByteArray):Option (Bool):=laws_listed.l0 k a1 l0 (l0.length:Int) 0
theorem laws_listed.mono_l:∀ k,(∀ y0 y1 y2 y3,LeO (laws_listed.l0 k y0 y1 y2 y3) (laws_listed.l0 (k+1) y0 y1 y2 y3))
 | 0=>fun _ _ _ _ r h=>by simp[laws_listed.l0] at h
 | k+1=>by
  have ih0:=laws_listed.mono_l k
  ·intro y0 y1 y2 y3;unfold laws_listed.l0
   repeat' first
   | (with_reducible exact ih0 _ _ _ _)
   | (with_reducible exact LeO.refl _)
   | (with_reducible exact LeO.none _)
   | (with_reducible refine LeO.ite ?_ ?_)
   | (with_reducible refine LeO.bind ?_ (fun _=>?_))
   | exact ih0 _ _ _ _
   | exact LeO.none _
   | refine LeO.ite ?_ ?_
   | refine LeO.bind ?_ (fun _=>?_)
theorem laws_listed.mono:∀ a0 a1 k,LeO (laws_listed.f k a0 a1) (laws_listed.f (k+1) a0 a1):=by
 intro a0 a1 k;have ih0:=laws_listed.mono_l k;unfold laws_listed.f
 repeat' first
  | (with_reducible exact ih0 _ _ _ _)
  | (with_reducible exact LeO.refl _)
  | (with_reducible exact LeO.none _)
  | (with_reducible refine LeO.ite ?_ ?_)
  | (with_reducible refine LeO.bind ?_ (fun _=>?_))
  | exact ih0 _ _ _ _
  | exact LeO.none _
  | refine LeO.ite ?_ ?_
  | refine LeO.bind ?_ (fun _=>?_)
set_option maxHeartbeats 8000000 in
set_option maxRecDepth 100000 in
theorem laws_listed.calls (k:Nat) (A0:Option Addr) (c0:Nat) (l0:List ByteArray) (a1:ByteArray) (r:Bool) (w:World) (hr0:Kd.C Kd.string w A0 l0.length l0) (hc0:l0.length≤c0) (h:laws_listed.f k l0 a1=some r) :
 Calls Tryz.prog 25 #[.slice A0 l0.length c0,.string a1] w fun e w'=>e = .returned (.bool r)∧Drawn0 w w':=by
 have HR0:=Aside0.mk hr0;have HC0:=Aside0.mk hc0;clear hr0 hc0;have H:(laws_listed.l0 k a1 l0 (l0.length:Int) 0)=some r:=h;clear h;have H':=Aside0.mk H;clear H;go_enter Tryz.func25,Tryz.ntmps25;go_wp2
 go_loopg [9] k (fun kq v9 w'=>∃ (x9_1:Int),v9 = .int .i64 x9_1∧Aside0 (laws_listed.l0 kq a1 l0 (l0.length:Int) x9_1=some r)∧Aside0 (kq≤k)∧Drawn0 w w')
 case atStart=>exact ⟨(0),(by first | rfl | (simp;done) | (simp[*];done)),H',⟨Nat.le_refl _⟩,by repeat (first | exact Drawn0.refl _ | apply Drawn0.step)⟩
 case round =>
  clear H'
  try clear c2
  try clear p2
  obtain ⟨x9_1,rfl,HA,HK1,⟨m1,rfl⟩⟩:=hrel
  cases gk with
  | zero=>exact absurd HA.out (by simp[laws_listed.l0])
  | succ k1 =>
   have H:=HA.out;clear HA;simp only[laws_listed.l0] at H
   by_cases c3:x9_1 < (l0.length:Int)
   ·rw[if_pos c3] at H;have c3b0:decide (x9_1 < (l0.length:Int))=true:=decide_eq_true c3;clear c3
    by_cases c4:0≤x9_1
    ·rw[if_pos c4] at H;have c4b0:decide (0≤x9_1)=true:=decide_eq_true c4;clear c4
     by_cases c5:x9_1 < (l0.length:Int)
     ·rw[if_pos c5] at H;have c5b0:decide (x9_1 < (l0.length:Int))=true:=decide_eq_true c5;clear c5
      by_cases c6:(rdOf ByteArray.empty l0 x9_1).toList=a1.toList
      ·rw[if_pos c6] at H;have c6b0:((rdOf ByteArray.empty l0 x9_1).toList==a1.toList)=true:=beq_iff_eq.mpr c6;have c6b1:((rdOf ByteArray.empty l0 x9_1).toList != a1.toList)=false:=bne_eq_false_iff_eq.mpr c6;clear c6;obtain rfl:=Option.some.inj H;have p177:0≤(x9_1:Int):=of_decide_eq_true (by first | (with_reducible assumption) | assumption);have q177:x9_1 < (l0.length:Int):=of_decide_eq_true (by first | (with_reducible assumption) | assumption);obtain ⟨ad177,e177,hx177_0⟩:=Kd.at_string HR0.out x9_1 p177 q177;cases e177;replace p177:=eq_true p177;replace q177:=eq_true q177;go_wp2;go_ret;exact ⟨by first | rfl | (simp;done) | (simp[*];done),by repeat (first | exact Drawn0.refl _ | apply Drawn0.step)⟩
      ·rw[if_neg c6] at H;have c6b0:((rdOf ByteArray.empty l0 x9_1).toList==a1.toList)=false:=beq_eq_false_iff_ne.mpr c6;have c6b1:((rdOf ByteArray.empty l0 x9_1).toList != a1.toList)=true:=bne_iff_ne.mpr c6;have H':=Aside0.mk H;clear H;have p177:0≤(x9_1:Int):=of_decide_eq_true (by first | (with_reducible assumption) | assumption);have q177:x9_1 < (l0.length:Int):=of_decide_eq_true (by first | (with_reducible assumption) | assumption);obtain ⟨ad177,e177,hx177_0⟩:=Kd.at_string HR0.out x9_1 p177 q177;cases e177;replace p177:=eq_true p177;replace q177:=eq_true q177;go_wp2
       go_roundg k1
       case measure=>have:=HK1.out;omega
       case rel=>exact ⟨(wrap64 (x9_1+1)),(by first | rfl | (simp;done) | (simp[*];done)),H',⟨by have:=HK1.out;omega⟩,by repeat (first | exact Drawn0.refl _ | apply Drawn0.step)⟩
     ·rw[if_neg c5] at H;exact absurd H (by simp)
    ·rw[if_neg c4] at H;exact absurd H (by simp)
   ·rw[if_neg c3] at H;have c3b0:decide (x9_1 < (l0.length:Int))=false:=decide_eq_false c3;clear c3;obtain rfl:=Option.some.inj H;go_wp2;go_ret;exact ⟨by first | rfl | (simp;done) | (simp[*];done),by repeat (first | exact Drawn0.refl _ | apply Drawn0.step)⟩
def laws_lastOf.l0:Nat→ByteArray→Int→Int→Int→Option (Int)
 | 0,_,_,_,_=>none
 | k+1,x0,x1,x5,x6=>if x6 < (x0.size:Int) then (if 0≤x6 then (if (bt x0 x6)=x1 then (laws_lastOf.l0 k x0 x1 x6 (wrap64 (x6+1))) else (laws_lastOf.l0 k x0 x1 x5 (wrap64 (x6+1)))) else (none)) else (some x5)
def laws_lastOf.f (k:Nat) (a0:ByteArray) (a1:Int):Option (Int):=laws_lastOf.l0 k a0 a1 (-1) 0
theorem laws_lastOf.mono_l:∀ k,(∀ y0 y1 y2 y3,LeO (laws_lastOf.l0 k y0 y1 y2 y3) (laws_lastOf.l0 (k+1) y0 y1 y2 y3))
 | 0=>fun _ _ _ _ r h=>by simp[laws_lastOf.l0] at h
 | k+1=>by
  have ih0:=laws_lastOf.mono_l k
  ·intro y0 y1 y2 y3;unfold laws_lastOf.l0
   repeat' first
   | (with_reducible exact ih0 _ _ _ _)
   | (with_reducible exact LeO.refl _)
   | (with_reducible exact LeO.none _)
   | (with_reducible refine LeO.ite ?_ ?_)
   | (with_reducible refine LeO.bind ?_ (fun _=>?_))
   | exact ih0 _ _ _ _
   | exact LeO.none _
   | refine LeO.ite ?_ ?_
   | refine LeO.bind ?_ (fun _=>?_)
theorem laws_lastOf.mono:∀ a0 a1 k,LeO (laws_lastOf.f k a0 a1) (laws_lastOf.f (k+1) a0 a1):=by
 intro a0 a1 k;have ih0:=laws_lastOf.mono_l k;unfold laws_lastOf.f
 repeat' first
  | (with_reducible exact ih0 _ _ _ _)
  | (with_reducible exact LeO.refl _)
  | (with_reducible exact LeO.none _)
  | (with_reducible refine LeO.ite ?_ ?_)
  | (with_reducible refine LeO.bind ?_ (fun _=>?_))
  | exact ih0 _ _ _ _
  | exact LeO.none _
  | refine LeO.ite ?_ ?_
  | refine LeO.bind ?_ (fun _=>?_)
set_option maxHeartbeats 8000000 in
set_option maxRecDepth 100000 in
theorem laws_lastOf.calls (k:Nat) (a0:ByteArray) (a1:Int) (r:Int) (w:World) (h:laws_lastOf.f k a0 a1=some r) :
 Calls Tryz.prog 26 #[.string a0,.int .u8 a1] w fun e w'=>e = .returned (.int .i64 r)∧Drawn0 w w':=by
 have H:(laws_lastOf.l0 k a0 a1 (-1) 0)=some r:=h;clear h;have H':=Aside0.mk H;clear H;go_enter Tryz.func26,Tryz.ntmps26;go_wp2
 go_loopg [5,6] k (fun kq v5 v6 w'=>∃ (x5_1:Int) (x6_1:Int),v5 = .int .i64 x5_1∧v6 = .int .i64 x6_1∧Aside0 (laws_lastOf.l0 kq a0 a1 x5_1 x6_1=some r)∧Aside0 (kq≤k)∧Drawn0 w w')
 case atStart=>exact ⟨((-1)),(0),(by first | rfl | (simp;done) | (simp[*];done)),(by first | rfl | (simp;done) | (simp[*];done)),H',⟨Nat.le_refl _⟩,by repeat (first | exact Drawn0.refl _ | apply Drawn0.step)⟩
 case round =>
  clear H'
  try clear c2
  try clear p2
  obtain ⟨x5_1,x6_1,rfl,rfl,HA,HK1,⟨m1,rfl⟩⟩:=hrel
  cases gk with
  | zero=>exact absurd HA.out (by simp[laws_lastOf.l0])
  | succ k1 =>
   have H:=HA.out;clear HA;simp only[laws_lastOf.l0] at H
   by_cases c3:x6_1 < (a0.size:Int)
   ·rw[if_pos c3] at H;have c3b0:decide (x6_1 < (a0.size:Int))=true:=decide_eq_true c3;clear c3
    by_cases c4:0≤x6_1
    ·rw[if_pos c4] at H;have c4b0:decide (0≤x6_1)=true:=decide_eq_true c4;clear c4
     by_cases c6:(bt a0 x6_1)=a1
     ·rw[if_pos c6] at H;have c6b0:((bt a0 x6_1)==a1)=true:=beq_iff_eq.mpr c6;have c6b1:((bt a0 x6_1) != a1)=false:=bne_eq_false_iff_eq.mpr c6;clear c6;have H':=Aside0.mk H;clear H;have p5:0≤(x6_1:Int):=of_decide_eq_true (by first | (with_reducible assumption) | assumption);have q5:x6_1 < (a0.size:Int):=of_decide_eq_true (by first | (with_reducible assumption) | assumption);have hx5:=bt_at a0 x6_1;replace p5:=eq_true p5;replace q5:=eq_true q5;go_wp2
      go_roundg k1
      case measure=>have:=HK1.out;omega
      case rel=>exact ⟨(x6_1),(wrap64 (x6_1+1)),(by first | rfl | (simp;done) | (simp[*];done)),(by first | rfl | (simp;done) | (simp[*];done)),H',⟨by have:=HK1.out;omega⟩,by repeat (first | exact Drawn0.refl _ | apply Drawn0.step)⟩
     ·rw[if_neg c6] at H;have c6b0:((bt a0 x6_1)==a1)=false:=beq_eq_false_iff_ne.mpr c6;have c6b1:((bt a0 x6_1) != a1)=true:=bne_iff_ne.mpr c6;have H':=Aside0.mk H;clear H;have p5:0≤(x6_1:Int):=of_decide_eq_true (by first | (with_reducible assumption) | assumption);have q5:x6_1 < (a0.size:Int):=of_decide_eq_true (by first | (with_reducible assumption) | assumption);have hx5:=bt_at a0 x6_1;replace p5:=eq_true p5;replace q5:=eq_true q5;go_wp2
      go_roundg k1
      case measure=>have:=HK1.out;omega
      case rel=>exact ⟨(x5_1),(wrap64 (x6_1+1)),(by first | rfl | (simp;done) | (simp[*];done)),(by first | rfl | (simp;done) | (simp[*];done)),H',⟨by have:=HK1.out;omega⟩,by repeat (first | exact Drawn0.refl _ | apply Drawn0.step)⟩
    ·rw[if_neg c4] at H;exact absurd H (by simp)
   ·rw[if_neg c3] at H;have c3b0:decide (x6_1 < (a0.size:Int))=false:=decide_eq_false c3;clear c3;obtain rfl:=Option.some.inj H;go_wp2;go_ret;exact ⟨by first | rfl | (simp;done) | (simp[*];done),by repeat (first | exact Drawn0.refl _ | apply Drawn0.step)⟩
def paths_HasExt.l0:Nat→ByteArray→Int→Option (Bool)
 | 0,_,_=>none
 | k+1,x0,x3=>if x3≥0 then (if 0≤x3 then (if x3 < (x0.size:Int) then (if (bt x0 x3)=46 then (some true) else (if (bt x0 x3)=47 then (some false) else (paths_HasExt.l0 k x0 (wrap64 (x3 - 1))))) else (none)) else (none)) else (some false)
def paths_HasExt.f (k:Nat) (a0:ByteArray):Option (Bool):=paths_HasExt.l0 k a0 (wrap64 ((a0.size:Int) - 1))
theorem paths_HasExt.mono_l:∀ k,(∀ y0 y1,LeO (paths_HasExt.l0 k y0 y1) (paths_HasExt.l0 (k+1) y0 y1))
 | 0=>fun _ _ r h=>by simp[paths_HasExt.l0] at h
 | k+1=>by
  have ih0:=paths_HasExt.mono_l k
  ·intro y0 y1;unfold paths_HasExt.l0
   repeat' first
   | (with_reducible exact ih0 _ _)
   | (with_reducible exact LeO.refl _)
   | (with_reducible exact LeO.none _)
   | (with_reducible refine LeO.ite ?_ ?_)
   | (with_reducible refine LeO.bind ?_ (fun _=>?_))
   | exact ih0 _ _
   | exact LeO.none _
   | refine LeO.ite ?_ ?_
   | refine LeO.bind ?_ (fun _=>?_)
theorem paths_HasExt.mono:∀ a0 k,LeO (paths_HasExt.f k a0) (paths_HasExt.f (k+1) a0):=by
 intro a0 k;have ih0:=paths_HasExt.mono_l k;unfold paths_HasExt.f
 repeat' first
  | (with_reducible exact ih0 _ _)
  | (with_reducible exact LeO.refl _)
  | (with_reducible exact LeO.none _)
  | (with_reducible refine LeO.ite ?_ ?_)
  | (with_reducible refine LeO.bind ?_ (fun _=>?_))
  | exact ih0 _ _
  | exact LeO.none _
  | refine LeO.ite ?_ ?_
  | refine LeO.bind ?_ (fun _=>?_)
set_option maxHeartbeats 8000000 in
set_option maxRecDepth 100000 in
theorem paths_HasExt.calls (k:Nat) (a0:ByteArray) (r:Bool) (w:World) (h:paths_HasExt.f k a0=some r) :
 Calls Tryz.prog 30 #[.string a0] w fun e w'=>e = .returned (.bool r)∧Drawn0 w w':=by
 have H:(paths_HasExt.l0 k a0 (wrap64 ((a0.size:Int) - 1)))=some r:=h;clear h;have H':=Aside0.mk H;clear H;go_enter Tryz.func30,Tryz.ntmps30;go_wp2
 go_loopg [3] k (fun kq v3 w'=>∃ (x3_1:Int),v3 = .int .i64 x3_1∧Aside0 (paths_HasExt.l0 kq a0 x3_1=some r)∧Aside0 (kq≤k)∧Drawn0 w w')
 case atStart=>exact ⟨(wrap64 ((a0.size:Int) - 1)),(by first | rfl | (simp;done) | (simp[*];done)),H',⟨Nat.le_refl _⟩,by repeat (first | exact Drawn0.refl _ | apply Drawn0.step)⟩
 case round =>
  clear H';obtain ⟨x3_1,rfl,HA,HK1,⟨m1,rfl⟩⟩:=hrel
  cases gk with
  | zero=>exact absurd HA.out (by simp[paths_HasExt.l0])
  | succ k1 =>
   have H:=HA.out;clear HA;simp only[paths_HasExt.l0] at H
   by_cases c2:x3_1≥0
   ·rw[if_pos c2] at H;have c2b0:decide (0≤x3_1)=true:=decide_eq_true c2;clear c2
    by_cases c3:0≤x3_1
    ·rw[if_pos c3] at H;have c3b0:decide (0≤x3_1)=true:=decide_eq_true c3;clear c3
     by_cases c4:x3_1 < (a0.size:Int)
     ·rw[if_pos c4] at H;have c4b0:decide (x3_1 < (a0.size:Int))=true:=decide_eq_true c4;clear c4
      by_cases c6:(bt a0 x3_1)=46
      ·rw[if_pos c6] at H;have c6b0:((bt a0 x3_1)==46)=true:=beq_iff_eq.mpr c6;have c6b1:((bt a0 x3_1) != 46)=false:=bne_eq_false_iff_eq.mpr c6;clear c6;obtain rfl:=Option.some.inj H;have p5:0≤(x3_1:Int):=of_decide_eq_true (by first | (with_reducible assumption) | assumption);have q5:x3_1 < (a0.size:Int):=of_decide_eq_true (by first | (with_reducible assumption) | assumption);have hx5:=bt_at a0 x3_1;replace p5:=eq_true p5;replace q5:=eq_true q5;go_wp2;go_ret;exact ⟨by first | rfl | (simp;done) | (simp[*];done),by repeat (first | exact Drawn0.refl _ | apply Drawn0.step)⟩
      ·rw[if_neg c6] at H;have c6b0:((bt a0 x3_1)==46)=false:=beq_eq_false_iff_ne.mpr c6;have c6b1:((bt a0 x3_1) != 46)=true:=bne_iff_ne.mpr c6
       by_cases c8:(bt a0 x3_1)=47
       ·rw[if_pos c8] at H;have c8b0:((bt a0 x3_1)==47)=true:=beq_iff_eq.mpr c8;have c8b1:((bt a0 x3_1) != 47)=false:=bne_eq_false_iff_eq.mpr c8;clear c8;obtain rfl:=Option.some.inj H;have p5:0≤(x3_1:Int):=of_decide_eq_true (by first | (with_reducible assumption) | assumption);have q5:x3_1 < (a0.size:Int):=of_decide_eq_true (by first | (with_reducible assumption) | assumption);have hx5:=bt_at a0 x3_1;replace p5:=eq_true p5;replace q5:=eq_true q5;have p7:0≤(x3_1:Int):=of_decide_eq_true (by first | (with_reducible assumption) | assumption);have q7:x3_1 < (a0.size:Int):=of_decide_eq_true (by first | (with_reducible assumption) | assumption);have hx7:=bt_at a0 x3_1;replace p7:=eq_true p7;replace q7:=eq_true q7;go_wp2;go_ret
        exact ⟨by first | rfl | (simp;done) | (simp[*];done),by repeat (first | exact Drawn0.refl _ | apply Drawn0.step)⟩
       ·rw[if_neg c8] at H;have c8b0:((bt a0 x3_1)==47)=false:=beq_eq_false_iff_ne.mpr c8;have c8b1:((bt a0 x3_1) != 47)=true:=bne_iff_ne.mpr c8;have H':=Aside0.mk H;clear H;have p5:0≤(x3_1:Int):=of_decide_eq_true (by first | (with_reducible assumption) | assumption);have q5:x3_1 < (a0.size:Int):=of_decide_eq_true (by first | (with_reducible assumption) | assumption);have hx5:=bt_at a0 x3_1;replace p5:=eq_true p5;replace q5:=eq_true q5;have p7:0≤(x3_1:Int):=of_decide_eq_true (by first | (with_reducible assumption) | assumption);have q7:x3_1 < (a0.size:Int):=of_decide_eq_true (by first | (with_reducible assumption) | assumption);have hx7:=bt_at a0 x3_1;replace p7:=eq_true p7;replace q7:=eq_true q7;go_wp2
        go_roundg k1
        case measure=>have:=HK1.out;omega
        case rel=>exact ⟨(wrap64 (x3_1 - 1)),(by first | rfl | (simp;done) | (simp[*];done)),H',⟨by have:=HK1.out;omega⟩,by repeat (first | exact Drawn0.refl _ | apply Drawn0.step)⟩
     ·rw[if_neg c4] at H;exact absurd H (by simp)
    ·rw[if_neg c3] at H;exact absurd H (by simp)
   ·rw[if_neg c2] at H;have c2b0:decide (0≤x3_1)=false:=decide_eq_false c2;clear c2;obtain rfl:=Option.some.inj H;go_wp2;go_ret;exact ⟨by first | rfl | (simp;done) | (simp[*];done),by repeat (first | exact Drawn0.refl _ | apply Drawn0.step)⟩
end Go.Proofs.YtjlaamcklhdhaaaGreatDoor.PCore
namespace Go.Proofs.YtjlaamcklhdhaaaGreatDoor.PCore
open Go.RowKit Go.Proofs.YtjlaamcklhdhaaaGreatDoorW.PrintWords Go.Proofs.YtjlaamcklhdhaaaGreatDoorW.PrintLast Go.Proofs.YtjlaamcklhdhaaaGreatDoorW.PrintMore
attribute [local go_sem] max2_int min2_int max_two min_two max_three min_three max_four min_four   -- for this text's walks alone
set_option linter.unusedVariables false
set_option linter.unusedSimpArgs false
def impl_HasExt.f (k:Nat) (a0:ByteArray):Option (Bool):=(paths_HasExt.f k a0).bind fun t178=>(some t178)
theorem impl_HasExt.mono:∀ a0 k,LeO (impl_HasExt.f k a0) (impl_HasExt.f (k+1) a0):=by
 intro a0 k;unfold impl_HasExt.f
 repeat' first
  | (with_reducible exact paths_HasExt.mono _ _)
  | (with_reducible exact LeO.refl _)
  | (with_reducible exact LeO.none _)
  | (with_reducible refine LeO.ite ?_ ?_)
  | (with_reducible refine LeO.bind ?_ (fun _=>?_))
  | exact paths_HasExt.mono _ _
  | exact LeO.none _
  | refine LeO.ite ?_ ?_
  | refine LeO.bind ?_ (fun _=>?_)
set_option maxHeartbeats 8000000 in
set_option maxRecDepth 100000 in
theorem impl_HasExt.calls (k:Nat) (a0:ByteArray) (r:Bool) (w:World) (h:impl_HasExt.f k a0=some r) :
 Calls Tryz.prog 19 #[.string a0] w fun e w'=>e = .returned (.bool r)∧Drawn0 w w':=by
 have H:((paths_HasExt.f k a0).bind fun t178=>(some t178))=some r:=h;clear h;replace H:=Option.bind_eq_some_iff.mp H;obtain ⟨t178,A20,H⟩:=H;replace H:(some t178)=some r:=H;have A2:=Aside0.mk A20;clear A20;obtain rfl:=Option.some.inj H;go_enter Tryz.func19,Tryz.ntmps19
 go_wp2_with (first | ((with_reducible refine gate_callee (f:=30) rfl ?_);refine goesL_ (some 4) rfl rfl Tryz.func30 (by kernel_rfl) rfl #[.string a0] rfl (by (try simp only[List.map_toArray,List.map_cons,List.map_nil]);first | done | rfl | (simp only[List.length_drop,List.length_take];rfl)) ?_;(with_reducible refine (paths_HasExt.calls k a0 t178 _ A2.out).mono ?_);rintro e w' ⟨rfl,⟨nd,rfl⟩⟩;refine ⟨_,rfl,?_⟩))
 go_ret;exact ⟨by first | rfl | (simp;done) | (simp[*];done),by repeat (first | exact Drawn0.refl _ | apply Drawn0.step)⟩
def impl_HasExt.Pure:Prop:=∀ (a0:ByteArray),a0.size≤140737488351232→∃ k,impl_HasExt.f k a0=some true
theorem impl_HasExt.walk (P:impl_HasExt.Pure) (a0:ByteArray) (w:World) (w0:a0.size≤140737488351232) :
 Calls Tryz.prog 19 #[.string a0] w fun e w'=>e = .returned (.bool true)∧Below w.heap.size w w':=by
 obtain ⟨k,h⟩:=P a0 w0;refine (impl_HasExt.calls k a0 true w h).mono ?_;rintro e w' ⟨rfl,hd⟩;exact ⟨rfl,hd.below⟩
end Go.Proofs.YtjlaamcklhdhaaaGreatDoor.PCore
namespace Go.Proofs.YtjlaamcklhdhaaaGreatDoor.PCore
open Go.RowKit Go.Proofs.YtjlaamcklhdhaaaGreatDoorW.PrintWords Go.Proofs.YtjlaamcklhdhaaaGreatDoorW.PrintLast Go.Proofs.YtjlaamcklhdhaaaGreatDoorW.PrintMore
attribute [local go_sem] max2_int min2_int max_two min_two max_three min_three max_four min_four   -- for this text's walks alone
set_option linter.unusedVariables false
set_option linter.unusedSimpArgs false
end Go.Proofs.YtjlaamcklhdhaaaGreatDoor.PCore
namespace Go.Proofs.YtjlaamcklhdhaaaGreatDoor.Path
open Go.RowKit Go.Proofs.YtjlaamcklhdhaaaGreatDoorW.PrintWords Go.Proofs.YtjlaamcklhdhaaaGreatDoor.Base Go.Proofs.YtjlaamcklhdhaaaGreatDoor.PCore
theorem bt_is (s:ByteArray) (i:Nat) (hi:i < s.size) (n:Int) (c:UInt8) (hn:(c.toNat:Int)=n):(bt s (i:Int)=n)↔(L s)[i]? = some c:=by
 have h:i < (L s).length:=by rw[L_length];exact hi
 rw[bt_nat s i h,List.getElem?_eq_getElem h,← hn];constructor
 ·intro e;have e' : ((L s)[i]'h).toNat=c.toNat:=by omega
  rw[UInt8.toNat_inj.1 e']
 ·intro e;injection e with e
  rw[e]
def ints (l:List Nat):List Int:=l.map fun (n:Nat)=>(n:Int)
section
variable (s:ByteArray) (hs:s.size≤1000000)
include hs
theorem ev_l2 (R:List Int) (e:Nat) (he:e < s.size):∀ (n a:Nat) (acc:List Int),e - a=n→a≤e→acc.length≤a→Ev (fun k=>paths_findWrapperDotPositions.l0 k s (acc++ints (dotsF (L s) a (e - a))) ((e+1:Nat):Int)) R→Ev (fun k=>paths_findWrapperDotPositions.l2 k s acc (e:Int) (a:Int)) R:=by
 intro n
 induction n with
 | zero =>
  intro a acc h1 h2 h3 h;have e1:e=a:=by omega
  subst e1;have e2:acc++ints (dotsF (L s) e (e - e))=acc:=by simp[dotsF,ints]
  rw[e2] at h;refine Ev.step (fun k=>?_) h;simp only[paths_findWrapperDotPositions.l2];rw[if_neg (by omega),w64 (by omega) (by omega)];rfl
 | succ n ih =>
  intro a acc h1 h2 h3 h;have hb:=bt_is s a (by omega) 46 46 (by decide)
  have hd:dotsF (L s) a (e - a)=(if (L s)[a]? = some 46 then [a] else [])++dotsF (L s) (a+1) (e - (a+1)):=by
   have e3:e - a=(e - (a+1))+1:=by omega
   unfold dotsF;rw[e3,List.range'_succ,List.filter_cons]
   by_cases c:(L s)[a]? = some 46
   ·simp[c]
   ·simp[c]
  by_cases c:(L s)[a]? = some 46
  ·have c':=hb.2 c
   have hh:=ih (a+1) (acc++[(a:Int)]) (by omega) (by omega) (by simp;omega) (by
    rw[hd,if_pos c] at h
    simpa [ints] using h)
   refine Ev.step (fun k=>?_) hh;simp only[paths_findWrapperDotPositions.l2];rw[if_pos (by omega),if_pos (by omega),if_pos (by omega),if_pos c',if_pos (by omega),w64 (by omega) (by omega)];rfl
  ·have c' : ¬ (bt s (a:Int)=46):=fun x=>c (hb.1 x)
   have hh:=ih (a+1) acc (by omega) (by omega) (by omega) (by
    rw[hd,if_neg c] at h
    simpa [ints] using h)
   refine Ev.step (fun k=>?_) hh;simp only[paths_findWrapperDotPositions.l2];rw[if_pos (by omega),if_pos (by omega),if_pos (by omega),if_neg c',w64 (by omega) (by omega)];rfl
def wInt:Option Nat→Int
 | none=>-1
 | some e=>e
omit hs in
theorem wEndF_lt (l:List UInt8):∀ (g k e:Nat),wEndF l g k=some e→k≤e∧e < l.length
 | 0,_,_,h=>by cases h
 | g+1,k,e,h=>by
  unfold wEndF at h;split at h
  ·cases h
  ·split at h
   ·rename_i h1 h2
    cases h;exact ⟨Nat.le_refl _,(List.getElem?_eq_some_iff.1 h2.1).1⟩
   ·have:=wEndF_lt l g (k+1) e h;omega
theorem ev_l1 (R:List Int) (i:Nat) (acc:List Int):∀ (n p:Nat),s.size - p=n→p≤s.size→Ev (fun k=>paths_findWrapperDotPositions.j3 k s acc (i:Int) (wInt (wEndF (L s) n p))) R→Ev (fun k=>paths_findWrapperDotPositions.l1 k s acc (i:Int) (-1) (p:Int)) R:=by
 have hl:=L_length s;intro n
 induction n with
 | zero =>
  intro p h1 h2 h;refine Ev.step (fun k=>?_) h;simp only[paths_findWrapperDotPositions.l1];rw[if_neg (by omega)];rfl
 | succ n ih =>
  intro p h1 h2 h;have hb1:=bt_is s p (by omega) 47 47 (by decide);have hb2:=bt_is s p (by omega) 95 95 (by decide);unfold wEndF at h
  by_cases c1:(L s)[p]? = some 47
  ·rw[if_pos c1] at h;refine Ev.step (fun k=>?_) h;simp only[paths_findWrapperDotPositions.l1];rw[if_pos (by omega),if_pos (by omega),if_pos (hb1.2 c1)];rfl
  ·rw[if_neg c1] at h;have c1' : ¬ (bt s (p:Int)=47):=fun x=>c1 (hb1.1 x)
   by_cases c2:(L s)[p]? = some 95
   ·have c2':=hb2.2 c2
    by_cases c3:s.size≤p+1
    ·rw[if_pos ⟨c2,.inl (by omega)⟩] at h;refine Ev.step (fun k=>?_) h;simp only[paths_findWrapperDotPositions.l1];rw[if_pos (by omega),if_pos (by omega),if_neg c1',if_pos c2',w64 (by omega) (by omega),if_pos (by omega)];rfl
    ·have hb3:=bt_is s (p+1) (by omega) 46 46 (by decide);have ep:((p+1:Nat):Int)=(p:Int)+1:=by omega
     by_cases c4:(L s)[p+1]? = some 46
     ·rw[if_pos ⟨c2,.inr c4⟩] at h;refine Ev.step (fun k=>?_) h;simp only[paths_findWrapperDotPositions.l1];rw[if_pos (by omega),if_pos (by omega),if_neg c1',if_pos c2',w64 (by omega) (by omega),if_neg (by omega),if_pos (by omega),if_pos (by omega),if_pos (by rw[← ep];exact hb3.2 c4)];rfl
     ·rw[if_neg (by rintro ⟨_,x | x⟩ <;> first | omega | exact c4 x)] at h;refine Ev.step (fun k=>?_) (ih (p+1) (by omega) (by omega) h);simp only[paths_findWrapperDotPositions.l1];rw[if_pos (by omega),if_pos (by omega),if_neg c1',if_pos c2',w64 (by omega) (by omega),if_neg (by omega),if_pos (by omega),if_pos (by omega),if_neg (by rw[← ep];exact fun x=>c4 (hb3.1 x))];rfl
   ·rw[if_neg (fun x=>c2 x.1)] at h;refine Ev.step (fun k=>?_) (ih (p+1) (by omega) (by omega) h);simp only[paths_findWrapperDotPositions.l1];rw[if_pos (by omega),if_pos (by omega),if_neg c1',if_neg (fun x=>c2 (hb2.1 x)),w64 (by omega) (by omega)];rfl
theorem ev_l0:∀ (g i:Nat) (acc:List Int),s.size - i≤g→acc.length≤i→i≤1000001→Ev (fun k=>paths_findWrapperDotPositions.l0 k s acc (i:Int)) (acc++ints (skF (L s) g i)):=by
 have hl:=L_length s;intro g
 induction g with
 | zero =>
  intro i acc h1 h2 h3;have e:acc++ints (skF (L s) 0 i)=acc:=by simp[skF,ints]
  rw[e];refine Ev.step (f:=fun _=>some acc) (fun k=>?_) (Ev.now _);simp only[paths_findWrapperDotPositions.l0];rw[if_neg (by omega)]
 | succ g ih =>
  intro i acc h1 h2 h3;unfold skF
  by_cases c0:s.size≤i
  ·rw[if_pos (by omega)];have e:acc++ints []=acc:=by simp[ints]
   rw[e];refine Ev.step (f:=fun _=>some acc) (fun k=>?_) (Ev.now _);simp only[paths_findWrapperDotPositions.l0];rw[if_neg (by omega)]
  ·rw[if_neg (by omega)]
   -- to j1
   have hj:Ev (fun k=>paths_findWrapperDotPositions.j1 k s acc (i:Int) (opens (L s) i)) (acc++ints (if opens (L s) i=true then (match wEnd (L s) (i+2) with | some e=>dotsF (L s) (i+2) (e - (i+2))++skF (L s) g (e+1) | none=>skF (L s) g (i+1)) else skF (L s) g (i+1))):=by
    have next:Ev (fun k=>paths_findWrapperDotPositions.l0 k s acc ((i+1:Nat):Int)) (acc++ints (skF (L s) g (i+1))):=ih (i+1) acc (by omega) (by omega) (by omega)
    cases ho:opens (L s) i with
    | false =>
     simp only[Bool.false_eq_true,if_false];refine Ev.step (fun k=>?_) next;simp only[paths_findWrapperDotPositions.j1,Bool.false_eq_true,if_false];rw[w64 (by omega) (by omega)];rfl
    | true =>
     have ho2:i+2 < s.size:=by
      unfold opens at ho;simp only[Bool.and_eq_true,decide_eq_true_eq] at ho;omega
     simp only[if_true];refine Ev.step (f:=fun k=>paths_findWrapperDotPositions.l1 k s acc (i:Int) (-1) ((i+2:Nat):Int)) (fun k=>?_) (ev_l1 s hs _ i acc (s.size - (i+2)) (i+2) rfl (by omega) ?_)
     ·simp only[paths_findWrapperDotPositions.j1,if_true];rw[w64 (by omega) (by omega)];rfl
     ·have hw:wEnd (L s) (i+2)=wEndF (L s) (s.size - (i+2)) (i+2):=by unfold wEnd;rw[hl]
      rw[hw]
      cases he:wEndF (L s) (s.size - (i+2)) (i+2) with
      | none =>
       refine Ev.step (fun k=>?_) next;simp only[paths_findWrapperDotPositions.j3,wInt,if_true];rw[w64 (by omega) (by omega)];rfl
      | some e =>
       obtain ⟨q1,q2⟩:=wEndF_lt _ _ _ _ he
       have hh:=ih (e+1) (acc++ints (dotsF (L s) (i+2) (e - (i+2)))) (by omega) (by
        have:(dotsF (L s) (i+2) (e - (i+2))).length≤e - (i+2):=by unfold dotsF;refine Nat.le_trans (List.length_filter_le _ _) ?_;simp
        simp[ints];omega) (by omega)
       have e5:acc++ints (dotsF (L s) (i+2) (e - (i+2))++skF (L s) g (e+1))=(acc++ints (dotsF (L s) (i+2) (e - (i+2))))++ints (skF (L s) g (e+1)):=by simp[ints]
       rw[e5];refine Ev.step (f:=fun k=>paths_findWrapperDotPositions.l2 k s acc (e:Int) ((i+2:Nat):Int)) (fun k=>?_) (ev_l2 s hs _ e (by omega) (e - (i+2)) (i+2) acc rfl (by omega) (by omega) hh);simp only[paths_findWrapperDotPositions.j3];rw[if_neg (show ¬ wInt (some e) = -1 by show ¬ (e:Int) = -1;omega),w64 (by omega) (by omega)];rfl
   have hb1:=bt_is s i (by omega) 46 46 (by decide);refine Ev.step (fun k=>?_) hj;simp only[paths_findWrapperDotPositions.l0];rw[if_pos (by omega),w64 (n:=(i:Int)+2) (by omega) (by omega)];unfold opens
   by_cases c1:i+2 < s.size
   ·have hb2:=bt_is s (i+1) (by omega) 95 95 (by decide);have ep:((i+1:Nat):Int)=(i:Int)+1:=by omega
    rw[if_pos (by omega),if_pos (by omega)]
    by_cases c2:(L s)[i]? = some 46
    ·rw[if_pos (hb1.2 c2),w64 (n:=(i:Int)+1) (by omega) (by omega),if_pos (by omega),if_pos (by omega)]
     have e6:(bt s ((i:Int)+1)==95)=((L s)[i+1]? == some 95):=by
      rw[← ep,Bool.eq_iff_iff,beq_iff_eq,beq_iff_eq];exact hb2
     rw[e6,c2,decide_eq_true (by omega)]
     simp
    ·rw[if_neg (fun x=>c2 (hb1.1 x))];have:((L s)[i]? == some 46)=false:=by simpa using c2
     rw[this]
     simp
   ·rw[if_neg (by omega),decide_eq_false (by omega)]
    simp
omit hs in
theorem last_slash (h:∃ j:Nat,(L s)[j]? = some 47):∃ j:Nat,Go.Lib.lastIndexByte s 47=(j:Int)∧behind (L s)=j+1∧(L s)[j]? = some 47∧∀ k,j < k→(L s)[k]?≠some 47:=by
 have hl:=L_length s;have hd:s.data.size=s.size:=rfl;have es:(⟨(L s).toArray⟩:ByteArray)=s:=L_inj (L_mk _)
 have at_:∀ k,k < s.size→(((s.data[k]!).toNat:Int)=47↔(L s)[k]? = some 47):=by
  intro k hk;have h1:k < s.data.size:=hk;rw[getElem!_pos s.data k h1];have e:(L s)[k]? = some s.data[k]:=by unfold L;simp
  rw[e];constructor
  ·intro e2;have:(s.data[k]).toNat=(47:UInt8).toNat:=by have:(47:UInt8).toNat=47:=rfl;omega
   rw[UInt8.toNat_inj.1 this]
  ·intro e2;injection e2 with e2
   rw[e2];rfl
 rcases Go.Lib.lastIdx_spec s 47 s.size with ⟨_,h2⟩ | ⟨i,h1,h2,h3,h4⟩
 ·obtain ⟨j,hj⟩:=h;have:j < s.size:=by rw[← hl];exact (List.getElem?_eq_some_iff.1 hj).1
  exact absurd ((at_ j this).2 hj) (h2 j this)
 ·refine ⟨i,h2,?_,(at_ i h1).1 h3,fun k hk e=>?_⟩
  ·unfold behind;rw[es];show (Go.Lib.lastIdx s 47 s.size+1).toNat=i+1;rw[h2];omega
  ·have:k < s.size:=by rw[← hl];exact (List.getElem?_eq_some_iff.1 e).1
   exact h4 k hk this ((at_ k this).2 e)
theorem ev_find (h:∃ j:Nat,(L s)[j]? = some 47):Ev (fun k=>paths_findWrapperDotPositions.f k s) (ints (mSkip (L s))):=by
 have hl:=L_length s;obtain ⟨j,h1,h2,h3,_⟩:=last_slash s h;have hj:j < s.size:=by rw[← hl];exact (List.getElem?_eq_some_iff.1 h3).1
 have e:=ev_l0 s hs (L s).length j [] (by omega) (by simp) (by omega);have e9:[]++ints (skF (L s) (L s).length j)=ints (mSkip (L s)):=by unfold mSkip;rw[h2];rfl
 rw[e9] at e;refine Ev.congr (fun k=>?_) e;show ((strings_LastIndex.f s ⟨#[47]⟩).bind fun t=>if t = -1 then some ([]:List Int) else paths_findWrapperDotPositions.l0 k s [] t)=_;unfold strings_LastIndex.f;rw[if_pos ⟨by rw[L_toList];rfl,by omega⟩,h1];have hne:¬ ((j:Int) = -1):=by omega
 show (if (j:Int) = -1 then some ([]:List Int) else paths_findWrapperDotPositions.l0 k s [] (j:Int))=paths_findWrapperDotPositions.l0 k s [] (j:Int);rw[if_neg hne]
end
theorem ev_isSk (i:Nat):∀ (n j:Nat) (l:List Nat),l.length - j=n→j≤l.length→l.length≤1000000→Ev (fun k=>paths_isSkippedDot.l0 k (i:Int) (ints l) (l.length:Int) (j:Int)) (isSk (l.drop j) i):=by
 intro n
 induction n with
 | zero =>
  intro j l h1 h2 h3;have e:l.drop j=[]:=List.drop_of_length_le (by omega);rw[e];refine Ev.step (f:=fun _=>some false) (fun k=>?_) (Ev.now _);simp only[paths_isSkippedDot.l0];rw[if_neg (by omega)]
 | succ n ih =>
  intro j l h1 h2 h3;have hj:j < l.length:=by omega
  have e:l.drop j=l[j]::l.drop (j+1):=List.drop_eq_getElem_cons hj
  have hr:rd (ints l) (j:Int)=(l[j]:Int):=by
   unfold rd
   simp[ints,hj]
  rw[e];have hz:(ints l).length=l.length:=by simp[ints]
  by_cases c1:l[j]=i
  ·have e2:isSk (l[j]::l.drop (j+1)) i=true:=by unfold isSk;rw[if_pos c1]
   rw[e2];refine Ev.step (f:=fun _=>some true) (fun k=>?_) (Ev.now _);simp only[paths_isSkippedDot.l0];rw[if_pos (by omega),if_pos (by omega),if_pos (by omega),hr,if_pos (by omega)]
  ·by_cases c2:i < l[j]
   ·have e2:isSk (l[j]::l.drop (j+1)) i=false:=by unfold isSk;rw[if_neg c1,if_pos c2]
    rw[e2];refine Ev.step (f:=fun _=>some false) (fun k=>?_) (Ev.now _);simp only[paths_isSkippedDot.l0];rw[if_pos (by omega),if_pos (by omega),if_pos (by omega),hr,if_neg (by omega),if_pos (by omega)]
   ·have e2:isSk (l[j]::l.drop (j+1)) i=isSk (l.drop (j+1)) i:=by rw[isSk,if_neg c1,if_neg c2]
    rw[e2];refine Ev.step (fun k=>?_) (ih (j+1) l (by omega) (by omega) h3);simp only[paths_isSkippedDot.l0];rw[if_pos (by omega),if_pos (by omega),if_pos (by omega),hr,if_neg (by omega),if_neg (by omega),w64 (by omega) (by omega)];rfl
theorem ev_skipped (i:Nat) (l:List Nat) (h:l.length≤1000000):Ev (fun k=>paths_isSkippedDot.f k (ints l) (i:Int)) (isSk l i):=by
 have e:=ev_isSk i l.length 0 l (by omega) (by omega) h;refine Ev.congr (fun k=>?_) e;show paths_isSkippedDot.l0 k (i:Int) (ints l) ((ints l).length:Int) 0=_;rw[show (ints l).length=l.length by simp[ints]];rfl
theorem ev_index (s t:ByteArray) (hs:s.size≤1000000) (ht:t.size≤1000000):∀ (g i:Nat),s.size+1 - i≤g→i≤s.size+1→∃ r:Int,Ev (fun k=>paths_zzIndex.l0 k s t (i:Int)) r∧decide (r≥0)=hasF (L s) (L t) g i:=by
 have hl:=L_length s;have hlt:=L_length t;intro g
 induction g with
 | zero =>
  intro i h1 h2;refine ⟨-1,Ev.step (f:=fun _=>some (-1)) (fun k=>?_) (Ev.now _),by simp[hasF]⟩;simp only[paths_zzIndex.l0];rw[if_neg (by rw[w64 (by omega) (by omega)];omega)]
 | succ g ih =>
  intro i h1 h2;unfold hasF
  by_cases c:s.size < i+t.size
  ·rw[if_pos (by omega)];refine ⟨-1,Ev.step (f:=fun _=>some (-1)) (fun k=>?_) (Ev.now _),by simp⟩;simp only[paths_zzIndex.l0];rw[if_neg (by rw[w64 (by omega) (by omega)];omega)]
  ·rw[if_neg (by omega)];have hx:(s.extract i (i+t.size)).toList=((L s).drop i).take (L t).length:=by rw[L_toList,L_extract,hlt];congr 1;omega
   by_cases h:((L s).drop i).take (L t).length=L t
   ·refine ⟨i,Ev.step (f:=fun _=>some (i:Int)) (fun k=>?_) (Ev.now _),by rw[h];simp⟩;simp only[paths_zzIndex.l0];rw[w64 (n:=(i:Int)+t.size) (by omega) (by omega),if_pos (by omega),if_pos (by omega),if_pos (by omega),if_pos ?_];rw[Int.toNat_natCast,show ((i:Int)+(t.size:Int)).toNat=i+t.size by omega,hx,h,L_toList]
   ·obtain ⟨r,h3,h4⟩:=ih (i+1) (by omega) (by omega);refine ⟨r,Ev.step (fun k=>?_) h3,?_⟩
    ·simp only[paths_zzIndex.l0];rw[w64 (n:=(i:Int)+t.size) (by omega) (by omega),if_pos (by omega),if_pos (by omega),if_pos (by omega),if_neg ?_,w64 (by omega) (by omega)]
     ·rfl
     ·rw[Int.toNat_natCast,show ((i:Int)+(t.size:Int)).toNat=i+t.size by omega,hx,L_toList];exact h
    ·rw[h4];have:(((L s).drop i).take (L t).length==L t)=false:=by simpa using h
     rw[this,Bool.false_or]
theorem ev_contains (s t:ByteArray) (hs:s.size≤1000000) (ht:t.size≤1000000):Ev (fun k=>paths_zzContains.f k s t) (hasSub (L s) (L t)):=by
 obtain ⟨r,h1,h2⟩:=ev_index s t hs ht (s.size+1) 0 (by omega) (by omega);have e:hasSub (L s) (L t)=decide (r≥0):=by unfold hasSub;rw[L_length,h2]
 rw[e];refine Ev.bind (g:=fun k=>paths_zzIndex.f k s t) (f:=fun _ r=>some (decide (r≥0))) h1 (Ev.now _)
end Go.Proofs.YtjlaamcklhdhaaaGreatDoor.Path
namespace Go.Proofs.YtjlaamcklhdhaaaGreatDoor.Path
open Go.RowKit Go.Proofs.YtjlaamcklhdhaaaGreatDoorW.PrintWords Go.Proofs.YtjlaamcklhdhaaaGreatDoor.Base
theorem countDots_le (l:List UInt8):countDots l≤l.length:=by unfold countDots;exact List.length_filter_le _ _
theorem countDots_step (l:List UInt8) (k:Nat) (h:k < l.length):countDots (l.take (k+1))=countDots (l.take k)+if l[k]=46 then 1 else 0:=by
 unfold countDots;rw[List.take_succ_eq_append_getElem h,List.filter_append,List.length_append]
 by_cases c:l[k]=46
 ·simp[c]
 ·simp[c]
set_option maxRecDepth 100000 in
set_option maxHeartbeats 1600000 in
theorem count_calls (s:ByteArray) (hs:s.size≤1000000) (w:World) :
 Calls Tryz.prog 110 #[.string s,.string ⟨#[46]⟩] w fun e w'=>e = .returned (.int .i64 (countDots (L s)))∧w'=w:=by
 have hl:=L_length s
 obtain ⟨n,hn⟩:∃ n,s.size=n:=⟨_,rfl⟩
 have HN:=Aside0.mk hn;rw[hn] at hs;go_enter Tryz.func110,Tryz.ntmps110;go_wp2_with fail
 go_loopg [5,6] n (fun g c i wr=>∃ k:Nat,k≤n∧g=n - k∧i = .int .i64 k∧c = .int .i64 (countDots ((L s).take k))∧wr=w)
 case atStart=>exact ⟨0,Nat.zero_le _,rfl,rfl,rfl,rfl⟩
 case round =>
  obtain ⟨k,hk,hg,rfl,rfl,rfl⟩:=hrel;have hsz:ByteArray.size ⟨#[46]⟩=1:=rfl;have hc0:=countDots_le ((L s).take k);have hc1:((L s).take k).length≤n:=by simp;omega
  have d0:IntKind.i64.wrap ((k:Int)+1)=((k+1:Nat):Int):=by rw[IntWalk.i64_in _ (by omega)];omega
  by_cases hlt:k < n
  ·have hkl:k < (L s).length:=by omega
   have hst:=countDots_step (L s) k hkl;have d1:decide (((k+1:Nat):Int)≤(n:Int))=true:=decide_eq_true (by omega);have d2:((k+1:Nat):Int)≤(n:Int):=by omega
   have d3:(k:Int)≤((k+1:Nat):Int):=by omega
   have d4:(0:Int)≤(k:Int):=by omega
   have e1:(k:Int)+1≤(n:Int):=by omega
   have e2:(k:Int)≤(k:Int)+1:=by omega
   have e3:((k:Int)+1).toNat=k+1:=by omega
   have e4:decide ((k:Int)+1≤(n:Int))=true:=decide_eq_true e1
   obtain ⟨m,hm⟩:∃ m,countDots ((L s).take k)=m:=⟨_,rfl⟩
   rw[hm] at hst hc0 ⊢;have d5:IntKind.i64.wrap ((m:Int)+1)=((m+1:Nat):Int):=by rw[IntWalk.i64_in _ (by omega)];omega
   have hx:((s.extract k (k+1)).toList==(⟨#[46]⟩:ByteArray).toList)=decide ((L s)[k]=46):=by
    rw[L_toList,L_extract,L_toList,List.drop_eq_getElem_cons hkl];have:k+1 - k=1:=by omega
    rw[this,Bool.eq_iff_iff,beq_iff_eq,decide_eq_true_iff]
    simp[L]
   obtain ⟨b,hb⟩:∃ b,decide ((L s)[k]=46)=b:=⟨_,rfl⟩
   rw[hb] at hx;have HB:=Aside0.mk hb;have HST:=Aside0.mk hst;clear hst hb;rw[show (⟨#[46]⟩:ByteArray).toList=[46] by rw[L_toList];rfl] at hx;cases b
   ·have hc:¬ (L s)[k]=46:=of_decide_eq_false HB.out;have hst2:=HST.out;rw[if_neg hc] at hst2;clear hc;go_wp2_with fail
    go_roundg (n - (k+1))
    case rel=>exact ⟨k+1,by omega,rfl,by go_num,by rw[hst2];rfl,rfl⟩
    case measure=>omega
   ·have hc:(L s)[k]=46:=of_decide_eq_true HB.out;have hst2:=HST.out;rw[if_pos hc] at hst2;clear hc;go_wp2_with fail
    go_roundg (n - (k+1))
    case rel=>exact ⟨k+1,by omega,rfl,by go_num,by rw[hst2];go_num,rfl⟩
    case measure=>omega
  ·have:k=n:=by omega
   subst this;have d1:decide (((k+1:Nat):Int)≤(k:Int))=false:=decide_eq_false (by omega);have d2:¬ (((k+1:Nat):Int)≤(k:Int)):=by omega
   have e4:decide ((k:Int)+1≤(k:Int))=false:=decide_eq_false (by omega);have e:(L s).take k=L s:=List.take_of_length_le (by omega);rw[e];go_wp2_with fail
   go_ret;exact ⟨rfl,rfl⟩
end Go.Proofs.YtjlaamcklhdhaaaGreatDoor.Path
