/- Texts that the law leans on: FnListed, FnLast, Ext2, FnsQ, PTextsx0, PTextsx1, PTextsx. Condition: as told at each. -/
import Derived.Test.YtjlaamcklhdhaaaGreatDoorProg
import Derived.Below
import Derived.Deep.Draws
import Derived.Deep.AppendLies
import Derived.Maps.AppendAt
import Derived.OwnWalk
import Derived.Laws.BytesArg
import Derived.Laws.MakeOwn
import Derived.Laws.OwnMore
import Derived.Deep.OwnRows
import Derived.Tactics
import Derived.Lib.ConvBytes
import Derived.Laws.Slices
import Derived.WalkKit
import Derived.KernelRfl
import Derived.RowKit3
import Derived.Deep.LoopGhost
import Derived.Deep.QuietTactic
import Derived.BigQuiet
import Derived.WideLaws
import Derived.Deep.DeepCutAuto
import Derived.Deep.CutBlock
import Derived.Deep.RegionHeld3
import Derived.Laws.Rows
import Derived.Lib.AppendStr
import Derived.ArgAppend
import Derived.Laws.IdiomCopy
import Derived.OrdersHeld
import Derived.Laws.BitsLemmas
import Derived.RowKit
import Derived.Laws.StructEq
import Derived.Test.YtjlaamcklhdhaaaGreatDoorQ22
set_option linter.unusedVariables false
set_option linter.unusedSimpArgs false
namespace Go.Proofs.YtjlaamcklhdhaaaGreatDoor.Path
open Go.RowKit Go.Proofs.YtjlaamcklhdhaaaGreatDoorW.PrintWords Go.Proofs.YtjlaamcklhdhaaaGreatDoor.Base Go.Proofs.YtjlaamcklhdhaaaGreatDoor.Total Go.Proofs.YtjlaamcklhdhaaaGreatDoor.Ext Go.Proofs.YtjlaamcklhdhaaaGreatDoor.PCore
theorem ev_listed_l0 (l:List ByteArray) (s:ByteArray) (hl:l.length≤9223372036854775807):∀ (n j:Nat),l.length - j=n→j≤l.length→Ev (fun k=>laws_listed.l0 k s l (l.length:Int) (j:Int)) (listed (l.drop j) s):=by
 intro n
 induction n with
 | zero =>
  intro j h1 h2;rw[List.drop_of_length_le (by omega)];refine Ev.step (f:=fun _=>some false) (fun k=>?_) (Ev.now _);simp only[laws_listed.l0];rw[if_neg (by omega)]
 | succ n ih =>
  intro j h1 h2;have hi:j < l.length:=by omega
  by_cases c:l[j].toList=s.toList
  ·have:listed (l.drop j) s=true:=by
    unfold listed;rw[List.drop_eq_getElem_cons hi,List.any_cons,beq_iff_eq.2 c,Bool.true_or]
   rw[this];refine Ev.step (f:=fun _=>some true) (fun k=>?_) (Ev.now _);simp only[laws_listed.l0];rw[if_pos (by omega),if_pos (by omega),if_pos (by omega),rdOf_nat _ _ _ hi,if_pos c]
  ·have:listed (l.drop j) s=listed (l.drop (j+1)) s:=by
    unfold listed;rw[List.drop_eq_getElem_cons hi,List.any_cons,beq_eq_false_iff_ne.2 c,Bool.false_or]
   rw[this];refine Ev.step (fun k=>?_) (ih (j+1) (by omega) (by omega));simp only[laws_listed.l0];rw[if_pos (by omega),if_pos (by omega),if_pos (by omega),rdOf_nat _ _ _ hi,if_neg c,w64 (by omega) (by omega)];rfl
theorem listed_calls {w:World} {v:Value} {l:List ByteArray} (H:StrRow w 0 v l) (hl:l.length≤9223372036854775807) (s:ByteArray):Calls Tryz.prog 25 #[v,.string s] w fun e w'=>e = .returned (.bool (listed l s))∧Below w.heap.size w w':=by
 obtain ⟨k,hk⟩:=(Ev.congr (g:=fun k=>laws_listed.f k l s) (fun k=>rfl) (ev_listed_l0 l s hl l.length 0 (by omega) (by omega))).rounds;obtain ⟨A0,c0,rfl,h0,r0⟩:=H.kd hl
 exact (laws_listed.calls k A0 c0 l s _ w r0 h0 hk).mono fun _ _ ⟨h1,h2⟩=>⟨h1,h2.below⟩
end Go.Proofs.YtjlaamcklhdhaaaGreatDoor.Path
namespace Go.Proofs.YtjlaamcklhdhaaaGreatDoor.Path
open Go.RowKit Go.Proofs.YtjlaamcklhdhaaaGreatDoorW.PrintWords Go.Proofs.YtjlaamcklhdhaaaGreatDoor.Base Go.Proofs.YtjlaamcklhdhaaaGreatDoor.Total Go.Proofs.YtjlaamcklhdhaaaGreatDoor.Ext Go.Proofs.YtjlaamcklhdhaaaGreatDoor.PCore
def slI (o:Option Nat):Int:=match o with | some j=>(j:Int) | none=>-1
theorem ev_lastOf_l0 (s:ByteArray) (hs:s.size≤140737488355328):∀ (n j:Nat),s.size - j=n→j≤s.size→Ev (fun k=>laws_lastOf.l0 k s 47 (slI (slB (L s) j)) (j:Int)) (slI (slB (L s) s.size)):=by
 have hl:=L_length s;intro n
 induction n with
 | zero =>
  intro j h1 h2;obtain rfl:j=s.size:=by omega
  refine Ev.step (f:=fun _=>some (slI (slB (L s) s.size))) (fun k=>?_) (Ev.now _);simp only[laws_lastOf.l0];rw[if_neg (by omega)]
 | succ n ih =>
  intro j h1 h2;have hi:j < (L s).length:=by omega
  have hb:=bt_nat s j hi;have h47:(((L s)[j]).toNat:Int)=47↔(L s)[j]=47:=u8_eq (L s)[j] 47 (by omega);refine Ev.step (fun k=>?_) (ih (j+1) (by omega) (by omega));simp only[laws_lastOf.l0]
  by_cases c:(L s)[j]=47
  ·rw[if_pos (by omega),if_pos (by omega),hb,if_pos (h47.2 c),w64 (by omega) (by omega)];have:slB (L s) (j+1)=some j:=by unfold slB;rw[if_pos (by rw[List.getElem?_eq_getElem hi,c])]
   rw[this];rfl
  ·rw[if_pos (by omega),if_pos (by omega),hb,if_neg (fun h=>c (h47.1 h)),w64 (by omega) (by omega)];have:slB (L s) (j+1)=slB (L s) j:=by rw[slB,if_neg (by rw[List.getElem?_eq_getElem hi];simpa using c)]
   rw[this];rfl
theorem lastOf_calls (s:ByteArray) (w:World) (hs:s.size≤140737488355328):Calls Tryz.prog 26 #[.string s,.int .u8 47] w fun e w'=>e = .returned (.int .i64 (slI (slB (L s) s.size)))∧Below w.heap.size w w':=by
 obtain ⟨k,hk⟩:=(Ev.congr (f:=fun k=>laws_lastOf.l0 k s 47 (slI (slB (L s) 0)) ((0:Nat):Int)) (g:=fun k=>laws_lastOf.f k s 47) (fun k=>rfl) (ev_lastOf_l0 s hs s.size 0 (by omega) (by omega))).rounds
 exact (laws_lastOf.calls k s 47 _ w hk).mono fun _ _ ⟨h1,h2⟩=>⟨h1,h2.below⟩
end Go.Proofs.YtjlaamcklhdhaaaGreatDoor.Path
namespace Go.Proofs.YtjlaamcklhdhaaaGreatDoor.Ext
open Go.RowKit Go.Proofs.YtjlaamcklhdhaaaGreatDoorW.PrintWords Go.Proofs.YtjlaamcklhdhaaaGreatDoor.Base Go.Proofs.YtjlaamcklhdhaaaGreatDoor.PCore
theorem ev_HasExt_l0 (s:ByteArray) (hs:s.size≤140737488355328):∀ n:Nat,n≤s.size→Ev (fun k=>paths_HasExt.l0 k s ((n:Int) - 1)) (ptR ((L s).take n).reverse):=by
 have hl:=L_length s;intro n
 induction n with
 | zero =>
  intro _;refine Ev.step (f:=fun _=>some false) (fun k=>?_) (Ev.now _);simp only[paths_HasExt.l0];rw[if_neg (by omega)]
 | succ n ih =>
  intro hn;have hi:n < (L s).length:=by omega
  have e:((L s).take (n+1)).reverse=(L s)[n]::((L s).take n).reverse:=by rw[List.take_succ_eq_append_getElem hi];simp
  have hb:=bt_nat s n hi;have ei:((n+1:Nat):Int) - 1=(n:Int):=by omega
  have h46:(((L s)[n]).toNat:Int)=46↔(L s)[n]=46:=u8_eq (L s)[n] 46 (by omega);have h47:(((L s)[n]).toNat:Int)=47↔(L s)[n]=47:=u8_eq (L s)[n] 47 (by omega);rw[e,ei]
  by_cases h1:(L s)[n]=46
  ·have e2:ptR ((L s)[n]::((L s).take n).reverse)=true:=by simp[ptR,h1]
   rw[e2];refine Ev.step (f:=fun _=>some true) (fun k=>?_) (Ev.now _);simp only[paths_HasExt.l0];rw[if_pos (by omega),if_pos (by omega),if_pos (by omega),hb,if_pos (h46.2 h1)]
  ·by_cases h2:(L s)[n]=47
   ·have e2:ptR ((L s)[n]::((L s).take n).reverse)=false:=by simp[ptR,h2]
    rw[e2];refine Ev.step (f:=fun _=>some false) (fun k=>?_) (Ev.now _);simp only[paths_HasExt.l0];rw[if_pos (by omega),if_pos (by omega),if_pos (by omega),hb,if_neg (fun h=>h1 (h46.1 h)),if_pos (h47.2 h2)]
   ·have e2:ptR ((L s)[n]::((L s).take n).reverse)=ptR ((L s).take n).reverse:=by simp[ptR,h1,h2]
    rw[e2];refine Ev.step (f:=fun k=>paths_HasExt.l0 k s ((n:Int) - 1)) (fun k=>?_) (ih (by omega));simp only[paths_HasExt.l0];rw[if_pos (by omega),if_pos (by omega),if_pos (by omega),hb,if_neg (fun h=>h1 (h46.1 h)),if_neg (fun h=>h2 (h47.1 h)),w64 (by omega) (by omega)]
theorem ev_HasExt (s:ByteArray) (hs:s.size≤140737488355328):Ev (fun k=>impl_HasExt.f k s) (ext (L s)):=by
 refine Ev.bind (f:=fun _ t=>some t) ?_ (Ev.now _);have h:=ev_HasExt_l0 s hs s.size (Nat.le_refl _);rw[List.take_of_length_le (by rw[L_length];exact Nat.le_refl _)] at h;refine Ev.congr (fun k=>?_) h;unfold paths_HasExt.f;rw[w64 (by omega) (by omega)]
end Go.Proofs.YtjlaamcklhdhaaaGreatDoor.Ext
namespace Go.Proofs.YtjlaamcklhdhaaaGreatDoor.Path
open Go.RowKit Go.Proofs.YtjlaamcklhdhaaaGreatDoorW.PrintWords Go.Proofs.YtjlaamcklhdhaaaGreatDoor.Base Go.Proofs.YtjlaamcklhdhaaaGreatDoor.Total Go.Proofs.YtjlaamcklhdhaaaGreatDoor.Ext Go.Proofs.YtjlaamcklhdhaaaGreatDoor.PCore
theorem holds_q (s t:ByteArray) (r:Bool) (w:World) (hs:s.size≤140737488355328) (ht:t.size≤140737488355328) (ht0:0 < t.size) (hr:inside (L t) (L s)=r) :
 Calls Tryz.prog 20 #[.string s,.string t] w fun e w'=>e = .returned (.bool r)∧∃ m,w'=w.drewN m:=by
 obtain ⟨k,hk⟩:=(ev_holds s t hs ht ht0).rounds
 exact (laws_holds.calls k s t r w (by rw[hk,hr])).mono fun _ _ ⟨h1,h2⟩=>⟨h1,h2.out⟩
theorem hasExt_q (s:ByteArray) (r:Bool) (w:World) (hs:s.size≤140737488355328) (hr:ext (L s)=r) :
 Calls Tryz.prog 19 #[.string s] w fun e w'=>e = .returned (.bool r)∧∃ m,w'=w.drewN m:=by
 obtain ⟨k,hk⟩:=(ev_HasExt s hs).rounds
 exact (impl_HasExt.calls k s r w (by rw[hk,hr])).mono fun _ _ ⟨h1,h2⟩=>⟨h1,h2.out⟩
end Go.Proofs.YtjlaamcklhdhaaaGreatDoor.Path
namespace Go.Proofs.YtjlaamcklhdhaaaGreatDoor.PTexts
open Go.RowKit Go.Proofs.YtjlaamcklhdhaaaGreatDoorW.PrintWords Go.Proofs.YtjlaamcklhdhaaaGreatDoorW.PrintLast Go.Proofs.YtjlaamcklhdhaaaGreatDoorW.PrintMore
attribute [local go_sem] max2_int min2_int max_two min_two max_three min_three max_four min_four   -- for this text's walks alone
set_option linter.unusedVariables false
set_option linter.unusedSimpArgs false
def errW:Option Int→Value
 | none=>.nilIface
 | some c=>.iface 0 (.int .i64 c)
theorem errW_none:errW none = .nilIface:=rfl
theorem errW_some (c:Int):errW (some c) = .iface 0 (.int .i64 c):=rfl
end Go.Proofs.YtjlaamcklhdhaaaGreatDoor.PTexts
namespace Go.Proofs.YtjlaamcklhdhaaaGreatDoor.PTexts
open Go.RowKit Go.Proofs.YtjlaamcklhdhaaaGreatDoorW.PrintWords Go.Proofs.YtjlaamcklhdhaaaGreatDoorW.PrintLast Go.Proofs.YtjlaamcklhdhaaaGreatDoorW.PrintMore
attribute [local go_sem] max2_int min2_int max_two min_two max_three min_three max_four min_four   -- for this text's walks alone
set_option linter.unusedVariables false
set_option linter.unusedSimpArgs false
def laws_texts.l0:Nat→List ByteArray→List ByteArray→Int→Int→Option (Bool)
 | 0,_,_,_,_=>none
 | k+1,x0,x1,x12,x13=>if x13 < x12 then (if 0≤x13 then (if x13 < (x0.length:Int) then (if x13 < (x1.length:Int) then (if (rdOf ByteArray.empty x0 x13).toList=(rdOf ByteArray.empty x1 x13).toList then (laws_texts.l0 k x0 x1 x12 (wrap64 (x13+1))) else (some false)) else (none)) else (none)) else (none)) else (some true)
def laws_texts.f (k:Nat) (l0:List ByteArray) (l1:List ByteArray):Option (Bool):=if (l0.length:Int)=(l1.length:Int) then (laws_texts.l0 k l0 l1 (l0.length:Int) 0) else (some false)
theorem laws_texts.mono_l:∀ k,(∀ y0 y1 y2 y3,LeO (laws_texts.l0 k y0 y1 y2 y3) (laws_texts.l0 (k+1) y0 y1 y2 y3))
 | 0=>fun _ _ _ _ r h=>by simp[laws_texts.l0] at h
 | k+1=>by
  have ih0:=laws_texts.mono_l k
  ·intro y0 y1 y2 y3;unfold laws_texts.l0
   repeat' first
   | (with_reducible exact ih0 _ _ _ _)
   | (with_reducible exact LeO.refl _)
   | (with_reducible exact LeO.none _)
   | (with_reducible refine LeO.ite ?_ ?_)
   | (with_reducible refine LeO.bind ?_ (fun _=>?_))
   | exact ih0 _ _ _ _
   | exact LeO.none _
   | refine LeO.ite ?_ ?_
   | refine LeO.bind ?_ (fun _=>?_)
theorem laws_texts.mono:∀ a0 a1 k,LeO (laws_texts.f k a0 a1) (laws_texts.f (k+1) a0 a1):=by
 intro a0 a1 k;have ih0:=laws_texts.mono_l k;unfold laws_texts.f
 repeat' first
  | (with_reducible exact ih0 _ _ _ _)
  | (with_reducible exact LeO.refl _)
  | (with_reducible exact LeO.none _)
  | (with_reducible refine LeO.ite ?_ ?_)
  | (with_reducible refine LeO.bind ?_ (fun _=>?_))
  | exact ih0 _ _ _ _
  | exact LeO.none _
  | refine LeO.ite ?_ ?_
  | refine LeO.bind ?_ (fun _=>?_)
set_option maxHeartbeats 8000000 in
set_option maxRecDepth 100000 in
theorem laws_texts.calls (k:Nat) (A0:Option Addr) (c0:Nat) (l0:List ByteArray) (A1:Option Addr) (c1:Nat) (l1:List ByteArray) (r:Bool) (w:World) (hr0:Kd.C Kd.string w A0 l0.length l0) (hc0:l0.length≤c0) (hr1:Kd.C Kd.string w A1 l1.length l1) (hc1:l1.length≤c1) (h:laws_texts.f k l0 l1=some r) :
 Calls Tryz.prog 37 #[.slice A0 l0.length c0,.slice A1 l1.length c1] w fun e w'=>e = .returned (.bool r)∧Drawn0 w w':=by
 have HR0:=Aside0.mk hr0;have HC0:=Aside0.mk hc0;clear hr0 hc0;have HR1:=Aside0.mk hr1;have HC1:=Aside0.mk hc1;clear hr1 hc1;have H:(if (l0.length:Int)=(l1.length:Int) then (laws_texts.l0 k l0 l1 (l0.length:Int) 0) else (some false))=some r:=h;clear h
 by_cases c3:(l0.length:Int)=(l1.length:Int)
 ·rw[if_pos c3] at H;have c3b0:((l0.length:Int)==(l1.length:Int))=true:=beq_iff_eq.mpr c3;have c3b1:((l0.length:Int) != (l1.length:Int))=false:=bne_eq_false_iff_eq.mpr c3;have c3b2:(l0.length==l1.length)=true:=by first | simpa using c3 | (simp at c3 ⊢;omega)
  clear c3;have H':=Aside0.mk H;clear H;go_enter Tryz.func37,Tryz.ntmps37;go_wp2
  repeat (go_quiet (fail);try go_wp2)
  go_loopg [13] k (fun kq v13 w'=>∃ (x13_1:Int),v13 = .int .i64 x13_1∧Aside0 (laws_texts.l0 kq l0 l1 (l0.length:Int) x13_1=some r)∧Aside0 (kq≤k)∧Drawn0 w w')
  case atStart=>exact ⟨(0),(by first | rfl | (simp;done) | (simp[*];done)),H',⟨Nat.le_refl _⟩,by repeat (first | exact Drawn0.refl _ | apply Drawn0.step)⟩
  case round =>
   clear H'
   try clear c1
   try clear p2
   try clear c3
   try clear c3b0
   try clear c3b1
   try clear c3b2
   obtain ⟨x13_1,rfl,HA,HK1,⟨m1,rfl⟩⟩:=hrel
   cases gk with
   | zero=>exact absurd HA.out (by simp[laws_texts.l0])
   | succ k1 =>
    have H:=HA.out;clear HA;simp only[laws_texts.l0] at H
    by_cases c4:x13_1 < (l0.length:Int)
    ·rw[if_pos c4] at H;have c4b0:decide (x13_1 < (l0.length:Int))=true:=decide_eq_true c4;clear c4
     by_cases c5:0≤x13_1
     ·rw[if_pos c5] at H;have c5b0:decide (0≤x13_1)=true:=decide_eq_true c5;clear c5
      by_cases c6:x13_1 < (l0.length:Int)
      ·rw[if_pos c6] at H;have c6b0:decide (x13_1 < (l0.length:Int))=true:=decide_eq_true c6;clear c6
       by_cases c7:x13_1 < (l1.length:Int)
       ·rw[if_pos c7] at H;have c7b0:decide (x13_1 < (l1.length:Int))=true:=decide_eq_true c7;clear c7
        by_cases c8:(rdOf ByteArray.empty l0 x13_1).toList=(rdOf ByteArray.empty l1 x13_1).toList
        ·rw[if_pos c8] at H;have c8b0:((rdOf ByteArray.empty l0 x13_1).toList==(rdOf ByteArray.empty l1 x13_1).toList)=true:=beq_iff_eq.mpr c8;have c8b1:((rdOf ByteArray.empty l0 x13_1).toList != (rdOf ByteArray.empty l1 x13_1).toList)=false:=bne_eq_false_iff_eq.mpr c8;clear c8;have H':=Aside0.mk H;clear H;have p101:0≤(x13_1:Int):=of_decide_eq_true (by first | (with_reducible assumption) | assumption);have q101:x13_1 < (l0.length:Int):=of_decide_eq_true (by first | (with_reducible assumption) | assumption);obtain ⟨ad101,e101,hx101_0⟩:=Kd.at_string HR0.out x13_1 p101 q101;cases e101;replace p101:=eq_true p101;replace q101:=eq_true q101;have p102:0≤(x13_1:Int):=of_decide_eq_true (by first | (with_reducible assumption) | assumption);have q102:x13_1 < (l1.length:Int):=of_decide_eq_true (by first | (with_reducible assumption) | assumption)
         obtain ⟨ad102,e102,hx102_0⟩:=Kd.at_string HR1.out x13_1 p102 q102;cases e102;replace p102:=eq_true p102;replace q102:=eq_true q102;go_wp2
         repeat (go_quiet (fail);try go_wp2)
         go_roundg k1
         case measure=>have:=HK1.out;omega
         case rel=>exact ⟨(wrap64 (x13_1+1)),(by first | rfl | (simp;done) | (simp[*];done)),H',⟨by have:=HK1.out;omega⟩,by repeat (first | exact Drawn0.refl _ | apply Drawn0.step)⟩
        ·rw[if_neg c8] at H;have c8b0:((rdOf ByteArray.empty l0 x13_1).toList==(rdOf ByteArray.empty l1 x13_1).toList)=false:=beq_eq_false_iff_ne.mpr c8;have c8b1:((rdOf ByteArray.empty l0 x13_1).toList != (rdOf ByteArray.empty l1 x13_1).toList)=true:=bne_iff_ne.mpr c8;obtain rfl:=Option.some.inj H;have p101:0≤(x13_1:Int):=of_decide_eq_true (by first | (with_reducible assumption) | assumption);have q101:x13_1 < (l0.length:Int):=of_decide_eq_true (by first | (with_reducible assumption) | assumption);obtain ⟨ad101,e101,hx101_0⟩:=Kd.at_string HR0.out x13_1 p101 q101;cases e101;replace p101:=eq_true p101;replace q101:=eq_true q101;have p102:0≤(x13_1:Int):=of_decide_eq_true (by first | (with_reducible assumption) | assumption);have q102:x13_1 < (l1.length:Int):=of_decide_eq_true (by first | (with_reducible assumption) | assumption)
         obtain ⟨ad102,e102,hx102_0⟩:=Kd.at_string HR1.out x13_1 p102 q102;cases e102;replace p102:=eq_true p102;replace q102:=eq_true q102;go_wp2
         repeat (go_quiet (fail);try go_wp2)
         go_ret;exact ⟨by first | rfl | (simp;done) | (simp[*];done),by repeat (first | exact Drawn0.refl _ | apply Drawn0.step)⟩
       ·rw[if_neg c7] at H;exact absurd H (by simp)
      ·rw[if_neg c6] at H;exact absurd H (by simp)
     ·rw[if_neg c5] at H;exact absurd H (by simp)
    ·rw[if_neg c4] at H;have c4b0:decide (x13_1 < (l0.length:Int))=false:=decide_eq_false c4;clear c4;obtain rfl:=Option.some.inj H;go_wp2
     repeat (go_quiet (fail);try go_wp2)
     go_ret;exact ⟨by first | rfl | (simp;done) | (simp[*];done),by repeat (first | exact Drawn0.refl _ | apply Drawn0.step)⟩
 ·rw[if_neg c3] at H;have c3b0:((l0.length:Int)==(l1.length:Int))=false:=beq_eq_false_iff_ne.mpr c3;have c3b1:((l0.length:Int) != (l1.length:Int))=true:=bne_iff_ne.mpr c3;have c3b2:(l0.length==l1.length)=false:=by first | simpa using c3 | (simp at c3 ⊢;omega)
  obtain rfl:=Option.some.inj H;go_enter Tryz.func37,Tryz.ntmps37;go_wp2
  repeat (go_quiet (fail);try go_wp2)
  go_ret;exact ⟨by first | rfl | (simp;done) | (simp[*];done),by repeat (first | exact Drawn0.refl _ | apply Drawn0.step)⟩
end Go.Proofs.YtjlaamcklhdhaaaGreatDoor.PTexts
namespace Go.Proofs.YtjlaamcklhdhaaaGreatDoor.PTexts
open Go.RowKit Go.Proofs.YtjlaamcklhdhaaaGreatDoorW.PrintWords Go.Proofs.YtjlaamcklhdhaaaGreatDoorW.PrintLast Go.Proofs.YtjlaamcklhdhaaaGreatDoorW.PrintMore
attribute [local go_sem] max2_int min2_int max_two min_two max_three min_three max_four min_four   -- for this text's walks alone
set_option linter.unusedVariables false
set_option linter.unusedSimpArgs false
end Go.Proofs.YtjlaamcklhdhaaaGreatDoor.PTexts
