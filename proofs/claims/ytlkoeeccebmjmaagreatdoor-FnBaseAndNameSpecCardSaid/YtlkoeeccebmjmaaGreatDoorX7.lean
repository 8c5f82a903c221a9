/- Texts that the law leans on: WRepsOne, WInv, WGuard, WMore, PCorex0, PCorex1, PCorex2. Condition: as told at each. -/
import Derived.Test.YtlkoeeccebmjmaaGreatDoorProg
import Derived.Below
import Derived.Deep.Draws
import Derived.Deep.AppendLies
import Derived.Maps.AppendAt
import Derived.OwnWalk
import Derived.Laws.BytesArg
import Derived.Laws.MakeOwn
import Derived.Laws.OwnMore
import Derived.Deep.OwnRows
import Derived.Tactics
import Derived.Lib.ConvBytes
import Derived.Laws.Slices
import Derived.WalkKit
import Derived.KernelRfl
import Derived.RowKit3
import Derived.Deep.LoopGhost
import Derived.Deep.QuietTactic
import Derived.BigQuiet
import Derived.WideLaws
import Derived.Deep.DeepCutAuto
import Derived.Deep.CutBlock
import Derived.Deep.RegionHeld3
import Derived.Laws.Rows
import Derived.Lib.AppendStr
import Derived.ArgAppend
import Derived.Laws.IdiomCopy
import Derived.OrdersHeld
import Derived.Laws.BitsLemmas
import Derived.RowKit
import Derived.Laws.StructEq
import Derived.Test.YtlkoeeccebmjmaaGreatDoorXa
import Derived.Test.YtlkoeeccebmjmaaGreatDoorX5
set_option linter.unusedVariables false
set_option linter.unusedSimpArgs false
set_option maxRecDepth 100000
set_option maxHeartbeats 16000000
namespace Go.ZW.PrintWords
theorem gW.one {α:Type} {R:α→List Value→Prop} {ps:List α} {cs:List Value} {p:α} {v:Value} (hp:R p [v]) (h:gW R 1 ps cs):gW R 1 (p::ps) (v::cs):=by
 refine ⟨by simp[h.1],fun j q hq=>?_⟩
 cases j with
 | zero =>
  simp only[List.getElem?_cons_zero,Option.some.injEq] at hq;subst hq
  simpa using hp
 | succ j =>
  simp only[List.getElem?_cons_succ] at hq;have h1:=h.2 j q hq
  simpa [Nat.mul_one] using h1
theorem gW.front {α:Type} {R:α→List Value→Prop} {size:Nat} {ps:List α} {cs c all:List Value} {p:α} (hp:R p c) (hc:c.length=size) (h:gW R size ps cs) (ha:c++cs=all):gW R size (p::ps) all:=by
 subst ha;refine ⟨by rw[List.length_append,hc,h.1,List.length_cons,Nat.succ_mul,Nat.add_comm],fun j q hq=>?_⟩
 cases j with
 | zero =>
  simp only[List.getElem?_cons_zero,Option.some.injEq] at hq;subst hq;rw[Nat.zero_mul,List.drop_zero,List.take_append_of_le_length (by omega),List.take_of_length_le (by omega)];exact hp
 | succ j =>
  simp only[List.getElem?_cons_succ] at hq;have h1:=h.2 j q hq;rw[Nat.succ_mul,List.drop_append,List.drop_of_length_le (by rw[hc];exact Nat.le_add_left _ _),List.nil_append,hc,Nat.add_sub_cancel];exact h1
theorem gW.c2 {α:Type} {R:α→List Value→Prop} {ps:List α} {cs:List Value} {p:α} {va vb:Value} (hp:R p [va,vb]) (h:gW R 2 ps cs):gW R 2 (p::ps) (va::vb::cs):=gW.front hp rfl h rfl
theorem gW.c3 {α:Type} {R:α→List Value→Prop} {ps:List α} {cs:List Value} {p:α} {va vb vc:Value} (hp:R p [va,vb,vc]) (h:gW R 3 ps cs):gW R 3 (p::ps) (va::vb::vc::cs):=gW.front hp rfl h rfl
theorem gW.c4 {α:Type} {R:α→List Value→Prop} {ps:List α} {cs:List Value} {p:α} {va vb vc vd:Value} (hp:R p [va,vb,vc,vd]) (h:gW R 4 ps cs):gW R 4 (p::ps) (va::vb::vc::vd::cs):=gW.front hp rfl h rfl
theorem gW.c5 {α:Type} {R:α→List Value→Prop} {ps:List α} {cs:List Value} {p:α} {va vb vc vd ve:Value} (hp:R p [va,vb,vc,vd,ve]) (h:gW R 5 ps cs):gW R 5 (p::ps) (va::vb::vc::vd::ve::cs):=gW.front hp rfl h rfl
theorem gW.c6 {α:Type} {R:α→List Value→Prop} {ps:List α} {cs:List Value} {p:α} {va vb vc vd ve vf:Value} (hp:R p [va,vb,vc,vd,ve,vf]) (h:gW R 6 ps cs):gW R 6 (p::ps) (va::vb::vc::vd::ve::vf::cs):=gW.front hp rfl h rfl
theorem gW.c7 {α:Type} {R:α→List Value→Prop} {ps:List α} {cs:List Value} {p:α} {va vb vc vd ve vf vg:Value} (hp:R p [va,vb,vc,vd,ve,vf,vg]) (h:gW R 7 ps cs):gW R 7 (p::ps) (va::vb::vc::vd::ve::vf::vg::cs):=gW.front hp rfl h rfl
theorem gW.c8 {α:Type} {R:α→List Value→Prop} {ps:List α} {cs:List Value} {p:α} {va vb vc vd ve vf vg vh:Value} (hp:R p [va,vb,vc,vd,ve,vf,vg,vh]) (h:gW R 8 ps cs):gW R 8 (p::ps) (va::vb::vc::vd::ve::vf::vg::vh::cs):=gW.front hp rfl h rfl
theorem gW.c9 {α:Type} {R:α→List Value→Prop} {ps:List α} {cs:List Value} {p:α} {va vb vc vd ve vf vg vh vi:Value} (hp:R p [va,vb,vc,vd,ve,vf,vg,vh,vi]) (h:gW R 9 ps cs):gW R 9 (p::ps) (va::vb::vc::vd::ve::vf::vg::vh::vi::cs):=gW.front hp rfl h rfl
theorem gW.c10 {α:Type} {R:α→List Value→Prop} {ps:List α} {cs:List Value} {p:α} {va vb vc vd ve vf vg vh vi vj:Value} (hp:R p [va,vb,vc,vd,ve,vf,vg,vh,vi,vj]) (h:gW R 10 ps cs):gW R 10 (p::ps) (va::vb::vc::vd::ve::vf::vg::vh::vi::vj::cs):=gW.front hp rfl h rfl
end Go.ZW.PrintWords
namespace Go.ZW.PrintLast
def up (b:Nat→Bool) (i:Nat):Nat→Bool:=fun j=>if j=i then true else b j
end Go.ZW.PrintLast
namespace Go.ZW.PrintWords
open Go.RowKit
section
variable {P:Program} {ops:Array Oper} {rest:List Oper} {o:Oper} {a:Act} {Q:Exit→Act→World→Prop} {W:World}
theorem iU (hw:Region.wanted o (yielded ops a.tmps)=true) (h:wpList P ops Q ({ o with guard:=none }::rest) a W):wpList P ops Q (o::rest) a W:=by
 have h1:Region.wanted { o with guard:=none } (yielded ops a.tmps)=true:=rfl;unfold wpList at h ⊢;rw[if_pos h1] at h;rw[if_pos hw];exact h
end
end Go.ZW.PrintWords
namespace Go.ZW.PrintMore
open Go.RowKit Go.ZW.PrintWords
theorem lD (k k' : IntKind) (x y:Int):Builtin.max2 (.int k x) (.int k' y)=pure (.int k (if x < y then y else x)):=by simp only[Builtin.max2,gt_iff_lt]
theorem lF (k k' : IntKind) (x y:Int):Builtin.min2 (.int k x) (.int k' y)=pure (.int k (if y < x then y else x)):=by simp only[Builtin.min2]
theorem mD (ats:Array TypeId) (ty:TypeId) (a b:Value):Builtin.max_ ats ty #[a,b]=(Builtin.max2 a b >>= fun s=>pure s):=by simp only[Builtin.max_,List.foldlM_cons,List.foldlM_nil]
theorem mE (ats:Array TypeId) (ty:TypeId) (a b:Value):Builtin.min_ ats ty #[a,b]=(Builtin.min2 a b >>= fun s=>pure s):=by simp only[Builtin.min_,List.foldlM_cons,List.foldlM_nil]
theorem kR (ats:Array TypeId) (ty:TypeId) (a b c:Value):Builtin.max_ ats ty #[a,b,c]=(Builtin.max2 a b >>= fun s=>Builtin.max2 s c >>= fun s=>pure s):=by simp only[Builtin.max_,List.foldlM_cons,List.foldlM_nil]
theorem kS (ats:Array TypeId) (ty:TypeId) (a b c:Value):Builtin.min_ ats ty #[a,b,c]=(Builtin.min2 a b >>= fun s=>Builtin.min2 s c >>= fun s=>pure s):=by simp only[Builtin.min_,List.foldlM_cons,List.foldlM_nil]
theorem lE (ats:Array TypeId) (ty:TypeId) (a b c d:Value):Builtin.max_ ats ty #[a,b,c,d]=(Builtin.max2 a b >>= fun s=>Builtin.max2 s c >>= fun s=>Builtin.max2 s d >>= fun s=>pure s):=by simp only[Builtin.max_,List.foldlM_cons,List.foldlM_nil]
theorem lG (ats:Array TypeId) (ty:TypeId) (a b c d:Value):Builtin.min_ ats ty #[a,b,c,d]=(Builtin.min2 a b >>= fun s=>Builtin.min2 s c >>= fun s=>Builtin.min2 s d >>= fun s=>pure s):=by simp only[Builtin.min_,List.foldlM_cons,List.foldlM_nil]
end Go.ZW.PrintMore
namespace Go.ZW.PrintWords
open Go.RowKit
section
variable {P:Program} {ops:Array Oper} {rest:List Oper} {o:Oper} {a:Act} {Q:Exit→Act→World→Prop} {W:World}
theorem eQ {f:FuncId} {asx:Array Operand} {ts:Array TypeId} (_ho:o.op = .call { callee:=.value (.func f),args:=asx,argTypes:=ts }) (h:wpList P ops Q (o::rest) a W):wpList P ops Q (o::rest) a W:=h
theorem nY {b:Builtin} {xs:Array Operand} {ts:Array TypeId} (_ho:o.op = .call { callee:=.builtin b,args:=xs,argTypes:=ts }) (h:wpList P ops Q (o::rest) a W):wpList P ops Q (o::rest) a W:=h
end
theorem aE2 (w:World) (n:Nat):w.drewN n=w.drewN n:=rfl
namespace Kd
def V {α:Type} (d:Kd α) (_e:Nat) (W:World) (_base:Nat) (ok:Nat→Prop) (v:Value) (xs:List α):Prop:=∃ A c,v = .slice A xs.length c∧xs.length≤c∧F d W ok A xs.length xs
section
variable {α β:Type} {d:Kd α} {e base base' n m c g N' lo hi:Nat} {ok ok' S:Nat→Prop} {w W w1:World} {A:Option Addr} {ad:Addr} {u v v1:Value} {xs:List α}
theorem V_nil (d:Kd α) (e:Nat) (W:World) (base:Nat) (ok:Nat→Prop):V d e W base ok (.slice none 0 0) []:=⟨none,0,rfl,Nat.le_refl _,aJp d W ok⟩
end
end Kd
end Go.ZW.PrintWords
namespace Go.Proofs.YtlkoeeccebmjmaaGreatDoor.PCore
open Go.RowKit Go.ZW.PrintWords Go.ZW.PrintLast Go.ZW.PrintMore
attribute [local go_sem] lD lF mD mE kR kS lE lG   -- for this text's walks alone
def aJg:Option Int→Value
 | none=>.nilIface
 | some c=>.iface 0 (.int .i64 c)
theorem oZ:aJg none = .nilIface:=rfl
theorem pA (c:Int):aJg (some c) = .iface 0 (.int .i64 c):=rfl
theorem info3:(Tryz.prog.info? 3).map (fun i=>(i.zero,i.size,i.bytes))=some (some (.int .i64 0),1,8):=by kernel_rfl
theorem info9:(Tryz.prog.info? 9).map (fun i=>(i.zero,i.size,i.bytes))=some (some (.string ⟨#[]⟩),1,16):=by kernel_rfl
structure S53 where
 f0:ByteArray
 f1:ByteArray
def z53:S53:=⟨(⟨#[]⟩:ByteArray),(⟨#[]⟩:ByteArray)⟩
def k53:Kd S53:=Kd.iso (Kd.pair Kd.string Kd.string) (fun x:S53=>(x.f0,x.f1))
theorem aHj {w:World} {x:S53} {cs:List Value} (h:k53.K w x cs):cs=[.string x.f0,.string x.f1]:=by
 obtain ⟨_,_,rfl,rfl,rfl⟩:=h;exact rfl
theorem aJh (w:World) (x:S53)  : k53.K w x [.string x.f0,.string x.f1]:=⟨[.string x.f0],[.string x.f1],rfl,rfl,rfl⟩
def gQ (xs:List S53) (i:Int):S53:=xs.getD i.toNat z53
theorem kX {w:World} {A:Option Addr} {n:Nat} {xs:List S53} (h:Kd.C k53 w A n xs) (i:Int) (h0:0≤i) (h1:i < n):∃ ad ,A=some ad∧w.cell? (ad.add (i.toNat * 2))=some (.string (gQ xs i).f0)∧w.cell? ⟨(ad.add (i.toNat * 2)).block,(ad.add (i.toNat * 2)).off+1,none⟩=some (.string (gQ xs i).f1):=by
 obtain ⟨ad,c,e,_,hK,hc0⟩:=Kd.C_get h z53 i h0 h1;have hc:∀ j u,c[j]? = some u→w.cell? (ad.add (i.toNat * 2+j))=some u:=hc0;obtain rfl:=aHj hK;exact ⟨ad,e,hc 0 _ rfl,by rw[← aF3 _ _ 1 bA];exact hc 1 _ rfl⟩
end Go.Proofs.YtlkoeeccebmjmaaGreatDoor.PCore
namespace Go.Proofs.YtlkoeeccebmjmaaGreatDoor.PCore
open Go.RowKit Go.ZW.PrintWords Go.ZW.PrintLast Go.ZW.PrintMore
attribute [local go_sem] lD lF mD mE kR kS lE lG   -- for this text's walks alone
def gF.l0:Nat→Int→List ByteArray→Int→Int→Option (Bool)
 | 0,_,_,_,_=>none
 | k+1,x3,x8,x9,x10=>if x10 < x9 then (if 0≤x10 then (if x10 < (x8.length:Int) then (gF.l0 k (wrap64 (x3+((iB ByteArray.empty x8 x10).size:Int))) x8 x9 (wrap64 (x10+1))) else (none)) else (none)) else (some (decide (x3≤2000)))
def gF.f (k:Nat) (l0:List ByteArray):Option (Bool):=gF.l0 k (l0.length:Int) l0 (l0.length:Int) 0
theorem gF.mono_l:∀ k,(∀ y0 y1 y2 y3,LeO (gF.l0 k y0 y1 y2 y3) (gF.l0 (k+1) y0 y1 y2 y3))
 | 0=>fun _ _ _ _ r h=>by simp[gF.l0] at h
 | k+1=>by
  have ih0:=gF.mono_l k
  intro y0 y1 y2 y3;unfold gF.l0
  exact cW
theorem gF.mono:∀ a0 k,LeO (gF.f k a0) (gF.f (k+1) a0):=by
 intro a0 k;have ih0:=gF.mono_l k;unfold gF.f
 exact cW
theorem gF.calls (k:Nat) (A0:Option Addr) (c0:Nat) (l0:List ByteArray) (r:Bool) (w:World) (hr0:Kd.C Kd.string w A0 l0.length l0) (hc0:l0.length≤c0) (h:gF.f k l0=some r) :
 Calls Tryz.prog 46 #[.slice A0 l0.length c0] w fun e w'=>e = .returned (.bool r)∧eV w w':=by
 have HR0:=bW hr0;have HC0:=bW hc0;clear hr0 hc0;unfold gF.f at h;have H:=h;clear h;have H':=bW H;clear H;go_enter Tryz.func46,Tryz.ntmps46;go_wp2
 go_loopg [3,10] k (fun kq v3 v10 w'=>∃ (x3_1:Int) (x10_1:Int),v3 = .int .i64 x3_1∧v10 = .int .i64 x10_1∧Aside0 (gF.l0 kq x3_1 l0 (l0.length:Int) x10_1=some r)∧Aside0 (kq≤k)∧eV w w')
 case atStart=>exact ⟨((l0.length:Int)),(0),bE,bE,H',⟨Nat.le_refl _⟩,dH⟩
 case round =>
  clear H';obtain ⟨x3_1,x10_1,rfl,rfl,HA,HK1,⟨m1,rfl⟩⟩:=hrel
  cases gk with
  | zero=>exact absurd HA.out (by simp[gF.l0])
  | succ k1 =>
   have H:=HA.out;clear HA;simp only[gF.l0] at H
   by_cases c2:x10_1 < (l0.length:Int)
   ·rw[if_pos c2] at H;have c2b0:=decide_eq_true c2;clear c2
    by_cases c3:0≤x10_1
    ·rw[if_pos c3] at H;have c3b0:=decide_eq_true c3;clear c3
     by_cases c4:x10_1 < (l0.length:Int)
     ·rw[if_pos c4] at H;have c4b0:=decide_eq_true c4;clear c4;have H':=bW H;clear H;have p101:0≤(x10_1:Int):=bV;have q101:x10_1 < (l0.length:Int):=bV;obtain ⟨ad101,e101,hx101_0⟩:=Kd.at_string HR0.out x10_1 p101 q101;cases e101;replace p101:=eq_true p101;replace q101:=eq_true q101;go_wp2
      go_roundg k1
      case measure=>have:=HK1.out;omega
      case rel=>exact ⟨(wrap64 (x3_1+((iB ByteArray.empty l0 x10_1).size:Int))),(wrap64 (x10_1+1)),bE,bE,H',⟨aW⟩,dH⟩
     rw[if_neg c4] at H;exact absurd H bJ
    rw[if_neg c3] at H;exact absurd H bJ
   rw[if_neg c2] at H;have c2b0:=decide_eq_false c2;clear c2;obtain rfl:=Option.some.inj H;go_wp2;go_ret;exact ⟨bE,dH⟩
def gG.l0:Nat→Int→List (S53)→Int→Int→List ByteArray→List ByteArray→List (S53)→List ByteArray→Option (Bool)
 | 0,_,_,_,_,_,_,_,_=>none
 | k+1,x7,x16,x17,x18,x103000,x103001,x103002,x103003=>if x18 < x17 then (if 0≤x18 then (if x18 < (x16.length:Int) then (gG.l0 k (wrap64 (x7+(wrap64 ((wrap64 (1+(((gQ x16 x18).f0).size:Int)))+(((gQ x16 x18).f1).size:Int))))) x16 x17 (wrap64 (x18+1)) x103000 x103001 x103002 x103003) else (none)) else (none)) else (if x7≤2000 then ((gF.f k x103000).bind fun t105=>(if t105=true then ((gF.f k x103001).bind fun t106=>(if t106=true then ((gF.f k x103003).bind fun t107=>(some t107)) else (some false))) else (some false))) else (some false))
def gG.f (k:Nat) (l0_0:List ByteArray) (l0_1:List ByteArray) (l0_2:List (S53)) (l0_3:List ByteArray) (a1:ByteArray) (a2:ByteArray):Option (Bool):=gG.l0 k (wrap64 ((a1.size:Int)+(a2.size:Int))) l0_2 (l0_2.length:Int) 0 l0_0 l0_1 l0_2 l0_3
theorem gG.mono_l:∀ k,(∀ y0 y1 y2 y3 y4 y5 y6 y7,LeO (gG.l0 k y0 y1 y2 y3 y4 y5 y6 y7) (gG.l0 (k+1) y0 y1 y2 y3 y4 y5 y6 y7))
 | 0=>fun _ _ _ _ _ _ _ _ r h=>by simp[gG.l0] at h
 | k+1=>by
  have ih0:=gG.mono_l k
  intro y0 y1 y2 y3 y4 y5 y6 y7;unfold gG.l0
  exact cX
theorem gG.mono:∀ a0 a1 a2 a3 a4 a5 k,LeO (gG.f k a0 a1 a2 a3 a4 a5) (gG.f (k+1) a0 a1 a2 a3 a4 a5):=by
 intro a0 a1 a2 a3 a4 a5 k;have ih0:=gG.mono_l k;unfold gG.f
 exact cX
theorem gG.calls (k:Nat) (A0_0:Option Addr) (c0_0:Nat) (l0_0:List ByteArray) (A0_1:Option Addr) (c0_1:Nat) (l0_1:List ByteArray) (A0_2:Option Addr) (c0_2:Nat) (l0_2:List (S53)) (A0_3:Option Addr) (c0_3:Nat) (l0_3:List ByteArray) (a1:ByteArray) (a2:ByteArray) (r:Bool) (w:World) (hr0_0:Kd.C Kd.string w A0_0 l0_0.length l0_0) (hc0_0:l0_0.length≤c0_0) (hr0_1:Kd.C Kd.string w A0_1 l0_1.length l0_1) (hc0_1:l0_1.length≤c0_1) (hr0_2:Kd.C k53 w A0_2 l0_2.length l0_2) (hc0_2:l0_2.length≤c0_2) (hr0_3:Kd.C Kd.string w A0_3 l0_3.length l0_3) (hc0_3:l0_3.length≤c0_3) (h:gG.f k l0_0 l0_1 l0_2 l0_3 a1 a2=some r) :
 Calls Tryz.prog 19 #[.agg #[.slice A0_0 l0_0.length c0_0,.slice A0_1 l0_1.length c0_1,.slice A0_2 l0_2.length c0_2,.slice A0_3 l0_3.length c0_3],.string a1,.string a2] w fun e w'=>e = .returned (.bool r)∧Below w.heap.size w w':=by
 have hu25:=Tryz.underlying25;have hu53:=Tryz.underlying53;have HR0_0:=bW hr0_0;have HC0_0:=bW hc0_0;clear hr0_0 hc0_0;have HR0_1:=bW hr0_1;have HC0_1:=bW hc0_1;clear hr0_1 hc0_1;have HR0_2:=bW hr0_2;have HC0_2:=bW hc0_2;clear hr0_2 hc0_2;have HR0_3:=bW hr0_3;have HC0_3:=bW hc0_3;clear hr0_3 hc0_3;have HB:=bW (Below.refl w.heap.size w);unfold gG.f at h;have H:=h;clear h;have H':=bW H;clear H;go_enter Tryz.func19,Tryz.ntmps19
 go_wp2_with (first | ((with_reducible refine gO (N:=3) rfl ?_);refine gH ?hg (N:=3) ?hd (cs:=#[.slice A0_0 l0_0.length c0_0,.slice A0_1 l0_1.length c0_1,.slice A0_2 l0_2.length c0_2,.slice A0_3 l0_3.length c0_3]) (t:=25) ?hr ?_;(case hd=>rfl);(case hg=>rfl);(case hr=>exact cA);intro gb102 hg w4 hbox hb;have BK102:=bW (hbox);have GW102:=bW ((by rw[hg];exact (eJ bC):w.heap.size≤gb102));have GE102:=bW ((by rw[hg];exact (eJ bC):w.heap.size≤gb102));replace HB:=bW (eA bC hb);clear hb hbox hg;have hcz5_0:w4.cell? ⟨gb102,0,none⟩=some (.slice A0_0 l0_0.length c0_0):=(dY BK102.out 0).trans rfl;have hcz5_1:w4.cell? ⟨gb102,1,none⟩=some (.slice A0_1 l0_1.length c0_1):=(dY BK102.out 1).trans rfl;have hcz5_2:w4.cell? ⟨gb102,2,none⟩=some (.slice A0_2 l0_2.length c0_2):=(dY BK102.out 2).trans rfl;have hcz5_3:w4.cell? ⟨gb102,3,none⟩=some (.slice A0_3 l0_3.length c0_3):=(dY BK102.out 3).trans rfl;have hfz5_0:=eC BK102.out 0;have hfz5_1:=eC BK102.out 1;have hfz5_2:=eC BK102.out 2;have hfz5_3:=eC BK102.out 3))
 go_loopg [7,18] k (fun kq v7 v18 w'=>∃ (x7_1:Int) (x18_1:Int),v7 = .int .i64 x7_1∧v18 = .int .i64 x18_1∧Aside0 (gG.l0 kq x7_1 l0_2 (l0_2.length:Int) x18_1 l0_0 l0_1 l0_2 l0_3=some r)∧Aside0 (kq≤k)∧Aside0 (w'.heap[gb102]? = some (.cells #[(.slice A0_0 l0_0.length c0_0),(.slice A0_1 l0_1.length c0_1),(.slice A0_2 l0_2.length c0_2),(.slice A0_3 l0_3.length c0_3)] 25 (0,0)))∧Aside0 (Below w.heap.size w w'))
 case atStart=>exact ⟨(wrap64 ((a1.size:Int)+(a2.size:Int))),(0),bE,bE,H',⟨Nat.le_refl _⟩,⟨by (with_reducible repeat (first | refine fZ ?_ _ | refine gC ?_ | refine fY ?_ _));exact BK102.out⟩,⟨aQ⟩⟩
 case round =>
  clear H'
  (try clear hcz5_0);(try clear hcz5_1);(try clear hcz5_2);(try clear hcz5_3);(try clear hfz5_0);(try clear hfz5_1);(try clear hfz5_2);(try clear hfz5_3)
  obtain ⟨x7_1,x18_1,rfl,rfl,HA,HK1,BK102,HB⟩:=hrel
  cases gk with
  | zero=>exact absurd HA.out (by simp[gG.l0])
  | succ k1 =>
   have H:=HA.out;clear HA;simp only[gG.l0] at H
   by_cases c6:x18_1 < (l0_2.length:Int)
   ·rw[if_pos c6] at H;have c6b0:=decide_eq_true c6;clear c6
    by_cases c7:0≤x18_1
    ·rw[if_pos c7] at H;have c7b0:=decide_eq_true c7;clear c7
     by_cases c8:x18_1 < (l0_2.length:Int)
     ·rw[if_pos c8] at H;have c8b0:=decide_eq_true c8;clear c8;have H':=bW H;clear H;have p103:0≤(x18_1:Int):=bV;have q103:x18_1 < (l0_2.length:Int):=bV;obtain ⟨ad103,e103,hx103_0,hx103_1⟩:=kX HR0_2.out x18_1 p103 q103;cases e103;replace hx103_0:=(HB.out.cell (World.block_lt_of_cell? w _ hx103_0)).trans hx103_0;replace hx103_1:=(HB.out.cell (World.block_lt_of_cell? w _ hx103_1)).trans hx103_1;replace p103:=eq_true p103;replace q103:=eq_true q103
      go_wp2_with (first | ((with_reducible refine gO (N:=9) rfl ?_);refine gH ?hg (N:=9) ?hd (cs:=#[.string (⟨#[]⟩:ByteArray),.string (⟨#[]⟩:ByteArray)]) (t:=53) ?hr ?_;(case hd=>rfl);(case hg=>rfl);(case hr=>exact cA);intro gb104 hg w9 hbox hb;have n0_:=bW (hJ (g:=gb102) (o:=.cells #[.slice A0_0 l0_0.length c0_0,.slice A0_1 l0_1.length c0_1,.slice (some ad103) l0_2.length c0_2,.slice A0_3 l0_3.length c0_3] 25 (0,0)) (by (with_reducible repeat (first | refine fZ ?_ _ | refine gC ?_ | refine fY ?_ _));exact BK102.out) hb);have n1_:=bW (eA (by repeat (first | (with_reducible first | exact HB.out | apply fC | apply eU | apply fG | refine fT ?_ GE102.out) | exact HB.out)) hb);have n2_:=bW (hbox);have n3_:=bW ((by rw[hg];exact (eJ (by repeat (first | (with_reducible first | exact HB.out | apply fC | apply eU | apply fG | refine fT ?_ GE102.out) | exact HB.out))):w.heap.size≤gb104));have n4_:=bW ((by rw[hg];exact (eJ (by repeat (first | (with_reducible first | exact HB.out | apply fC | apply eU | apply fG | refine fT ?_ GE102.out) | exact HB.out))):w.heap.size≤gb104));have n5_:=bW ((by rw[hg];exact Nat.ne_of_lt (uI (g:=gb102) (o:=.cells #[.slice A0_0 l0_0.length c0_0,.slice A0_1 l0_1.length c0_1,.slice (some ad103) l0_2.length c0_2,.slice A0_3 l0_3.length c0_3] 25 (0,0)) (by (with_reducible repeat (first | refine fZ ?_ _ | refine gC ?_ | refine fY ?_ _));exact BK102.out)):gb102≠gb104));have n6_:=bW ((by rw[hg];exact Nat.ne_of_gt (uI (g:=gb102) (o:=.cells #[.slice A0_0 l0_0.length c0_0,.slice A0_1 l0_1.length c0_1,.slice (some ad103) l0_2.length c0_2,.slice A0_3 l0_3.length c0_3] 25 (0,0)) (by (with_reducible repeat (first | refine fZ ?_ _ | refine gC ?_ | refine fY ?_ _));exact BK102.out)):gb104≠gb102));clear BK102;clear HB;have BK102:=n0_;have HB:=n1_;have BK104:=n2_;have GW104:=n3_;have GE104:=n4_;have NB102_104:=n5_;have NB104_102:=n6_;clear n0_ n1_ n2_ n3_ n4_ n5_ n6_;clear hb hbox hg;have hnb10:=NB104_102.out;have hnc10:=NB102_104.out;have hcz11_0:w9.cell? ⟨gb104,0,none⟩=some (.string (⟨#[]⟩:ByteArray)):=(dY BK104.out 0).trans rfl;have hcz11_1:w9.cell? ⟨gb104,1,none⟩=some (.string (⟨#[]⟩:ByteArray)):=(dY BK104.out 1).trans rfl;have hfz11_0:=eC BK104.out 0;have hfz11_1:=eC BK104.out 1))
      go_roundg k1
      case measure=>have:=HK1.out;omega
      case rel=>exact ⟨(wrap64 (x7_1+(wrap64 ((wrap64 (1+(((gQ l0_2 x18_1).f0).size:Int)))+(((gQ l0_2 x18_1).f1).size:Int))))),(wrap64 (x18_1+1)),bE,bE,H',⟨aW⟩,⟨by (with_reducible repeat (first | refine fZ ?_ _ | refine gC ?_ | refine fY ?_ _));refine aEf ?_ NB102_104.out _;(with_reducible repeat (first | refine fZ ?_ _ | refine gC ?_ | refine fY ?_ _));refine aEf ?_ NB102_104.out _;(with_reducible repeat (first | refine fZ ?_ _ | refine gC ?_ | refine fY ?_ _));exact BK102.out⟩,⟨by repeat (first | (with_reducible first | exact HB.out | apply fC | apply eU | apply fG | refine fT ?_ GE102.out | refine fT ?_ GE104.out) | exact HB.out)⟩⟩
     rw[if_neg c8] at H;exact absurd H bJ
    rw[if_neg c7] at H;exact absurd H bJ
   rw[if_neg c6] at H;have c6b0:=decide_eq_false c6;clear c6
   by_cases c12:x7_1≤2000
   ·rw[if_pos c12] at H;have c12b0:=decide_eq_true c12;clear c12;replace H:=Option.bind_eq_some_iff.mp H;obtain ⟨t105,A130,H⟩:=H;have A13:=bW A130;clear A130
    by_cases c14:t105=true
    ·subst c14;rw[if_pos rfl] at H;replace H:=Option.bind_eq_some_iff.mp H;obtain ⟨t106,A150,H⟩:=H;have A15:=bW A150;clear A150
     by_cases c16:t106=true
     ·subst c16;rw[if_pos rfl] at H;replace H:=Option.bind_eq_some_iff.mp H;obtain ⟨t107,A170,H⟩:=H;have A17:=bW A170;clear A170;obtain rfl:=Option.some.inj H;have hcz18_0:wr.cell? ⟨gb102,0,none⟩=some (.slice A0_0 l0_0.length c0_0):=(dY BK102.out 0).trans rfl;have hcz18_1:wr.cell? ⟨gb102,1,none⟩=some (.slice A0_1 l0_1.length c0_1):=(dY BK102.out 1).trans rfl;have hcz18_2:wr.cell? ⟨gb102,2,none⟩=some (.slice A0_2 l0_2.length c0_2):=(dY BK102.out 2).trans rfl;have hcz18_3:wr.cell? ⟨gb102,3,none⟩=some (.slice A0_3 l0_3.length c0_3):=(dY BK102.out 3).trans rfl;have hfz18_0:=eC BK102.out 0;have hfz18_1:=eC BK102.out 1;have hfz18_2:=eC BK102.out 2;have hfz18_3:=eC BK102.out 3
      go_wp2_with (first | (go_at_call 46;(with_reducible refine (gF.calls k1 _ _ l0_0 true _ ?side1 ?side2 A13.out).mono ?_);(case side1=>exact cB);(case side2=>exact HC0_0.out);rintro e w' ⟨rfl,⟨nd,rfl⟩⟩) | (go_at_call 46;(with_reducible refine (gF.calls k1 _ _ l0_1 true _ ?side1 ?side2 A15.out).mono ?_);(case side1=>exact cC);(case side2=>exact HC0_1.out);rintro e w' ⟨rfl,⟨nd,rfl⟩⟩) | (go_at_call 46;(with_reducible refine (gF.calls k1 _ _ l0_3 t107 _ ?side1 ?side2 A17.out).mono ?_);(case side1=>repeat (first | exact (Kd.C_below HR0_3.out (by repeat (first | (with_reducible first | exact HB.out | apply fC | apply eU | apply fG | refine fT ?_ GE102.out) | exact HB.out))) | (with_reducible refine Kd.C_alloc ?_ _) | (with_reducible refine Kd.C_drewN ?_ _) | (with_reducible refine Kd.C_drew ?_)));(case side2=>exact HC0_3.out);rintro e w' ⟨rfl,⟨nd,rfl⟩⟩))
      go_ret;exact ⟨aC,aQ⟩
     replace c16:=Bool.eq_false_iff.mpr c16;subst c16;rw[if_neg (show ¬ (false=true) by decide)] at H;obtain rfl:=Option.some.inj H;have hcz19_0:wr.cell? ⟨gb102,0,none⟩=some (.slice A0_0 l0_0.length c0_0):=(dY BK102.out 0).trans rfl;have hcz19_1:wr.cell? ⟨gb102,1,none⟩=some (.slice A0_1 l0_1.length c0_1):=(dY BK102.out 1).trans rfl;have hcz19_2:wr.cell? ⟨gb102,2,none⟩=some (.slice A0_2 l0_2.length c0_2):=(dY BK102.out 2).trans rfl;have hcz19_3:wr.cell? ⟨gb102,3,none⟩=some (.slice A0_3 l0_3.length c0_3):=(dY BK102.out 3).trans rfl;have hfz19_0:=eC BK102.out 0;have hfz19_1:=eC BK102.out 1;have hfz19_2:=eC BK102.out 2;have hfz19_3:=eC BK102.out 3
     go_wp2_with (first | (go_at_call 46;(with_reducible refine (gF.calls k1 _ _ l0_0 true _ ?side1 ?side2 A13.out).mono ?_);(case side1=>exact cB);(case side2=>exact HC0_0.out);rintro e w' ⟨rfl,⟨nd,rfl⟩⟩) | (go_at_call 46;(with_reducible refine (gF.calls k1 _ _ l0_1 false _ ?side1 ?side2 A15.out).mono ?_);(case side1=>exact cC);(case side2=>exact HC0_1.out);rintro e w' ⟨rfl,⟨nd,rfl⟩⟩))
     go_ret;exact ⟨aC,aQ⟩
    replace c14:=Bool.eq_false_iff.mpr c14;subst c14;rw[if_neg (show ¬ (false=true) by decide)] at H;obtain rfl:=Option.some.inj H;have hcz20_0:wr.cell? ⟨gb102,0,none⟩=some (.slice A0_0 l0_0.length c0_0):=(dY BK102.out 0).trans rfl;have hcz20_1:wr.cell? ⟨gb102,1,none⟩=some (.slice A0_1 l0_1.length c0_1):=(dY BK102.out 1).trans rfl;have hcz20_2:wr.cell? ⟨gb102,2,none⟩=some (.slice A0_2 l0_2.length c0_2):=(dY BK102.out 2).trans rfl;have hcz20_3:wr.cell? ⟨gb102,3,none⟩=some (.slice A0_3 l0_3.length c0_3):=(dY BK102.out 3).trans rfl;have hfz20_0:=eC BK102.out 0;have hfz20_1:=eC BK102.out 1;have hfz20_2:=eC BK102.out 2;have hfz20_3:=eC BK102.out 3
    go_wp2_with (first | (go_at_call 46;(with_reducible refine (gF.calls k1 _ _ l0_0 false _ ?side1 ?side2 A13.out).mono ?_);(case side1=>exact cB);(case side2=>exact HC0_0.out);rintro e w' ⟨rfl,⟨nd,rfl⟩⟩))
    go_ret;exact ⟨aC,aQ⟩
   rw[if_neg c12] at H;have c12b0:=decide_eq_false c12;clear c12;obtain rfl:=Option.some.inj H;go_wp2;go_ret;exact ⟨aC,aQ⟩
def fO.l0:Nat→ByteArray→Int→Option (Bool)
 | 0,_,_=>none
 | k+1,x0,x3=>if x3 < (x0.size:Int) then (if 0≤x3 then (if (bt x0 x3) > 127 then (some false) else (fO.l0 k x0 (wrap64 (x3+1)))) else (none)) else (some true)
def fO.f (k:Nat) (a0:ByteArray):Option (Bool):=fO.l0 k a0 0
theorem fO.mono_l:∀ k,(∀ y0 y1,LeO (fO.l0 k y0 y1) (fO.l0 (k+1) y0 y1))
 | 0=>fun _ _ r h=>by simp[fO.l0] at h
 | k+1=>by
  have ih0:=fO.mono_l k
  intro y0 y1;unfold fO.l0
  exact cY
theorem fO.mono:∀ a0 k,LeO (fO.f k a0) (fO.f (k+1) a0):=by
 intro a0 k;have ih0:=fO.mono_l k;unfold fO.f
 exact cY
theorem fO.calls (k:Nat) (a0:ByteArray) (r:Bool) (w:World) (h:fO.f k a0=some r) :
 Calls Tryz.prog 39 #[.string a0] w fun e w'=>e = .returned (.bool r)∧eV w w':=by
 unfold fO.f at h;have H:=h;clear h;have H':=bW H;clear H;go_enter Tryz.func39,Tryz.ntmps39;go_wp2
 go_loopg [3] k (fun kq v3 w'=>∃ (x3_1:Int),v3 = .int .i64 x3_1∧Aside0 (fO.l0 kq a0 x3_1=some r)∧Aside0 (kq≤k)∧eV w w')
 case atStart=>exact ⟨(0),bE,H',⟨Nat.le_refl _⟩,dH⟩
 case round =>
  clear H';obtain ⟨x3_1,rfl,HA,HK1,⟨m1,rfl⟩⟩:=hrel
  cases gk with
  | zero=>exact absurd HA.out (by simp[fO.l0])
  | succ k1 =>
   have H:=HA.out;clear HA;simp only[fO.l0] at H
   by_cases c2:x3_1 < (a0.size:Int)
   ·rw[if_pos c2] at H;have c2b0:=decide_eq_true c2;clear c2
    by_cases c3:0≤x3_1
    ·rw[if_pos c3] at H;have c3b0:=decide_eq_true c3;clear c3
     by_cases c5:(bt a0 x3_1) > 127
     ·rw[if_pos c5] at H;have c5b0:=decide_eq_true c5;clear c5;obtain rfl:=Option.some.inj H;have p4:0≤(x3_1:Int):=bV;have q4:x3_1 < (a0.size:Int):=bV;have hx4:=fN a0 x3_1;replace p4:=eq_true p4;replace q4:=eq_true q4;go_wp2;go_ret;exact ⟨bE,dH⟩
     rw[if_neg c5] at H;have c5b0:=decide_eq_false c5;clear c5;have H':=bW H;clear H;have p4:0≤(x3_1:Int):=bV;have q4:x3_1 < (a0.size:Int):=bV;have hx4:=fN a0 x3_1;replace p4:=eq_true p4;replace q4:=eq_true q4;go_wp2
     go_roundg k1
     case measure=>have:=HK1.out;omega
     case rel=>exact ⟨(wrap64 (x3_1+1)),bE,H',⟨aW⟩,dH⟩
    rw[if_neg c3] at H;exact absurd H bJ
   rw[if_neg c2] at H;have c2b0:=decide_eq_false c2;clear c2;obtain rfl:=Option.some.inj H;go_wp2;go_ret;exact ⟨bE,dH⟩
def jX.f (a0:ByteArray) (a1:Bool):Option ByteArray:=if a0.size≤140737488350000 then some (Go.Proofs.YtlkoeeccebmjmaaGreatDoor.Path.pathOf a0 a1) else none
theorem jX.calls (a0:ByteArray) (a1:Bool) (r:ByteArray) (w:World) (h:jX.f a0 a1=some r) :
 Calls Tryz.prog 53 #[.string a0,.bool a1] w fun e w'=>e = .returned (.string r)∧Below w.heap.size w w':=by
 unfold jX.f at h;split at h
 ·rename_i hs
  cases h;exact Go.Proofs.YtlkoeeccebmjmaaGreatDoor.Path.pathOf_calls a0 a1 w hs
 cases h
def fD.l0:Nat→List ByteArray→ByteArray→Int→Option (Bool)
 | 0,_,_,_=>none
 | k+1,x0,x1,x5=>if x5 < (x0.length:Int) then (if 0≤x5 then (if (iB ByteArray.empty x0 x5).toList=x1.toList then (some true) else (fD.l0 k x0 x1 (wrap64 (x5+1)))) else (none)) else (some false)
def fD.f (k:Nat) (l0:List ByteArray) (a1:ByteArray):Option (Bool):=fD.l0 k l0 a1 0
theorem fD.mono_l:∀ k,(∀ y0 y1 y2,LeO (fD.l0 k y0 y1 y2) (fD.l0 (k+1) y0 y1 y2))
 | 0=>fun _ _ _ r h=>by simp[fD.l0] at h
 | k+1=>by
  have ih0:=fD.mono_l k
  intro y0 y1 y2;unfold fD.l0
  exact cZ
theorem fD.mono:∀ a0 a1 k,LeO (fD.f k a0 a1) (fD.f (k+1) a0 a1):=by
 intro a0 a1 k;have ih0:=fD.mono_l k;unfold fD.f
 exact cZ
theorem fD.calls (k:Nat) (A0:Option Addr) (c0:Nat) (l0:List ByteArray) (a1:ByteArray) (r:Bool) (w:World) (hr0:Kd.C Kd.string w A0 l0.length l0) (hc0:l0.length≤c0) (h:fD.f k l0 a1=some r) :
 Calls Tryz.prog 120 #[.slice A0 l0.length c0,.string a1] w fun e w'=>e = .returned (.bool r)∧eV w w':=by
 have HR0:=bW hr0;have HC0:=bW hc0;clear hr0 hc0;unfold fD.f at h;have H:=h;clear h;have H':=bW H;clear H;go_enter Tryz.func120,Tryz.ntmps120;go_wp2
 go_loopg [5] k (fun kq v5 w'=>∃ (x5_1:Int),v5 = .int .i64 x5_1∧Aside0 (fD.l0 kq l0 a1 x5_1=some r)∧Aside0 (kq≤k)∧eV w w')
 case atStart=>exact ⟨(0),bE,H',⟨Nat.le_refl _⟩,dH⟩
 case round =>
  clear H'
  obtain ⟨x5_1,rfl,HA,HK1,⟨m1,rfl⟩⟩:=hrel
  cases gk with
  | zero=>exact absurd HA.out (by simp[fD.l0])
  | succ k1 =>
   have H:=HA.out;clear HA;simp only[fD.l0] at H
   by_cases c3:x5_1 < (l0.length:Int)
   ·rw[if_pos c3] at H;have c3b0:=decide_eq_true c3;clear c3
    by_cases c4:0≤x5_1
    ·rw[if_pos c4] at H;have c4b0:=decide_eq_true c4;clear c4
     by_cases c5:(iB ByteArray.empty l0 x5_1).toList=a1.toList
     ·rw[if_pos c5] at H;have c5b0:=beq_iff_eq.mpr c5;have c5b1:=bne_eq_false_iff_eq.mpr c5;clear c5;obtain rfl:=Option.some.inj H;have p108:0≤(x5_1:Int):=bV;have q108:x5_1 < (l0.length:Int):=bV;obtain ⟨ad108,e108,hx108_0⟩:=Kd.at_string HR0.out x5_1 p108 q108;cases e108;replace p108:=eq_true p108;replace q108:=eq_true q108;go_wp2;go_ret;exact ⟨bE,dH⟩
     rw[if_neg c5] at H;have c5b0:=beq_eq_false_iff_ne.mpr c5;have c5b1:=bne_iff_ne.mpr c5;have H':=bW H;clear H;have p108:0≤(x5_1:Int):=bV;have q108:x5_1 < (l0.length:Int):=bV;obtain ⟨ad108,e108,hx108_0⟩:=Kd.at_string HR0.out x5_1 p108 q108;cases e108;replace p108:=eq_true p108;replace q108:=eq_true q108;go_wp2
     go_roundg k1
     case measure=>have:=HK1.out;omega
     case rel=>exact ⟨(wrap64 (x5_1+1)),bE,H',⟨aW⟩,dH⟩
    rw[if_neg c4] at H;exact absurd H bJ
   rw[if_neg c3] at H;have c3b0:=decide_eq_false c3;clear c3;obtain rfl:=Option.some.inj H;go_wp2;go_ret;exact ⟨bE,dH⟩
end Go.Proofs.YtlkoeeccebmjmaaGreatDoor.PCore
namespace Go.Proofs.YtlkoeeccebmjmaaGreatDoor.PCore
open Go.RowKit Go.ZW.PrintWords Go.ZW.PrintLast Go.ZW.PrintMore
attribute [local go_sem] lD lF mD mE kR kS lE lG   -- for this text's walks alone
def eM.l0:Nat→ByteArray→Int→Option (Bool)
 | 0,_,_=>none
 | k+1,x0,x3=>if x3 < (x0.size:Int) then (if 0≤x3 then (if (bt x0 x3) < 97 then (if (bt x0 x3) < 48 then (if (bt x0 x3)=45 then (eM.l0 k x0 (wrap64 (x3+1))) else (some false)) else (if (bt x0 x3) > 57 then (if (bt x0 x3)=45 then (eM.l0 k x0 (wrap64 (x3+1))) else (some false)) else (eM.l0 k x0 (wrap64 (x3+1))))) else (if (bt x0 x3) > 122 then (if (bt x0 x3) < 48 then (if (bt x0 x3)=45 then (eM.l0 k x0 (wrap64 (x3+1))) else (some false)) else (if (bt x0 x3) > 57 then (if (bt x0 x3)=45 then (eM.l0 k x0 (wrap64 (x3+1))) else (some false)) else (eM.l0 k x0 (wrap64 (x3+1))))) else (eM.l0 k x0 (wrap64 (x3+1))))) else (none)) else (if x0.toList=([]:List UInt8) then (some false) else (some (decide ((x0.size:Int)≤20))))
def eM.f (k:Nat) (a0:ByteArray):Option (Bool):=eM.l0 k a0 0
theorem eM.mono_l:∀ k,(∀ y0 y1,LeO (eM.l0 k y0 y1) (eM.l0 (k+1) y0 y1))
 | 0=>fun _ _ r h=>by simp[eM.l0] at h
 | k+1=>by
  have ih0:=eM.mono_l k
  intro y0 y1;unfold eM.l0
  exact cY
theorem eM.mono:∀ a0 k,LeO (eM.f k a0) (eM.f (k+1) a0):=by
 intro a0 k;have ih0:=eM.mono_l k;unfold eM.f
 exact cY
theorem eM.calls (k:Nat) (a0:ByteArray) (r:Bool) (w:World) (h:eM.f k a0=some r) :
 Calls Tryz.prog 121 #[.string a0] w fun e w'=>e = .returned (.bool r)∧eV w w':=by
 unfold eM.f at h;have H:=h;clear h;have H':=bW H;clear H;go_enter Tryz.func121,Tryz.ntmps121;go_wp2
 go_loopg [3] k (fun kq v3 w'=>∃ (x3_1:Int),v3 = .int .i64 x3_1∧Aside0 (eM.l0 kq a0 x3_1=some r)∧Aside0 (kq≤k)∧eV w w')
 case atStart=>exact ⟨(0),bE,H',⟨Nat.le_refl _⟩,dH⟩
 case round =>
  clear H'
  obtain ⟨x3_1,rfl,HA,HK1,⟨m1,rfl⟩⟩:=hrel
  cases gk with
  | zero=>exact absurd HA.out (by simp[eM.l0])
  | succ k1 =>
   have H:=HA.out;clear HA;simp only[eM.l0] at H
   by_cases c2:x3_1 < (a0.size:Int)
   ·rw[if_pos c2] at H;have c2b0:=decide_eq_true c2;clear c2
    by_cases c3:0≤x3_1
    ·rw[if_pos c3] at H;have c3b0:=decide_eq_true c3;clear c3
     by_cases c5:(bt a0 x3_1) < 97
     ·rw[if_pos c5] at H;have c5b0:=decide_eq_true c5;clear c5
      by_cases c7:(bt a0 x3_1) < 48
      ·rw[if_pos c7] at H;have c7b0:=decide_eq_true c7;clear c7
       by_cases c9:(bt a0 x3_1)=45
       ·rw[if_pos c9] at H;have c9b0:=beq_iff_eq.mpr c9;have c9b1:=bne_eq_false_iff_eq.mpr c9;clear c9;have H':=bW H;clear H;have p4:0≤(x3_1:Int):=bV;have q4:x3_1 < (a0.size:Int):=bV;have hx4:=fN a0 x3_1;replace p4:=eq_true p4;replace q4:=eq_true q4;have p6:0≤(x3_1:Int):=bV;have q6:x3_1 < (a0.size:Int):=bV;have hx6:=fN a0 x3_1;replace p6:=eq_true p6;replace q6:=eq_true q6;have p8:0≤(x3_1:Int):=bV
        have q8:x3_1 < (a0.size:Int):=bV;have hx8:=fN a0 x3_1;replace p8:=eq_true p8;replace q8:=eq_true q8;go_wp2
        go_roundg k1
        case measure=>have:=HK1.out;omega
        case rel=>exact ⟨(wrap64 (x3_1+1)),bE,H',⟨aW⟩,dH⟩
       rw[if_neg c9] at H;have c9b0:=beq_eq_false_iff_ne.mpr c9;have c9b1:=bne_iff_ne.mpr c9;obtain rfl:=Option.some.inj H;have p4:0≤(x3_1:Int):=bV;have q4:x3_1 < (a0.size:Int):=bV;have hx4:=fN a0 x3_1;replace p4:=eq_true p4;replace q4:=eq_true q4;have p6:0≤(x3_1:Int):=bV;have q6:x3_1 < (a0.size:Int):=bV;have hx6:=fN a0 x3_1;replace p6:=eq_true p6;replace q6:=eq_true q6;have p8:0≤(x3_1:Int):=bV
       have q8:x3_1 < (a0.size:Int):=bV;have hx8:=fN a0 x3_1;replace p8:=eq_true p8;replace q8:=eq_true q8;go_wp2;go_ret;exact ⟨bE,dH⟩
      rw[if_neg c7] at H;have c7b0:=decide_eq_false c7;clear c7
      by_cases c11:(bt a0 x3_1) > 57
      ·rw[if_pos c11] at H;have c11b0:=decide_eq_true c11;clear c11
       by_cases c13:(bt a0 x3_1)=45
       ·rw[if_pos c13] at H;have c13b0:=beq_iff_eq.mpr c13;have c13b1:=bne_eq_false_iff_eq.mpr c13;clear c13;have H':=bW H;clear H;have p4:0≤(x3_1:Int):=bV;have q4:x3_1 < (a0.size:Int):=bV;have hx4:=fN a0 x3_1;replace p4:=eq_true p4;replace q4:=eq_true q4;have p6:0≤(x3_1:Int):=bV;have q6:x3_1 < (a0.size:Int):=bV;have hx6:=fN a0 x3_1;replace p6:=eq_true p6;replace q6:=eq_true q6;have p10:0≤(x3_1:Int):=bV
        have q10:x3_1 < (a0.size:Int):=bV;have hx10:=fN a0 x3_1;replace p10:=eq_true p10;replace q10:=eq_true q10;have p12:0≤(x3_1:Int):=bV;have q12:x3_1 < (a0.size:Int):=bV;have hx12:=fN a0 x3_1;replace p12:=eq_true p12;replace q12:=eq_true q12;go_wp2
        go_roundg k1
        case measure=>have:=HK1.out;omega
        case rel=>exact ⟨(wrap64 (x3_1+1)),bE,H',⟨aW⟩,dH⟩
       rw[if_neg c13] at H;have c13b0:=beq_eq_false_iff_ne.mpr c13;have c13b1:=bne_iff_ne.mpr c13;obtain rfl:=Option.some.inj H;have p4:0≤(x3_1:Int):=bV;have q4:x3_1 < (a0.size:Int):=bV;have hx4:=fN a0 x3_1;replace p4:=eq_true p4;replace q4:=eq_true q4;have p6:0≤(x3_1:Int):=bV;have q6:x3_1 < (a0.size:Int):=bV;have hx6:=fN a0 x3_1;replace p6:=eq_true p6;replace q6:=eq_true q6;have p10:0≤(x3_1:Int):=bV
       have q10:x3_1 < (a0.size:Int):=bV;have hx10:=fN a0 x3_1;replace p10:=eq_true p10;replace q10:=eq_true q10;have p12:0≤(x3_1:Int):=bV;have q12:x3_1 < (a0.size:Int):=bV;have hx12:=fN a0 x3_1;replace p12:=eq_true p12;replace q12:=eq_true q12;go_wp2;go_ret;exact ⟨bE,dH⟩
      rw[if_neg c11] at H;have c11b0:=decide_eq_false c11;clear c11;have H':=bW H;clear H;have p4:0≤(x3_1:Int):=bV;have q4:x3_1 < (a0.size:Int):=bV;have hx4:=fN a0 x3_1;replace p4:=eq_true p4;replace q4:=eq_true q4;have p6:0≤(x3_1:Int):=bV;have q6:x3_1 < (a0.size:Int):=bV;have hx6:=fN a0 x3_1;replace p6:=eq_true p6;replace q6:=eq_true q6;have p10:0≤(x3_1:Int):=bV
      have q10:x3_1 < (a0.size:Int):=bV;have hx10:=fN a0 x3_1;replace p10:=eq_true p10;replace q10:=eq_true q10;go_wp2
      go_roundg k1
      case measure=>have:=HK1.out;omega
      case rel=>exact ⟨(wrap64 (x3_1+1)),bE,H',⟨aW⟩,dH⟩
     rw[if_neg c5] at H;have c5b0:=decide_eq_false c5;clear c5
     by_cases c15:(bt a0 x3_1) > 122
     ·rw[if_pos c15] at H;have c15b0:=decide_eq_true c15;clear c15
      by_cases c17:(bt a0 x3_1) < 48
      ·rw[if_pos c17] at H;have c17b0:=decide_eq_true c17;clear c17
       by_cases c19:(bt a0 x3_1)=45
       ·rw[if_pos c19] at H;have c19b0:=beq_iff_eq.mpr c19;have c19b1:=bne_eq_false_iff_eq.mpr c19;clear c19;have H':=bW H;clear H;have p4:0≤(x3_1:Int):=bV;have q4:x3_1 < (a0.size:Int):=bV;have hx4:=fN a0 x3_1;replace p4:=eq_true p4;replace q4:=eq_true q4;have p14:0≤(x3_1:Int):=bV;have q14:x3_1 < (a0.size:Int):=bV;have hx14:=fN a0 x3_1;replace p14:=eq_true p14;replace q14:=eq_true q14;have p16:0≤(x3_1:Int):=bV
        have q16:x3_1 < (a0.size:Int):=bV;have hx16:=fN a0 x3_1;replace p16:=eq_true p16;replace q16:=eq_true q16;have p18:0≤(x3_1:Int):=bV;have q18:x3_1 < (a0.size:Int):=bV;have hx18:=fN a0 x3_1;replace p18:=eq_true p18;replace q18:=eq_true q18;go_wp2
        go_roundg k1
        case measure=>have:=HK1.out;omega
        case rel=>exact ⟨(wrap64 (x3_1+1)),bE,H',⟨aW⟩,dH⟩
       rw[if_neg c19] at H;have c19b0:=beq_eq_false_iff_ne.mpr c19;have c19b1:=bne_iff_ne.mpr c19;obtain rfl:=Option.some.inj H;have p4:0≤(x3_1:Int):=bV;have q4:x3_1 < (a0.size:Int):=bV;have hx4:=fN a0 x3_1;replace p4:=eq_true p4;replace q4:=eq_true q4;have p14:0≤(x3_1:Int):=bV;have q14:x3_1 < (a0.size:Int):=bV;have hx14:=fN a0 x3_1;replace p14:=eq_true p14;replace q14:=eq_true q14;have p16:0≤(x3_1:Int):=bV
       have q16:x3_1 < (a0.size:Int):=bV;have hx16:=fN a0 x3_1;replace p16:=eq_true p16;replace q16:=eq_true q16;have p18:0≤(x3_1:Int):=bV;have q18:x3_1 < (a0.size:Int):=bV;have hx18:=fN a0 x3_1;replace p18:=eq_true p18;replace q18:=eq_true q18;go_wp2;go_ret;exact ⟨bE,dH⟩
      rw[if_neg c17] at H;have c17b0:=decide_eq_false c17;clear c17
      by_cases c21:(bt a0 x3_1) > 57
      ·rw[if_pos c21] at H;have c21b0:=decide_eq_true c21;clear c21
       by_cases c23:(bt a0 x3_1)=45
       ·rw[if_pos c23] at H;have c23b0:=beq_iff_eq.mpr c23;have c23b1:=bne_eq_false_iff_eq.mpr c23;clear c23;have H':=bW H;clear H;have p4:0≤(x3_1:Int):=bV;have q4:x3_1 < (a0.size:Int):=bV;have hx4:=fN a0 x3_1;replace p4:=eq_true p4;replace q4:=eq_true q4;have p14:0≤(x3_1:Int):=bV;have q14:x3_1 < (a0.size:Int):=bV;have hx14:=fN a0 x3_1;replace p14:=eq_true p14;replace q14:=eq_true q14;have p16:0≤(x3_1:Int):=bV
        have q16:x3_1 < (a0.size:Int):=bV;have hx16:=fN a0 x3_1;replace p16:=eq_true p16;replace q16:=eq_true q16;have p20:0≤(x3_1:Int):=bV;have q20:x3_1 < (a0.size:Int):=bV;have hx20:=fN a0 x3_1;replace p20:=eq_true p20;replace q20:=eq_true q20;have p22:0≤(x3_1:Int):=bV;have q22:x3_1 < (a0.size:Int):=bV;have hx22:=fN a0 x3_1;replace p22:=eq_true p22;replace q22:=eq_true q22;go_wp2
        go_roundg k1
        case measure=>have:=HK1.out;omega
        case rel=>exact ⟨(wrap64 (x3_1+1)),bE,H',⟨aW⟩,dH⟩
       rw[if_neg c23] at H;have c23b0:=beq_eq_false_iff_ne.mpr c23;have c23b1:=bne_iff_ne.mpr c23;obtain rfl:=Option.some.inj H;have p4:0≤(x3_1:Int):=bV;have q4:x3_1 < (a0.size:Int):=bV;have hx4:=fN a0 x3_1;replace p4:=eq_true p4;replace q4:=eq_true q4;have p14:0≤(x3_1:Int):=bV;have q14:x3_1 < (a0.size:Int):=bV;have hx14:=fN a0 x3_1;replace p14:=eq_true p14;replace q14:=eq_true q14;have p16:0≤(x3_1:Int):=bV
       have q16:x3_1 < (a0.size:Int):=bV;have hx16:=fN a0 x3_1;replace p16:=eq_true p16;replace q16:=eq_true q16;have p20:0≤(x3_1:Int):=bV;have q20:x3_1 < (a0.size:Int):=bV;have hx20:=fN a0 x3_1;replace p20:=eq_true p20;replace q20:=eq_true q20;have p22:0≤(x3_1:Int):=bV;have q22:x3_1 < (a0.size:Int):=bV;have hx22:=fN a0 x3_1;replace p22:=eq_true p22;replace q22:=eq_true q22;go_wp2;go_ret
       exact ⟨bE,dH⟩
      rw[if_neg c21] at H;have c21b0:=decide_eq_false c21;clear c21;have H':=bW H;clear H;have p4:0≤(x3_1:Int):=bV;have q4:x3_1 < (a0.size:Int):=bV;have hx4:=fN a0 x3_1;replace p4:=eq_true p4;replace q4:=eq_true q4;have p14:0≤(x3_1:Int):=bV;have q14:x3_1 < (a0.size:Int):=bV;have hx14:=fN a0 x3_1;replace p14:=eq_true p14;replace q14:=eq_true q14;have p16:0≤(x3_1:Int):=bV
      have q16:x3_1 < (a0.size:Int):=bV;have hx16:=fN a0 x3_1;replace p16:=eq_true p16;replace q16:=eq_true q16;have p20:0≤(x3_1:Int):=bV;have q20:x3_1 < (a0.size:Int):=bV;have hx20:=fN a0 x3_1;replace p20:=eq_true p20;replace q20:=eq_true q20;go_wp2
      go_roundg k1
      case measure=>have:=HK1.out;omega
      case rel=>exact ⟨(wrap64 (x3_1+1)),bE,H',⟨aW⟩,dH⟩
     rw[if_neg c15] at H;have c15b0:=decide_eq_false c15;clear c15;have H':=bW H;clear H;have p4:0≤(x3_1:Int):=bV;have q4:x3_1 < (a0.size:Int):=bV;have hx4:=fN a0 x3_1;replace p4:=eq_true p4;replace q4:=eq_true q4;have p14:0≤(x3_1:Int):=bV;have q14:x3_1 < (a0.size:Int):=bV;have hx14:=fN a0 x3_1;replace p14:=eq_true p14;replace q14:=eq_true q14;go_wp2
     go_roundg k1
     case measure=>have:=HK1.out;omega
     case rel=>exact ⟨(wrap64 (x3_1+1)),bE,H',⟨aW⟩,dH⟩
    rw[if_neg c3] at H;exact absurd H bJ
   rw[if_neg c2] at H;have c2b0:=decide_eq_false c2;clear c2
   by_cases c24:a0.toList=([]:List UInt8)
   ·rw[if_pos c24] at H;have c24b0:=beq_iff_eq.mpr c24;have c24b1:=bne_eq_false_iff_eq.mpr c24;clear c24;obtain rfl:=Option.some.inj H;go_wp2;go_ret;exact ⟨bE,dH⟩
   rw[if_neg c24] at H;have c24b0:=beq_eq_false_iff_ne.mpr c24;have c24b1:=bne_iff_ne.mpr c24;obtain rfl:=Option.some.inj H;go_wp2;go_ret;exact ⟨bE,dH⟩
theorem oE (k:Nat) (A0:Option Addr) (c0:Nat) (l0:List ByteArray) (x:Int) (a1:ByteArray) (r:Bool) (w:World) (h0:0≤x) (h1:x < (l0.length:Int)) (hr0:Kd.C Kd.string w A0 (l0.take x.toNat).length (l0.take x.toNat)) (hc0:(l0.take x.toNat).length≤c0) (h:fD.f k (l0.take x.toNat) a1=some r) :
 Calls Tryz.prog 120 #[.slice A0 x.toNat c0,.string a1] w fun e w'=>e = .returned (.bool r)∧eV w w':=by
 have hl:(l0.take x.toNat).length=x.toNat:=by rw[List.length_take];omega
 have c:=fD.calls k A0 c0 (l0.take x.toNat) a1 r w hr0 hc0 h;rw[hl] at c;exact c
def eK.l0:Nat→List ByteArray→Int→Option (Bool)
 | 0,_,_=>none
 | k+1,x0,x3=>if x3 < (x0.length:Int) then (if 0≤x3 then ((eM.f k (iB ByteArray.empty x0 x3)).bind fun t110=>(if t110=true then (if x3≤(x0.length:Int) then ((fD.f k (x0.take (x3:Int).toNat) (iB ByteArray.empty x0 x3)).bind fun t113=>(if t113=true then (some false) else (eK.l0 k x0 (wrap64 (x3+1))))) else (none)) else (some false))) else (none)) else (some (decide ((x0.length:Int)≤12)))
def eK.f (k:Nat) (l0:List ByteArray):Option (Bool):=eK.l0 k l0 0
theorem eK.mono_l:∀ k,(∀ y0 y1,LeO (eK.l0 k y0 y1) (eK.l0 (k+1) y0 y1))
 | 0=>fun _ _ r h=>by simp[eK.l0] at h
 | k+1=>by
  have ih0:=eK.mono_l k
  intro y0 y1;unfold eK.l0
  exact dA
theorem eK.mono:∀ a0 k,LeO (eK.f k a0) (eK.f (k+1) a0):=by
 intro a0 k;have ih0:=eK.mono_l k;unfold eK.f
 exact dA
theorem eK.calls (k:Nat) (A0:Option Addr) (c0:Nat) (l0:List ByteArray) (r:Bool) (w:World) (hr0:Kd.C Kd.string w A0 l0.length l0) (hc0:l0.length≤c0) (h:eK.f k l0=some r) :
 Calls Tryz.prog 119 #[.slice A0 l0.length c0] w fun e w'=>e = .returned (.bool r)∧eV w w':=by
 have HR0:=bW hr0;have HC0:=bW hc0;clear hr0 hc0;unfold eK.f at h;have H:=h;clear h;have H':=bW H;clear H;go_enter Tryz.func119,Tryz.ntmps119;go_wp2
 repeat (go_quiet (fail);try go_wp2)
 go_loopg [3] k (fun kq v3 w'=>∃ (x3_1:Int),v3 = .int .i64 x3_1∧Aside0 (eK.l0 kq l0 x3_1=some r)∧Aside0 (kq≤k)∧eV w w')
 case atStart=>exact ⟨(0),bE,H',⟨Nat.le_refl _⟩,dH⟩
 case round =>
  clear H'
  obtain ⟨x3_1,rfl,HA,HK1,⟨m1,rfl⟩⟩:=hrel
  cases gk with
  | zero=>exact absurd HA.out (by simp[eK.l0])
  | succ k1 =>
   have H:=HA.out;clear HA;simp only[eK.l0] at H
   by_cases c2:x3_1 < (l0.length:Int)
   ·rw[if_pos c2] at H;have c2b0:=decide_eq_true c2;clear c2
    by_cases c3:0≤x3_1
    ·rw[if_pos c3] at H;have c3b0:=decide_eq_true c3;clear c3;replace H:=Option.bind_eq_some_iff.mp H;obtain ⟨t110,A40,H⟩:=H;have A4:=bW A40;clear A40
     by_cases c5:t110=true
     ·subst c5;rw[if_pos rfl] at H;have c6b0:=eq_true (bV:0≤x3_1)
      by_cases c7:x3_1≤(l0.length:Int)
      ·rw[if_pos c7] at H;have c7b0:=eq_true c7;have c7b1:=decide_eq_true c7;clear c7;replace H:=Option.bind_eq_some_iff.mp H;obtain ⟨t113,A80,H⟩:=H;have A8:=bW A80;clear A80
       by_cases c9:t113=true
       ·subst c9;rw[if_pos rfl] at H;obtain rfl:=Option.some.inj H;have p109:0≤(x3_1:Int):=bV;have q109:x3_1 < (l0.length:Int):=bV;obtain ⟨ad109,e109,hx109_0⟩:=Kd.at_string HR0.out x3_1 p109 q109;cases e109;replace p109:=eq_true p109;replace q109:=eq_true q109
        go_wp2_with (first | (go_at_call 121;(with_reducible refine (eM.calls k1 (iB ByteArray.empty l0 x3_1) true _ A4.out).mono ?_);rintro e w' ⟨rfl,⟨nd,rfl⟩⟩;(try first | exact ⟨rfl,_,World.drewN_drewN _ _ _⟩ | exact ⟨rfl,_,Eq.trans (World.drewN_drewN _ _ _) (congrArg (World.drewN _) (Nat.add_assoc _ _ _))⟩);obtain ⟨i010,hi010,_,hsz10,_⟩:=info_parts info9;obtain ⟨hcut10,hA10,hC10⟩:=mS (P:=Tryz.prog) Value.string (⟨#[]⟩:ByteArray) 22 9 .i64 Tryz.underlying22 hi010 hsz10 (some ad109) c0 l0 x3_1 (bV) (bV) HC0.out;have HR111:=bW (Kd.C_of_reads (h1:=fun _=>rfl) (hA10 _ (Kd.reads_of_C HR0.out)));have HC111:=bW hC10;clear hA10 hC10 hi010 hsz10;have p112:0≤(x3_1:Int):=bV;have q112:x3_1 < (l0.length:Int):=bV;obtain ⟨ad112,e112,hx112_0⟩:=Kd.at_string HR0.out x3_1 p112 q112;obtain rfl:ad109=ad112:=(by injection e112);replace p112:=eq_true p112;replace q112:=eq_true q112) | (go_at_call 120;(with_reducible refine (oE k1 _ _ l0 x3_1 (iB ByteArray.empty l0 x3_1) true _ (bV) (bV) ?side1 ?side2 A8.out).mono ?_);(case side1=>exact cD);(case side2=>exact HC111.out);rintro e w' ⟨rfl,⟨nd,rfl⟩⟩;(try first | exact ⟨rfl,_,World.drewN_drewN _ _ _⟩ | exact ⟨rfl,_,Eq.trans (World.drewN_drewN _ _ _) (congrArg (World.drewN _) (Nat.add_assoc _ _ _))⟩)))
        repeat (go_quiet (first | (go_at_call 121;(with_reducible refine (eM.calls k1 (iB ByteArray.empty l0 x3_1) true _ A4.out).mono ?_);rintro e w' ⟨rfl,⟨nd,rfl⟩⟩;(try first | exact ⟨rfl,_,World.drewN_drewN _ _ _⟩ | exact ⟨rfl,_,Eq.trans (World.drewN_drewN _ _ _) (congrArg (World.drewN _) (Nat.add_assoc _ _ _))⟩);obtain ⟨i010,hi010,_,hsz10,_⟩:=info_parts info9;obtain ⟨hcut10,hA10,hC10⟩:=mS (P:=Tryz.prog) Value.string (⟨#[]⟩:ByteArray) 22 9 .i64 Tryz.underlying22 hi010 hsz10 (some ad109) c0 l0 x3_1 (bV) (bV) HC0.out;have HR111:=bW (Kd.C_of_reads (h1:=fun _=>rfl) (hA10 _ (Kd.reads_of_C HR0.out)));have HC111:=bW hC10;clear hA10 hC10 hi010 hsz10;have p112:0≤(x3_1:Int):=bV;have q112:x3_1 < (l0.length:Int):=bV;obtain ⟨ad112,e112,hx112_0⟩:=Kd.at_string HR0.out x3_1 p112 q112;obtain rfl:ad109=ad112:=(by injection e112);replace p112:=eq_true p112;replace q112:=eq_true q112) | (go_at_call 120;(with_reducible refine (oE k1 _ _ l0 x3_1 (iB ByteArray.empty l0 x3_1) true _ (bV) (bV) ?side1 ?side2 A8.out).mono ?_);(case side1=>exact cD);(case side2=>exact HC111.out);rintro e w' ⟨rfl,⟨nd,rfl⟩⟩;(try first | exact ⟨rfl,_,World.drewN_drewN _ _ _⟩ | exact ⟨rfl,_,Eq.trans (World.drewN_drewN _ _ _) (congrArg (World.drewN _) (Nat.add_assoc _ _ _))⟩)));try go_wp2_with (first | (go_at_call 121;(with_reducible refine (eM.calls k1 (iB ByteArray.empty l0 x3_1) true _ A4.out).mono ?_);rintro e w' ⟨rfl,⟨nd,rfl⟩⟩;(try first | exact ⟨rfl,_,World.drewN_drewN _ _ _⟩ | exact ⟨rfl,_,Eq.trans (World.drewN_drewN _ _ _) (congrArg (World.drewN _) (Nat.add_assoc _ _ _))⟩);obtain ⟨i010,hi010,_,hsz10,_⟩:=info_parts info9;obtain ⟨hcut10,hA10,hC10⟩:=mS (P:=Tryz.prog) Value.string (⟨#[]⟩:ByteArray) 22 9 .i64 Tryz.underlying22 hi010 hsz10 (some ad109) c0 l0 x3_1 (bV) (bV) HC0.out;have HR111:=bW (Kd.C_of_reads (h1:=fun _=>rfl) (hA10 _ (Kd.reads_of_C HR0.out)));have HC111:=bW hC10;clear hA10 hC10 hi010 hsz10;have p112:0≤(x3_1:Int):=bV;have q112:x3_1 < (l0.length:Int):=bV;obtain ⟨ad112,e112,hx112_0⟩:=Kd.at_string HR0.out x3_1 p112 q112;obtain rfl:ad109=ad112:=(by injection e112);replace p112:=eq_true p112;replace q112:=eq_true q112) | (go_at_call 120;(with_reducible refine (oE k1 _ _ l0 x3_1 (iB ByteArray.empty l0 x3_1) true _ (bV) (bV) ?side1 ?side2 A8.out).mono ?_);(case side1=>exact cD);(case side2=>exact HC111.out);rintro e w' ⟨rfl,⟨nd,rfl⟩⟩;(try first | exact ⟨rfl,_,World.drewN_drewN _ _ _⟩ | exact ⟨rfl,_,Eq.trans (World.drewN_drewN _ _ _) (congrArg (World.drewN _) (Nat.add_assoc _ _ _))⟩))))
        go_ret;exact ⟨bE,dH⟩
       replace c9:=Bool.eq_false_iff.mpr c9;subst c9;rw[if_neg (show ¬ (false=true) by decide)] at H;have H':=bW H;clear H;have p109:0≤(x3_1:Int):=bV;have q109:x3_1 < (l0.length:Int):=bV;obtain ⟨ad109,e109,hx109_0⟩:=Kd.at_string HR0.out x3_1 p109 q109;cases e109;replace p109:=eq_true p109;replace q109:=eq_true q109
       go_wp2_with (first | (go_at_call 121;(with_reducible refine (eM.calls k1 (iB ByteArray.empty l0 x3_1) true _ A4.out).mono ?_);rintro e w' ⟨rfl,⟨nd,rfl⟩⟩;(try first | exact ⟨rfl,_,World.drewN_drewN _ _ _⟩ | exact ⟨rfl,_,Eq.trans (World.drewN_drewN _ _ _) (congrArg (World.drewN _) (Nat.add_assoc _ _ _))⟩);obtain ⟨i011,hi011,_,hsz11,_⟩:=info_parts info9;obtain ⟨hcut11,hA11,hC11⟩:=mS (P:=Tryz.prog) Value.string (⟨#[]⟩:ByteArray) 22 9 .i64 Tryz.underlying22 hi011 hsz11 (some ad109) c0 l0 x3_1 (bV) (bV) HC0.out;have HR111:=bW (Kd.C_of_reads (h1:=fun _=>rfl) (hA11 _ (Kd.reads_of_C HR0.out)));have HC111:=bW hC11;clear hA11 hC11 hi011 hsz11;have p112:0≤(x3_1:Int):=bV;have q112:x3_1 < (l0.length:Int):=bV;obtain ⟨ad112,e112,hx112_0⟩:=Kd.at_string HR0.out x3_1 p112 q112;obtain rfl:ad109=ad112:=(by injection e112);replace p112:=eq_true p112;replace q112:=eq_true q112) | (go_at_call 120;(with_reducible refine (oE k1 _ _ l0 x3_1 (iB ByteArray.empty l0 x3_1) false _ (bV) (bV) ?side1 ?side2 A8.out).mono ?_);(case side1=>exact cD);(case side2=>exact HC111.out);rintro e w' ⟨rfl,⟨nd,rfl⟩⟩;(try first | exact ⟨rfl,_,World.drewN_drewN _ _ _⟩ | exact ⟨rfl,_,Eq.trans (World.drewN_drewN _ _ _) (congrArg (World.drewN _) (Nat.add_assoc _ _ _))⟩)))
       repeat (go_quiet (first | (go_at_call 121;(with_reducible refine (eM.calls k1 (iB ByteArray.empty l0 x3_1) true _ A4.out).mono ?_);rintro e w' ⟨rfl,⟨nd,rfl⟩⟩;(try first | exact ⟨rfl,_,World.drewN_drewN _ _ _⟩ | exact ⟨rfl,_,Eq.trans (World.drewN_drewN _ _ _) (congrArg (World.drewN _) (Nat.add_assoc _ _ _))⟩);obtain ⟨i011,hi011,_,hsz11,_⟩:=info_parts info9;obtain ⟨hcut11,hA11,hC11⟩:=mS (P:=Tryz.prog) Value.string (⟨#[]⟩:ByteArray) 22 9 .i64 Tryz.underlying22 hi011 hsz11 (some ad109) c0 l0 x3_1 (bV) (bV) HC0.out;have HR111:=bW (Kd.C_of_reads (h1:=fun _=>rfl) (hA11 _ (Kd.reads_of_C HR0.out)));have HC111:=bW hC11;clear hA11 hC11 hi011 hsz11;have p112:0≤(x3_1:Int):=bV;have q112:x3_1 < (l0.length:Int):=bV;obtain ⟨ad112,e112,hx112_0⟩:=Kd.at_string HR0.out x3_1 p112 q112;obtain rfl:ad109=ad112:=(by injection e112);replace p112:=eq_true p112;replace q112:=eq_true q112) | (go_at_call 120;(with_reducible refine (oE k1 _ _ l0 x3_1 (iB ByteArray.empty l0 x3_1) false _ (bV) (bV) ?side1 ?side2 A8.out).mono ?_);(case side1=>exact cD);(case side2=>exact HC111.out);rintro e w' ⟨rfl,⟨nd,rfl⟩⟩;(try first | exact ⟨rfl,_,World.drewN_drewN _ _ _⟩ | exact ⟨rfl,_,Eq.trans (World.drewN_drewN _ _ _) (congrArg (World.drewN _) (Nat.add_assoc _ _ _))⟩)));try go_wp2_with (first | (go_at_call 121;(with_reducible refine (eM.calls k1 (iB ByteArray.empty l0 x3_1) true _ A4.out).mono ?_);rintro e w' ⟨rfl,⟨nd,rfl⟩⟩;(try first | exact ⟨rfl,_,World.drewN_drewN _ _ _⟩ | exact ⟨rfl,_,Eq.trans (World.drewN_drewN _ _ _) (congrArg (World.drewN _) (Nat.add_assoc _ _ _))⟩);obtain ⟨i011,hi011,_,hsz11,_⟩:=info_parts info9;obtain ⟨hcut11,hA11,hC11⟩:=mS (P:=Tryz.prog) Value.string (⟨#[]⟩:ByteArray) 22 9 .i64 Tryz.underlying22 hi011 hsz11 (some ad109) c0 l0 x3_1 (bV) (bV) HC0.out;have HR111:=bW (Kd.C_of_reads (h1:=fun _=>rfl) (hA11 _ (Kd.reads_of_C HR0.out)));have HC111:=bW hC11;clear hA11 hC11 hi011 hsz11;have p112:0≤(x3_1:Int):=bV;have q112:x3_1 < (l0.length:Int):=bV;obtain ⟨ad112,e112,hx112_0⟩:=Kd.at_string HR0.out x3_1 p112 q112;obtain rfl:ad109=ad112:=(by injection e112);replace p112:=eq_true p112;replace q112:=eq_true q112) | (go_at_call 120;(with_reducible refine (oE k1 _ _ l0 x3_1 (iB ByteArray.empty l0 x3_1) false _ (bV) (bV) ?side1 ?side2 A8.out).mono ?_);(case side1=>exact cD);(case side2=>exact HC111.out);rintro e w' ⟨rfl,⟨nd,rfl⟩⟩;(try first | exact ⟨rfl,_,World.drewN_drewN _ _ _⟩ | exact ⟨rfl,_,Eq.trans (World.drewN_drewN _ _ _) (congrArg (World.drewN _) (Nat.add_assoc _ _ _))⟩))))
       go_roundg k1
       case measure=>have:=HK1.out;omega
       case rel=>exact ⟨(wrap64 (x3_1+1)),bE,H',⟨aW⟩,dH⟩
      rw[if_neg c7] at H;exact absurd H bJ
     replace c5:=Bool.eq_false_iff.mpr c5;subst c5;rw[if_neg (show ¬ (false=true) by decide)] at H;obtain rfl:=Option.some.inj H;have p109:0≤(x3_1:Int):=bV;have q109:x3_1 < (l0.length:Int):=bV;obtain ⟨ad109,e109,hx109_0⟩:=Kd.at_string HR0.out x3_1 p109 q109;cases e109;replace p109:=eq_true p109;replace q109:=eq_true q109
     go_wp2_with (first | (go_at_call 121;(with_reducible refine (eM.calls k1 (iB ByteArray.empty l0 x3_1) false _ A4.out).mono ?_);rintro e w' ⟨rfl,⟨nd,rfl⟩⟩;(try first | exact ⟨rfl,_,World.drewN_drewN _ _ _⟩ | exact ⟨rfl,_,Eq.trans (World.drewN_drewN _ _ _) (congrArg (World.drewN _) (Nat.add_assoc _ _ _))⟩)))
     repeat (go_quiet (first | (go_at_call 121;(with_reducible refine (eM.calls k1 (iB ByteArray.empty l0 x3_1) false _ A4.out).mono ?_);rintro e w' ⟨rfl,⟨nd,rfl⟩⟩;(try first | exact ⟨rfl,_,World.drewN_drewN _ _ _⟩ | exact ⟨rfl,_,Eq.trans (World.drewN_drewN _ _ _) (congrArg (World.drewN _) (Nat.add_assoc _ _ _))⟩)));try go_wp2_with (first | (go_at_call 121;(with_reducible refine (eM.calls k1 (iB ByteArray.empty l0 x3_1) false _ A4.out).mono ?_);rintro e w' ⟨rfl,⟨nd,rfl⟩⟩;(try first | exact ⟨rfl,_,World.drewN_drewN _ _ _⟩ | exact ⟨rfl,_,Eq.trans (World.drewN_drewN _ _ _) (congrArg (World.drewN _) (Nat.add_assoc _ _ _))⟩))))
     go_ret;exact ⟨bE,dH⟩
    rw[if_neg c3] at H;exact absurd H bJ
   rw[if_neg c2] at H;have c2b0:=decide_eq_false c2;clear c2;obtain rfl:=Option.some.inj H;go_wp2
   repeat (go_quiet (fail);try go_wp2)
   go_ret;exact ⟨bE,dH⟩
end Go.Proofs.YtlkoeeccebmjmaaGreatDoor.PCore
