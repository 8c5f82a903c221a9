/- Texts that the law leans on: Id00, Goes, Set, RowKit, Text, Do0, Do1, Do2, Bytes, Lower, PathOf, WTab, WApart, WFoot, WKept, WShare, WN, WAt. Condition: as told at each. -/
import Derived.Laws.OwnMore
import Derived.Test.YtlkoeeccebmjmaaGreatDoorCards
import Derived.Test.YtlkoeeccebmjmaaGreatDoorTie
import Derived.ProofKit
import Derived.OpenShut
import Derived.LaidMore
import Derived.Lay
import Derived.SevenTiedAt
import Derived.Stop.Joined
import Derived.ShutString
import Derived.Below
import Derived.Lib.LastIndexByte
import Derived.Lib.ConvBytes
import Derived.Lib.Case
import Derived.Test.YtlkoeeccebmjmaaGreatDoorProg
import Derived.Deep.QuietTactic
import Derived.Tactics
import Derived.WalkKit
import Derived.Deep.DeepCutAuto
import Derived.Deep.CutBlock
import Derived.Test.YtlkoeeccebmjmaaGreatDoorXa
import Derived.Test.YtlkoeeccebmjmaaGreatDoorX4
set_option linter.unusedVariables false
set_option linter.unusedSimpArgs false
set_option maxRecDepth 100000
set_option maxHeartbeats 16000000
namespace Go.Proofs.YtlkoeeccebmjmaaGreatDoor.Path
open Go.RowKit Go.ZW.PrintWords Go.Proofs.YtlkoeeccebmjmaaGreatDoor.Base
section
variable {E:Env} {p:eE} {comp sid:ByteArray} {nd:Int} {last:Bool} {x:Int×Int}
def NL (E:Env) (p:eE) (comp:ByteArray) (nd:Int) (sid:ByteArray):Prop:=(pS p comp nd && (E.lang sid || E.dis sid))=false
def NF (E:Env) (p:eE) (comp:ByteArray) (sid:ByteArray):Prop:=(eO comp && E.fmt sid (fE p 0))=false
def NK (p:eE) (comp:ByteArray) (sid:ByteArray):Prop:=(pB p comp && isKind sid)=false
def NB (sid:ByteArray):Prop:=(sid.toList==[98,97,115,101,111,102])=false
theorem wQ (h:(pS p comp nd && (E.lang sid || E.dis sid))=true):(({ p with known:=p.known++[x],lang:=p.known.length,dis:=p.dis || !E.lang sid }:eE),true)=jF E p comp nd last x sid:=by
 unfold jF;rw[if_pos h]
theorem aFf (h1:NL E p comp nd sid) (h:(eO comp && E.fmt sid (fE p 0))=true):(({ p with known:=p.known++[x],fmt:=p.known.length }:eE),true)=jF E p comp nd last x sid:=by
 unfold jF;rw[if_neg (by rw[show _=false from h1];simp),if_pos h]
theorem aD0 (h1:NL E p comp nd sid) (h2:NF E p comp sid) (h:(pB p comp && isKind sid)=true):(({ p with known:=p.known++[x],kind:=p.known.length }:eE),true)=jF E p comp nd last x sid:=by
 unfold jF;rw[if_neg (by rw[show _=false from h1];simp),if_neg (by rw[show _=false from h2];simp),if_pos h]
theorem aDz (h1:NL E p comp nd sid) (h2:NF E p comp sid) (h3:NK p comp sid) (h:(sid.toList==[98,97,115,101,111,102])=true):(({ p with known:=p.known++[x],base:=p.known.length }:eE),true)=jF E p comp nd last x sid:=by
 unfold jF;rw[if_neg (by rw[show _=false from h1];simp),if_neg (by rw[show _=false from h2];simp),if_neg (by rw[show _=false from h3];simp),if_pos h]
theorem aBc (h1:NL E p comp nd sid) (h2:NF E p comp sid) (h3:NK p comp sid) (h4:NB sid) (h:kZ p comp last=true) (hl:(p.lay != -1)=false):(({ p with known:=p.known++[x],lay:=p.known.length }:eE),true)=jF E p comp nd last x sid:=by
 unfold jF;rw[if_neg (by rw[show _=false from h1];simp),if_neg (by rw[show _=false from h2];simp),if_neg (by rw[show _=false from h3];simp),if_neg (by rw[show _=false from h4];simp),if_pos h,if_neg (by rw[hl];simp)]
theorem aBd (h1:NL E p comp nd sid) (h2:NF E p comp sid) (h3:NK p comp sid) (h4:NB sid) (h:kZ p comp last=true) (hl:(p.lay != -1)=true):(({ p with known:=p.known.set p.lay.toNat x,unknown:=p.unknown++[p.known.getD p.lay.toNat (0,0)] }:eE),true)=jF E p comp nd last x sid:=by
 unfold jF;rw[if_neg (by rw[show _=false from h1];simp),if_neg (by rw[show _=false from h2];simp),if_neg (by rw[show _=false from h3];simp),if_neg (by rw[show _=false from h4];simp),if_pos h,if_pos hl]
theorem aD1 (h1:NL E p comp nd sid) (h2:NF E p comp sid) (h3:NK p comp sid) (h4:NB sid) (h:kZ p comp last=false):(({ p with unknown:=p.unknown++[x] }:eE),false)=jF E p comp nd last x sid:=by
 unfold jF;rw[if_neg (by rw[show _=false from h1];simp),if_neg (by rw[show _=false from h2];simp),if_neg (by rw[show _=false from h3];simp),if_neg (by rw[show _=false from h4];simp),if_neg (by rw[h];simp)]
theorem wX {lo hi ld:Nat} (h1:idHigh p ld=hi) (h2:p.s.extract lo hi=sid) (hw:mJ sid=false) (hk:p.known≠[]):jA E p comp lo ld nd last=jF E p comp nd last ((lo:Int),(hi:Int)) sid:=by
 unfold jA;rw[h1];simp only[h2,hw,if_false,hk,Bool.false_eq_true]
end
open Go.RowKit Go.ZW.PrintLast
section
variable {P:Program} {ops:Array Oper} {Q:Exit→Act→World→Prop}
theorem aGk {oi:Oper} {N:Option Tmp} {a:Act} {w:World} {K:Act→World→Prop} {f:FuncId} {fn:Func} {x:Operand} {asx:Array Operand} {ts:Array TypeId} (caps:Array Value) (hf:P.funcs[f]? = some fn) (hname:(fn.name == "runtime.NumGoroutine")=false) (hb:fn.body.isSome=true) (args:Array Value)
 (hw:Region.wanted oi (yielded ops a.tmps)=true) (hN:oi.dst=N) (hop:oi.op = .call { callee:=.value x,args:=asx,argTypes:=ts }) (hx:a.eval x = .func (.func f) #[] caps) (hargs:asx.map a.eval=args)
 (h:Calls P f (args++caps) w fun e w'=>∃ v,e = .returned v∧K (a.put N v) w'):if Region.wanted oi (yielded ops a.tmps)=true then Oper.wp P oi a w K Q else K (a.put N undef) w:=by
 refine aId f (args++caps) hw hN ?_ h;have he:=zT hf hname hb (args++caps) w;unfold execOp
 simp[hop,resolve,Deferred.ofValue,invoke,hx,hargs,he]
end
theorem aAv (x:Int×Int):∀ (l:List (Int×Int)) (j:Nat),((pairs l).set (j * 2) (.int .i64 x.1)).set (j * 2+1) (.int .i64 x.2)=pairs (l.set j x)
 | [],_=>by simp[pairs]
 | _::_,0=>by simp[pairs]
 | a::r,j+1=>by
  have e:(j+1) * 2=(j * 2+1)+1:=by omega
  have e2:(j+1) * 2+1=(j * 2+1+1)+1:=by omega
  rw[e2,e];simp only[pairs,List.set_cons_succ];rw[aAv x r j]
section
variable {w:World} {B b:Nat} {p:eE} {vu vl u:Value} {g n c:Nat}
theorem aH1 (H:eF w B b p (.slice (some ⟨g,0,none⟩) n c) vu vl u) (j:Nat) (x:Int×Int) :
 eF ((w.setCell ⟨g,j * 2,none⟩ (.int .i64 x.1)).setCell ⟨g,j * 2+1,none⟩ (.int .i64 x.2)) B b { p with known:=p.known.set j x } (.slice (some ⟨g,0,none⟩) n c) vu vl u ∧
  eW w ((w.setCell ⟨g,j * 2,none⟩ (.int .i64 x.1)).setCell ⟨g,j * 2+1,none⟩ (.int .i64 x.2)) b (.slice (some ⟨g,0,none⟩) n c) vu vl (.slice (some ⟨g,0,none⟩) n c) vu vl:=by
 have hn:n=p.known.length:=by obtain ⟨A,c',e⟩:=fL H.ok;injection e
 have ho:(Value.slice (some ⟨g,0,none⟩) n c).ownBlock=some g:=rfl;have hgb:g≠b:=fun e=>H.nk (by rw[ho,e]);have hok:=H.ok;rw[← hn] at hok;obtain ⟨a1,a2⟩:=hok.stored (j * 2) (.int .i64 x.1);obtain ⟨a3,a4⟩:=a1.stored (j * 2+1) (.int .i64 x.2);rw[aAv] at a3
 have hug:vu.ownBlock≠some g:=by
  rcases H.ku with h | h
  ·rw[ho] at h;cases h
  exact fun e=>h (by rw[ho,e])
 have hlg:vl.ownBlock≠some g:=by
  rcases own_type_ne H.ol H.ok bF with h | h
  ·rw[h];intro e;cases e
  rw[ho] at h;exact h
 have hl:n=(p.known.set j x).length:=by rw[List.length_set];exact hn
 refine ⟨⟨H.base,(H.row.other (a:=⟨g,j * 2,none⟩) hgb _).other (a:=⟨g,j * 2+1,none⟩) hgb _,?_,?_,?_,H.nk,H.nu,H.nl,H.ku⟩,⟨rfl,rfl,rfl,dV,?_,.inl rfl,.inl rfl,.inl rfl⟩⟩
 ·rw[hl] at a3;rw[← hl] at a3 ⊢;exact a3
 ·exact ownsRow_setCell_other (ownsRow_setCell_other H.ou (a:=⟨g,j * 2,none⟩) hug _) (a:=⟨g,j * 2+1,none⟩) hug _
 ·exact ownsRow_setCell_other (ownsRow_setCell_other H.ol (a:=⟨g,j * 2,none⟩) hlg _) (a:=⟨g,j * 2+1,none⟩) hlg _
 intro k hk _ h1 _ _;have hkg:k≠g:=fun e=>h1 (by rw[ho,e]);exact (Below.heap_setCell _ _ _ _ (by simpa using hkg)).trans (Below.heap_setCell _ _ _ _ (by simpa using hkg))
end
end Go.Proofs.YtlkoeeccebmjmaaGreatDoor.Path
namespace Go.Proofs.YtlkoeeccebmjmaaGreatDoor.RowKit
open Go.ChangeShapes Go.WideShapes Go.ChangeAt Go.RowKit
theorem own:ownKnob Tryz.prog.godebug=none:=by kernel_rfl
end Go.Proofs.YtlkoeeccebmjmaaGreatDoor.RowKit
namespace Go.Proofs.YtlkoeeccebmjmaaGreatDoor.Path
open Go.RowKit Go.ZW.PrintWords Go.Proofs.YtlkoeeccebmjmaaGreatDoor.Base
def xM (s sub:List UInt8):Nat→Nat→Bool
 | 0,_=>false
 | g+1,i=>if s.length < i+sub.length then false else (s.drop i).take sub.length==sub || xM s sub g (i+1)
def eY (s sub:List UInt8):Bool:=xM s sub (s.length+1) 0
def fS:List UInt8:=[47,95,115,104,111,114,116,99,111,100,101,115,47]
def jV:List UInt8:=[47,95,109,97,114,107,117,112,47]
def jC:List UInt8:=[47,95,112,97,114,116,105,97,108,115,47]
def nR:List UInt8:=[105,110,100,101,120]
def mU:List UInt8:=[95,105,110,100,101,120]
def lH:List UInt8:=[95,99,111,110,116,101,110,116]
def mT:List UInt8:=[103,111,116,109,112,108]
def kG (l:List UInt8):List UInt8:=if l=[] then [47] else if l.head? = some 47 then l else 47::l
def gY (l:List UInt8):List UInt8:=let m:=kG l;if m≠[47]∧m.getLast? = some 47 then m.dropLast else m
theorem tK (l:List UInt8):(kG l).head? = some 47:=by
 unfold kG
 by_cases h:l=[]
 ·rw[if_pos h];rfl
 rw[if_neg h];split
 ·assumption
 rfl
theorem tL (l:List UInt8):kG l≠[]:=by
 intro h;have:=tK l;rw[h] at this;cases this
theorem uY (l:List UInt8):kG l=[47]↔¬ 1 < (kG l).length:=by
 have h:=tK l
 cases hm:kG l with
 | nil=>exact absurd hm (tL l)
 | cons a r =>
  rw[hm] at h;simp only[List.head?_cons,Option.some.injEq] at h;subst h
  cases r with
  | nil=>simp
  | cons b r=>simp
theorem vR (s:ByteArray) (h:0 < s.size):(bt s ((s.size:Int) - 1)=47)↔(L s).getLast? = some 47:=by
 have hl:=eD s;have e:((s.size:Int) - 1)=((s.size - 1:Nat):Int):=by omega
 have hi:s.size - 1 < (L s).length:=by omega
 rw[e,sN s (s.size - 1) hi,List.getLast?_eq_getElem?,hl,List.getElem?_eq_getElem hi];have:=tS ((L s)[s.size - 1]'hi) 47 bF;constructor
 ·intro h;rw[this.1 h];rfl
 intro h;exact this.2 (by injection h)
theorem aHd (s:ByteArray) (h:0 < s.size):(bt s 0=47)↔(L s).head? = some 47:=by
 have hl:=eD s;have hi:0 < (L s).length:=by omega
 rw[show (0:Int)=((0:Nat):Int) from rfl,sN s 0 hi,List.head?_eq_getElem?,List.getElem?_eq_getElem hi];have:=tS ((L s)[0]'hi) 47 bF;constructor
 ·intro h;rw[this.1 h];rfl
 intro h;exact this.2 (by injection h)
theorem yT (l:List UInt8) (m:ByteArray) (hm:L m=kG l) (h:(L m).getLast? = some 47) (h1:1 < m.size):(m.extract 0 (m.size - 1))=⟨(gY l).toArray⟩:=by
 have hl:=eD m;refine L_inj ?_;show L (m.extract 0 (m.size - 1))=_;rw[show L (⟨(gY l).toArray⟩:ByteArray)=gY l from jQ _,eN];unfold gY;simp only[];rw[← hm,if_pos ⟨fun e=>(uY l).1 (hm▸e) (by rw[← hm,hl];exact h1),h⟩]
 simp[List.dropLast_eq_take,hl]
theorem sJ (l:List UInt8) (m:ByteArray) (hm:L m=kG l) (h:¬ (1 < m.size∧(L m).getLast? = some 47)):m=⟨(gY l).toArray⟩:=by
 have hl:=eD m;refine L_inj ?_;rw[show L (⟨(gY l).toArray⟩:ByteArray)=gY l from jQ _];unfold gY;simp only[];rw[← hm,if_neg];rintro ⟨h1,h2⟩;refine h ⟨?_,h2⟩;have:=(uY l).2;rw[← hm,hl] at this
 by_cases g:1 < m.size
 ·exact g
 exact absurd (this g) h1
theorem mText_head (l:List UInt8):(gY l).head? = some 47:=by
 have h:=tK l;unfold gY;simp only;split
 ·rename_i hh
  cases hm:kG l with
  | nil=>exact absurd hm (tL l)
  | cons a r =>
   rw[hm] at h hh
   cases r with
   | nil=>simp at h;subst h;exact absurd rfl hh.1
   | cons b r=>simpa [List.dropLast] using h
 exact h
theorem mText_length (l:List UInt8):(gY l).length≤l.length+1:=by
 have h:(kG l).length≤l.length+1:=by
  unfold kG;split
  ·simp
  split
  ·omega
  simp
 unfold gY;simp only;split
 ·simp;omega
 exact h
def kW (l:List UInt8):Nat→Nat→Option Nat
 | 0,_=>none
 | g+1,k=>if l[k]? = some 47 then none else if l[k]? = some 95∧(l.length≤k+1∨l[k+1]? = some 46) then some k else kW l g (k+1)
def pW (l:List UInt8) (k:Nat):Option Nat:=kW l (l.length - k) k
def jW (l:List UInt8) (a n:Nat):List Nat:=(List.range' a n).filter fun j=>l[j]? == some 46
def opens (l:List UInt8) (i:Nat):Bool:=decide (i+2 < l.length) && (l[i]? == some 46 && l[i+1]? == some 95)
def skF (l:List UInt8):Nat→Nat→List Nat
 | 0,_=>[]
 | g+1,i=>if l.length≤i then [] else if opens l i then (match pW l (i+2) with
  | some e=>jW l (i+2) (e - (i+2))++skF l g (e+1)
  | none=>skF l g (i+1)) else skF l g (i+1)
def behind (l:List UInt8):Nat:=(Go.Lib.lastIndexByte ⟨l.toArray⟩ 47+1).toNat
def lB (l:List UInt8):List Nat:=skF l l.length (behind l - 1)
def iD (l:List UInt8):Nat:=(l.filter fun c=>c==46).length
def qA (l:List UInt8):Int:=(iD (l.drop (behind l)):Int) - (lB l).length
def kF:List Nat→Nat→Bool
 | [],_=>false
 | d::r,i=>if d=i then true else if i < d then false else kF r i
structure DoV where
 p:eE
 sc:Nat
 ld:Nat
def iL (E:Env) (comp:ByteArray) (sk:List Nat) (nd:Int) (i:Nat) (d:DoV):DoV :=
 if d.p.s.data.toList[i]? = some 46 then if kF sk i then d else { d with p:=mId E d.p comp i d.ld nd false,ld:=i }
 else if d.p.s.data.toList[i]? = some 47 then
  let p1:eE:=if d.p.cHigh = -1 then { (if 0 < d.ld then mId E d.p comp i d.ld nd true else d.p) with cHigh:=((i:Int)+1) }
   else if d.p.cLow = -1 then { d.p with cLow:=((i:Int)+1) } else d.p
  { d with p:=if 0 < i then { p1 with sec:=i } else p1,sc:=d.sc+1 }
 else d
def iY (E:Env) (comp:ByteArray) (sk:List Nat) (nd:Int):Nat→DoV→DoV
 | 0,d=>d
 | i+1,d=>iY E comp sk nd i (iL E comp sk nd i d)
def gD (p:eE):eE:={ p with nLow:=p.cHigh,nHigh:=if p.cHigh≤p.nEnd then p.nEnd else p.s.size }
def kI (comp:ByteArray):Bool:=comp.toList==[97,114,99,104,101,116,121,112,101,115]
def iA (E:Env) (sc:Nat) (p:eE):eE :=
 if p.known=[] then p else
 let isc:=(jS p.comp || kI p.comp) && E.cont (fE p 0)
 if p.nLow < p.nHigh then
  let b:=(sub p.s p.nLow p.nHigh).toList
  if isc then
   if b=nR then { p with typ:=3,sec:=if sc=2 then 0 else p.sec }
   else if b=mU then { p with typ:=4 } else { p with typ:=2 }
  else if b=lH∧(fE p 0).toList=mT then { p with typ:=5 } else p
 else p
def kQ (comp:ByteArray) (p:eE):eE :=
 if p.typ < 6∧eO comp=true then
  if p.base≠-1 then { p with typ:=9 }
  else if eY (nrm p.trim p.s).data.toList fS then { p with typ:=7 }
  else if eY (nrm p.trim p.s).data.toList jV then { p with typ:=6 }
  else if jC.isPrefixOf (nrm p.trim p.s).data.toList then { p with typ:=8 } else p
 else p
def lP (p:eE):eE:=if p.typ=7∧p.lay≠-1∧(p.known.getD p.lay.toNat (0,0)).1=p.cHigh then { p with lay:=-1 } else p
def iP (p:eE) (s:ByteArray):eE:={ p with s:=s,typ:=if eY s.data.toList fS then 7 else p.typ }
def qK (E:Env) (comp:ByteArray) (p:eE):DoV:=iY E comp (lB p.s.data.toList) (qA p.s.data.toList) p.s.size ⟨p,0,0⟩
def sI (E:Env) (comp:ByteArray) (d:DoV):eE:=lP (kQ comp (iA E d.sc (gD d.p)))
def mDo (E:Env) (comp s:ByteArray) (p:eE):eE:=sI E comp (qK E comp (iP p ⟨(gY s.data.toList).toArray⟩))
structure Fit (lo:Int) (N c:Nat) (p:eE):Prop where
 kn:∀ x∈p.known,lo≤x.1∧x.1≤x.2∧x.2≤N
 un:∀ x∈p.unknown,lo≤x.1∧x.1≤x.2∧x.2≤N
 kl:p.known.length≤c
 ul:p.unknown.length≤c
 ll:p.plangs.length≤c
 fl:-1≤p.fmt
 la:-1≤p.lang
 ly:p.lay = -1∨(1≤p.lay∧p.lay < p.known.length)
structure Same (p q:eE):Prop where
 s:q.s=p.s
 cLow:q.cLow=p.cLow
 cHigh:q.cHigh=p.cHigh
 sec:q.sec=p.sec
 comp:q.comp=p.comp
 typ:q.typ=p.typ
 nLow:q.nLow=p.nLow
 nHigh:q.nHigh=p.nHigh
 trim:q.trim=p.trim
theorem Same.refl (p:eE):Same p p:=⟨rfl,rfl,rfl,rfl,rfl,rfl,rfl,rfl,rfl⟩
theorem Same.trans {p q r:eE} (h:Same p q) (g:Same q r):Same p r:=⟨g.s.trans h.s,g.cLow.trans h.cLow,g.cHigh.trans h.cHigh,g.sec.trans h.sec,g.comp.trans h.comp,g.typ.trans h.typ,g.nLow.trans h.nLow,g.nHigh.trans h.nHigh,g.trim.trans h.trim⟩
section
variable {E:Env} {p:eE} {comp:ByteArray} {nd:Int} {last:Bool}
theorem Fit.more {lo lo' : Int} {N c c' : Nat} (h:Fit lo N c p) (h1:lo'≤lo) (h2:c≤c'):Fit lo' N c' p :=
 ⟨fun x hx=>⟨Int.le_trans h1 (h.kn x hx).1,(h.kn x hx).2⟩,fun x hx=>⟨Int.le_trans h1 (h.un x hx).1,(h.un x hx).2⟩,Nat.le_trans h.kl h2,Nat.le_trans h.ul h2,Nat.le_trans h.ll h2,h.fl,h.la,h.ly⟩
theorem aAb {l:List (Int×Int)} {x:Int×Int} {lo:Int} {N:Nat} (h:∀ x∈l,lo≤x.1∧x.1≤x.2∧x.2≤N) (hx:lo≤x.1∧x.1≤x.2∧x.2≤N):∀ y∈l++[x],lo≤y.1∧y.1≤y.2∧y.2≤N:=by
 intro y hy;rcases List.mem_append.1 hy with hy | hy
 ·exact h y hy
 rw[List.mem_singleton] at hy;subst hy;exact hx
theorem aIx {l:List (Int×Int)} {x:Int×Int} {lo:Int} {N k:Nat} (h:∀ x∈l,lo≤x.1∧x.1≤x.2∧x.2≤N) (hx:lo≤x.1∧x.1≤x.2∧x.2≤N):∀ y∈l.set k x,lo≤y.1∧y.1≤y.2∧y.2≤N:=by
 intro y hy;rcases List.mem_or_eq_of_mem_set hy with hy | rfl
 ·exact h y hy
 exact hx
def zJ (p q:eE) (lo:Int) (N:Nat):Prop :=
 ∃ x:Int×Int,(lo≤x.1∧x.1≤x.2∧x.2≤N)∧((q.known=p.known++[x]∧q.unknown=p.unknown)∨(q.known=p.known.set p.lay.toNat x∧p.lay≠-1∧q.lay=p.lay∧q.plangs=p.plangs∧p.known≠[]∧q.unknown=p.unknown++[p.known.getD p.lay.toNat (0,0)])∨(q.known=p.known∧p.known≠[]∧q.lay=p.lay∧q.plangs=p.plangs∧q.unknown=p.unknown++[x])) ∧
  (q.plangs=p.plangs∨∃ y,q.plangs=p.plangs++[y])∧(q.fmt=p.fmt∨0≤q.fmt)∧(q.lang=p.lang∨0≤q.lang)∧(q.lay=p.lay∨(q.lay=p.known.length∧p.known≠[]∧q.known=p.known++[x]))
theorem aDs {s:ByteArray} (h:mJ s=true):2 < s.size:=by unfold mJ at h;simp at h;exact h.1
theorem vD : ∀ (ps:List ByteArray) (l:List UInt8),(lR ps l).size≤l.length
 | [],l=>Nat.zero_le _
 | p::r,l=>by
  unfold lR;split
  ·rename_i h
   have:=(List.isPrefixOf_iff_prefix.1 (show List.isPrefixOf p.data.toList l=true from h)).length_le
   simpa using this
  exact vD r l
theorem aCv (s:ByteArray):(iF s).size≤s.size:=by
 have h:=vD kU (Lib.toLowerA (L s));have e:(Lib.toLowerA (L s)).length=s.size:=by show (List.map _ _).length=_;rw[List.length_map,eD]
 rw[e] at h;exact h
theorem aDu {lay:Bool} {q:eE} {pre v:ByteArray} {a b N:Nat} {lo:Int} (h:iZ E lay p pre ((a:Int),(b:Int)) v=some q) (h1:lo≤a) (h2:a≤b) (h3:b≤N):Same p q∧q.nEnd=p.nEnd∧zJ p q lo N∧q.known≠[]:=by
 have hx:lo≤((a:Int),(b:Int)).1∧((a:Int),(b:Int)).1≤((a:Int),(b:Int)).2∧((a:Int),(b:Int)).2≤(N:Int):=⟨h1,by show (a:Int)≤b;omega,by show (b:Int)≤N;omega⟩
 unfold iZ at h;split at h
 ·split at h
  ·cases h;exact ⟨⟨rfl,rfl,rfl,rfl,rfl,rfl,rfl,rfl,rfl⟩,rfl,⟨_,hx,.inl ⟨rfl,rfl⟩,.inr ⟨_,rfl⟩,.inl rfl,.inl rfl,.inl rfl⟩,dV⟩
  split at h
  ·cases h;exact ⟨⟨rfl,rfl,rfl,rfl,rfl,rfl,rfl,rfl,rfl⟩,rfl,⟨_,hx,.inl ⟨rfl,rfl⟩,.inr ⟨_,rfl⟩,.inl rfl,.inl rfl,.inl rfl⟩,dV⟩
  cases h
 split at h
 ·split at h
  ·cases h;exact ⟨⟨rfl,rfl,rfl,rfl,rfl,rfl,rfl,rfl,rfl⟩,rfl,⟨_,hx,.inl ⟨rfl,rfl⟩,.inl rfl,.inl rfl,.inl rfl,.inl rfl⟩,dV⟩
  cases h
 split at h
 ·split at h
  ·cases h;exact ⟨⟨rfl,rfl,rfl,rfl,rfl,rfl,rfl,rfl,rfl⟩,rfl,⟨_,hx,.inl ⟨rfl,rfl⟩,.inl rfl,.inl rfl,.inl rfl,.inl rfl⟩,dV⟩
  cases h
 split at h
 ·split at h
  ·cases h;exact ⟨⟨rfl,rfl,rfl,rfl,rfl,rfl,rfl,rfl,rfl⟩,rfl,⟨_,hx,.inl ⟨rfl,rfl⟩,.inl rfl,.inl rfl,.inl rfl,.inl rfl⟩,dV⟩
  cases h
 cases h
theorem yR {x:Int×Int} {N:Nat} {lo:Int} (hx:lo≤x.1∧x.1≤x.2∧x.2≤(N:Int)):Same p (oI p x)∧(oI p x).nEnd=p.nEnd∧zJ p (oI p x) lo N∧(oI p x).known≠[] :=
 ⟨⟨rfl,rfl,rfl,rfl,rfl,rfl,rfl,rfl,rfl⟩,rfl,⟨_,hx,.inl ⟨rfl,rfl⟩,.inl rfl,.inl rfl,.inl rfl,.inl rfl⟩,by simp[oI]⟩
theorem tM {i ld N:Nat} (h1:i≤idHigh p ld) (h2:idHigh p ld≤N) (h3:p.s.size=N):Same p (jA E p comp i ld nd last).1∧(jA E p comp i ld nd last).1.nEnd=p.nEnd∧zJ p (jA E p comp i ld nd last).1 i N∧(jA E p comp i ld nd last).1.known≠[]:=by
 have hx:(i:Int)≤((i:Int),(idHigh p ld:Int)).1∧((i:Int),(idHigh p ld:Int)).1≤((i:Int),(idHigh p ld:Int)).2∧((i:Int),(idHigh p ld:Int)).2≤(N:Int):=⟨Int.le_refl _,by show (i:Int)≤(idHigh p ld:Int);omega,by show (idHigh p ld:Int)≤N;omega⟩
 unfold jA;simp only;split
 ·rename_i hw
  have hz:=aDs hw;have e0:(p.s.extract i (idHigh p ld)).size=idHigh p ld - i:=by rw[← eD,eN];have:=eD p.s;simp;omega
  unfold mZ;simp only;split
  ·exact yR hx
  have hin:((p.s.extract i (idHigh p ld)).extract 1 ((p.s.extract i (idHigh p ld)).size - 1)).size=idHigh p ld - i - 2:=by
   rw[e0,← eD,eN,eN];have:=eD p.s;simp;omega
  have hp:=aCv ((p.s.extract i (idHigh p ld)).extract 1 ((p.s.extract i (idHigh p ld)).size - 1));split
  ·rename_i q hq
   exact aDu hq bA bA bA
  exact yR hx
 split
 ·rename_i hk
  exact ⟨⟨rfl,rfl,rfl,rfl,rfl,rfl,rfl,rfl,rfl⟩,rfl,⟨_,hx,.inl ⟨rfl,rfl⟩,.inl rfl,by unfold rJ;simp only;split <;> simp,.inl rfl,.inl rfl⟩,by simp[rJ]⟩
 rename_i hk
 unfold jF;split
 ·exact ⟨⟨rfl,rfl,rfl,rfl,rfl,rfl,rfl,rfl,rfl⟩,rfl,⟨_,hx,.inl ⟨rfl,rfl⟩,.inl rfl,.inl rfl,.inr (by show (0:Int)≤(p.known.length:Int);omega),.inl rfl⟩,dV⟩
 split
 ·exact ⟨⟨rfl,rfl,rfl,rfl,rfl,rfl,rfl,rfl,rfl⟩,rfl,⟨_,hx,.inl ⟨rfl,rfl⟩,.inl rfl,.inr (by show (0:Int)≤(p.known.length:Int);omega),.inl rfl,.inl rfl⟩,dV⟩
 split
 ·exact ⟨⟨rfl,rfl,rfl,rfl,rfl,rfl,rfl,rfl,rfl⟩,rfl,⟨_,hx,.inl ⟨rfl,rfl⟩,.inl rfl,.inl rfl,.inl rfl,.inl rfl⟩,dV⟩
 split
 ·exact ⟨⟨rfl,rfl,rfl,rfl,rfl,rfl,rfl,rfl,rfl⟩,rfl,⟨_,hx,.inl ⟨rfl,rfl⟩,.inl rfl,.inl rfl,.inl rfl,.inl rfl⟩,dV⟩
 split
 ·split
  ·rename_i hl
   exact ⟨⟨rfl,rfl,rfl,rfl,rfl,rfl,rfl,rfl,rfl⟩,rfl,⟨_,hx,.inr (.inl ⟨rfl,by simpa using hl,rfl,rfl,hk,rfl⟩),.inl rfl,.inl rfl,.inl rfl,.inl rfl⟩,by simpa using hk⟩
  exact ⟨⟨rfl,rfl,rfl,rfl,rfl,rfl,rfl,rfl,rfl⟩,rfl,⟨_,hx,.inl ⟨rfl,rfl⟩,.inl rfl,.inl rfl,.inl rfl,.inr ⟨rfl,hk,rfl⟩⟩,dV⟩
 exact ⟨⟨rfl,rfl,rfl,rfl,rfl,rfl,rfl,rfl,rfl⟩,rfl,⟨_,hx,.inr (.inr ⟨rfl,hk,rfl,rfl,rfl⟩),.inl rfl,.inl rfl,.inl rfl,.inl rfl⟩,hk⟩
theorem Fit.grow {q:eE} {lo lo' : Int} {N c:Nat} (h:Fit lo N c p) (g:zJ p q lo' N) (h1:lo'≤lo):Fit lo' N (c+1) q:=by
 obtain ⟨x,hx,hk,hpl,hf,hl,hy⟩:=g;have f1:-1≤q.fmt:=by have:=h.fl;omega
 have f2:-1≤q.lang:=by have:=h.la;omega
 have f3:q.plangs.length≤c+1:=by have:=h.ll;rcases hpl with e | ⟨y,e⟩ <;> rw[e] <;> simp <;> omega
 have h':=h.more h1 (Nat.le_refl c);rcases hk with ⟨e1,e2⟩ | ⟨e1,e3,e4,_,_,e2⟩ | ⟨e1,e3,e4,_,e2⟩
 ·refine ⟨by rw[e1];exact aAb h'.kn hx,by rw[e2];exact h'.un,by rw[e1];have:=h.kl;simp;omega,by rw[e2];have:=h.ul;omega,f3,f1,f2,?_⟩;rw[e1];rcases hy with hy | ⟨hy,hne,_⟩
  ·rw[hy];have:=h.ly;simp;omega
  have:=List.length_pos_iff.2 hne;rw[hy];simp;omega
 ·have hl1:=h.ly;have hly:1≤p.lay∧p.lay < p.known.length:=by omega
  refine ⟨by rw[e1];exact aIx h'.kn hx,?_,by rw[e1];have:=h.kl;simp;omega,by rw[e2];have:=h.ul;simp;omega,f3,f1,f2,by rw[e1,e4];simpa using h.ly⟩;rw[e2];refine aAb h'.un ?_;have:p.lay.toNat < p.known.length:=by omega
  rw[List.getD_eq_getElem?_getD,List.getElem?_eq_getElem this];exact h'.kn _ (List.getElem_mem this)
 refine ⟨by rw[e1];exact h'.kn,by rw[e2];exact aAb h'.un hx,by rw[e1];have:=h.kl;omega,by rw[e2];have:=h.ul;simp;omega,f3,f1,f2,by rw[e1,e4];exact h.ly⟩
theorem zJ.head {q:eE} {lo:Int} {N c:Nat} {lo0:Int} (h:Fit lo0 N c p) (g:zJ p q lo N) (y:Int×Int) (hy:q.known[0]? = some y):(p.known=[]∧lo≤y.1)∨(p.known≠[]∧p.known[0]? = some y):=by
 obtain ⟨x,hx,hk,_⟩:=g;rcases hk with ⟨e1,_⟩ | ⟨e1,e3,_,_,e5,_⟩ | ⟨e1,e3,_⟩
 ·rw[e1] at hy
  cases hp:p.known with
  | nil=>rw[hp] at hy;simp at hy;subst hy;exact .inl ⟨rfl,hx.1⟩
  | cons a r=>rw[hp] at hy;simp at hy;subst hy;exact .inr ⟨dV,dV⟩
 ·have hl1:=h.ly;have hly:1≤p.lay∧p.lay < p.known.length:=by omega
  rw[e1,List.getElem?_set_ne bA] at hy;exact .inr ⟨e5,hy⟩
 rw[e1] at hy;exact .inr ⟨e3,hy⟩
end
structure In1 (s comp:ByteArray) (i:Nat) (d:DoV):Prop where
 hs:d.p.s=s
 hc:d.p.comp=comp
 ht:d.p.trim=false
 c1:d.p.cHigh = -1
 c2:d.p.cLow = -1
 c3:d.p.sec = -1
 sc:d.sc=0
 fit:Fit ((i:Int)+1) s.size (s.size - i) d.p
 ld:(d.p.known=[]∧d.ld=0)∨(d.p.known≠[]∧i≤d.ld∧0 < d.ld∧d.ld < s.size)
 ne:d.p.nEnd = -1∨((i:Int)≤d.p.nEnd∧d.p.nEnd < s.size)
 ns:∀ j,i≤j→s.data.toList[j]?≠some 47
structure In2 (s comp:ByteArray) (i:Nat) (d:DoV):Prop where
 hs:d.p.s=s
 hc:d.p.comp=comp
 ht:d.p.trim=false
 ch:(i:Int)+1≤d.p.cHigh∧d.p.cHigh≤s.size
 cl:d.p.cLow = -1∨((i:Int)+1≤d.p.cLow∧d.p.cLow≤d.p.cHigh - 1)
 se:d.p.sec≤s.size
 fit:Fit 1 s.size s.size d.p
 k0:∀ x,d.p.known[0]? = some x→d.p.cHigh≤x.1 - 1
 ne:d.p.nEnd≤s.size
 sc:d.sc≤s.size - i
section
variable {E:Env} {s comp:ByteArray} {sk:List Nat} {nd:Int} {i:Nat} {d:DoV}
theorem qB (r:eE×Bool) (i ld:Nat) (last:Bool):∃ e:Int,mL r i ld last = { r.1 with nEnd:=e }∧(e=r.1.nEnd∨(last=false∧e=i)∨(last=true∧e=ld)):=by
 unfold mL;split
 ·split
  ·rename_i h
   split
   ·exact ⟨_,rfl,.inr (.inr ⟨h,rfl⟩)⟩
   exact ⟨_,rfl,.inl rfl⟩
  rename_i h
  exact ⟨_,rfl,.inr (.inl ⟨by simpa using h,rfl⟩)⟩
 exact ⟨_,rfl,.inl rfl⟩
theorem Fit.nEnd {p:eE} {lo:Int} {N c:Nat} (h:Fit lo N c p) (e:Int):Fit lo N c { p with nEnd:=e }:=⟨h.kn,h.un,h.kl,h.ul,h.ll,h.fl,h.la,h.ly⟩
theorem uV {p:eE} {ld:Nat} {last:Bool} (h:p.cHigh = -1):mId E p comp i ld nd last=mL (jA E p comp (i+1) ld nd last) i ld last:=by
 unfold mId;rw[h];rfl
theorem xP {p:eE} {ld:Nat} {last:Bool} (h:p.cHigh≠-1):mId E p comp i ld nd last=p:=by
 unfold mId;rw[if_pos (by simpa using h)]
theorem In1.high (h:In1 s comp (i+1) d) (hi:i < s.size):i+1≤idHigh d.p d.ld∧idHigh d.p d.ld≤s.size:=by
 have e:=h.hs;unfold idHigh;rcases h.ld with ⟨h1,h2⟩ | ⟨h1,h2,h3,h4⟩
 ·rw[if_pos h1,e];omega
 rw[if_neg h1];omega
theorem In1.pathIn (h:In1 s comp i d) (hz:s.size≤1000000):PathIn d.p:=by
 have f:=h.fit;refine ⟨by rw[h.hs];exact hz,fun x hx=>?_,fun x hx=>?_,by have:=f.kl;omega,by have:=f.ul;omega,by have:=f.ll;omega⟩
 ·have:=f.kn x hx;rw[h.hs];omega
 have:=f.un x hx;rw[h.hs];omega
theorem In1.word (h:In1 s comp (i+1) d) (hi:i < s.size) (last:Bool):∃ e:Int,∃ q:eE,mId E d.p comp i d.ld nd last = { q with nEnd:=e }∧Same d.p q∧Fit ((i:Int)+1) s.size (s.size - i) q∧q.known≠[]∧(∀ y,q.known[0]? = some y→(d.p.known=[]∧(i:Int)+1≤y.1)∨(d.p.known≠[]∧d.p.known[0]? = some y))∧(e=d.p.nEnd∨(last=false∧e=i)∨(last=true∧e=d.ld)):=by
 obtain ⟨h1,h2⟩:=h.high hi;obtain ⟨g1,g2,g3,g4⟩:=tM (E:=E) (p:=d.p) (comp:=comp) (nd:=nd) (last:=last) (N:=s.size) h1 h2 (by rw[h.hs]);rw[uV h.c1];obtain ⟨e,he,hee⟩:=qB (jA E d.p comp (i+1) d.ld nd last) i d.ld last;rw[g2] at hee;refine ⟨e,_,he,g1,?_,g4,fun y hy=>?_,hee⟩
 ·have hf:=h.fit.grow g3 bA;have:s.size - (i+1)+1=s.size - i:=by omega
  rw[this] at hf
  simpa using hf
 have:=g3.head h.fit y hy
 simpa using this
theorem In1.step (h:In1 s comp (i+1) d) (hi:i < s.size) (h0:s.data.toList[0]? = some 47):In1 s comp i (iL E comp sk nd i d)∨In2 s comp i (iL E comp sk nd i d):=by
 unfold iL;rw[h.hs];have hf:Fit ((i:Int)+1) s.size (s.size - i) d.p:=h.fit.more bA bA;have hld:(d.p.known=[]∧d.ld=0)∨(d.p.known≠[]∧i≤d.ld∧0 < d.ld∧d.ld < s.size):=h.ld.imp id (fun ⟨a,b,c⟩=>⟨a,aM,c⟩);have hen:d.p.nEnd = -1∨((i:Int)≤d.p.nEnd∧d.p.nEnd < s.size):=h.ne.imp id (fun ⟨a,b⟩=>⟨aM,b⟩);split
 ·rename_i hc
  have hne:i≠0:=by rintro rfl;rw[hc] at h0;cases h0
  have hns:∀ j,i≤j→s.data.toList[j]?≠some 47:=by
   intro j hj
   by_cases e:j=i
   ·subst e;rw[hc];intro h;cases h
   exact h.ns j bA
  left;split
  ·exact ⟨h.hs,h.hc,h.ht,h.c1,h.c2,h.c3,h.sc,hf,hld,hen,hns⟩
  obtain ⟨e,q,hq,g1,g2,g3,g4,g5⟩:=h.word (E:=E) (comp:=comp) (nd:=nd) hi false;rw[hq];refine ⟨g1.s.trans h.hs,g1.comp.trans h.hc,g1.trim.trans h.ht,g1.cHigh.trans h.c1,g1.cLow.trans h.c2,g1.sec.trans h.c3,h.sc,g2.nEnd e,.inr ⟨g3,Nat.le_refl _,by show 0 < i;omega,hi⟩,?_,hns⟩;show e = -1∨((i:Int)≤e∧e < s.size);rcases g5 with g5 | ⟨_,g5⟩ | ⟨g5,_⟩
  ·rw[g5];exact hen
  ·right;omega
  cases g5
 split
 ·rename_i hc
  right;rw[if_pos h.c1]
  obtain ⟨q,hq,hf2,hk⟩:∃ q:eE,(if 0 < d.ld then mId E d.p comp i d.ld nd true else d.p)=q∧(q.s=s∧q.comp=comp∧q.trim=false∧q.cLow = -1∧q.sec = -1∧q.nEnd≤s.size∧Fit ((i:Int)+1) s.size (s.size - i) q)∧∀ y,q.known[0]? = some y→(i:Int)+2≤y.1:=by
   refine ⟨_,rfl,?_⟩;have hne:=h.ne;split
   ·rename_i hl
    obtain ⟨e,q,hq,g1,g2,g3,g4,g5⟩:=h.word (E:=E) (comp:=comp) (nd:=nd) hi true;rw[hq];refine ⟨⟨g1.s.trans h.hs,g1.comp.trans h.hc,g1.trim.trans h.ht,g1.cLow.trans h.c2,g1.sec.trans h.c3,?_,g2.nEnd e⟩,?_⟩
    ·show e≤s.size;rcases g5 with g5 | ⟨g5,_⟩ | ⟨_,g5⟩
     ·omega
     ·cases g5
     rcases hld with ⟨_,e3⟩ | ⟨_,_,_,e3⟩ <;> omega
    intro y hy;rcases g4 y hy with ⟨e1,_⟩ | ⟨e1,e2⟩
    ·rcases hld with ⟨_,e3⟩ | ⟨e3,_⟩
     ·omega
     exact absurd e1 e3
    have:=h.fit.kn y (List.mem_of_getElem? e2);omega
   refine ⟨⟨h.hs,h.hc,h.ht,h.c2,h.c3,aM,hf⟩,fun y hy=>?_⟩;have:=h.fit.kn y (List.mem_of_getElem? hy);omega
  rw[hq];obtain ⟨f1,f2,f3,f4,f5,f6,f7⟩:=hf2;have hfit:Fit 1 s.size s.size q:=f7.more bA bA;have hsz:((i:Int)+1)≤s.size:=by omega
  have hk2:∀ x,q.known[0]? = some x→((i:Int)+1)≤x.1 - 1:=fun x hx=>by have:=hk x hx;omega
  have hsc:d.sc+1≤s.size - i:=by rw[h.sc];omega
  split
  ·exact ⟨f1,f2,f3,⟨by show (i:Int)+1≤((i:Int)+1);omega,hsz⟩,.inl f4,by show (i:Int)≤s.size;omega,⟨hfit.kn,hfit.un,hfit.kl,hfit.ul,hfit.ll,hfit.fl,hfit.la,hfit.ly⟩,hk2,f6,hsc⟩
  exact ⟨f1,f2,f3,⟨by show (i:Int)+1≤((i:Int)+1);omega,hsz⟩,.inl f4,by show q.sec≤s.size;rw[f5];omega,⟨hfit.kn,hfit.un,hfit.kl,hfit.ul,hfit.ll,hfit.fl,hfit.la,hfit.ly⟩,hk2,f6,hsc⟩
 rename_i hc1 hc2
 left;refine ⟨h.hs,h.hc,h.ht,h.c1,h.c2,h.c3,h.sc,hf,hld,hen,fun j hj=>?_⟩
 by_cases e:j=i
 ·subst e;exact hc2
 exact h.ns j bA
theorem In2.step (h:In2 s comp (i+1) d) (hi:i < s.size):In2 s comp i (iL E comp sk nd i d):=by
 have hch:d.p.cHigh≠-1:=by have:=h.ch;omega
 have b:In2 s comp i d:=⟨h.hs,h.hc,h.ht,by have:=h.ch;omega,by have:=h.cl;omega,h.se,h.fit,h.k0,h.ne,by have:=h.sc;omega⟩
 unfold iL;rw[h.hs];split
 ·split
  ·exact b
  rw[xP hch];exact ⟨b.hs,b.hc,b.ht,b.ch,b.cl,b.se,b.fit,b.k0,b.ne,b.sc⟩
 split
 ·have f:=h.fit;have hsc:d.sc+1≤s.size - i:=by have:=h.sc;omega
  have h1:=h.ch;have h2:=h.cl;split
  ·split
   ·exact ⟨h.hs,h.hc,h.ht,b.ch,.inr ⟨by show (i:Int)+1≤((i:Int)+1);omega,by show ((i:Int)+1)≤d.p.cHigh - 1;omega⟩,by show (i:Int)≤s.size;omega,⟨f.kn,f.un,f.kl,f.ul,f.ll,f.fl,f.la,f.ly⟩,h.k0,h.ne,hsc⟩
   exact ⟨h.hs,h.hc,h.ht,b.ch,.inr ⟨by show (i:Int)+1≤((i:Int)+1);omega,by show ((i:Int)+1)≤d.p.cHigh - 1;omega⟩,h.se,⟨f.kn,f.un,f.kl,f.ul,f.ll,f.fl,f.la,f.ly⟩,h.k0,h.ne,hsc⟩
  split
  ·exact ⟨h.hs,h.hc,h.ht,b.ch,b.cl,by show (i:Int)≤s.size;omega,⟨f.kn,f.un,f.kl,f.ul,f.ll,f.fl,f.la,f.ly⟩,h.k0,h.ne,hsc⟩
  exact ⟨h.hs,h.hc,h.ht,b.ch,b.cl,h.se,f,h.k0,h.ne,hsc⟩
 exact b
def InD (s comp:ByteArray) (i:Nat) (d:DoV):Prop:=In1 s comp i d∨In2 s comp i d
theorem InD.text (h:InD s comp i d):d.p.s=s:=by rcases h with h | h <;> exact h.hs
theorem InD.scs (h:InD s comp i d):d.sc≤s.size:=by
 rcases h with h | h
 ·rw[h.sc];omega
 have:=h.sc;omega
theorem InD.step (h:InD s comp (i+1) d) (hi:i < s.size) (h0:s.data.toList[0]? = some 47):InD s comp i (iL E comp sk nd i d):=by
 rcases h with h | h
 ·exact h.step hi h0
 exact .inr (h.step hi)
theorem InD.loop (h0:s.data.toList[0]? = some 47):∀ (i:Nat) (d:DoV),i≤s.size→InD s comp i d→InD s comp 0 (iY E comp sk nd i d)
 | 0,_,_,h=>h
 | i+1,d,hi,h=>by
  unfold iY;exact InD.loop h0 i _ bA (h.step bA h0)
theorem InD.last (h:InD s comp 0 d) (h0:s.data.toList[0]? = some 47):In2 s comp 0 d:=by
 rcases h with h | h
 ·exact absurd h0 (h.ns 0 (Nat.le_refl _))
 exact h
theorem In1.start {p:eE} (hs:p.s=s) (hc:p.comp=comp) (ht:p.trim=false) (c1:p.cHigh = -1) (c2:p.cLow = -1) (c3:p.sec = -1) (k:p.known=[]) (u:p.unknown=[]) (l:p.plangs=[]) (f:p.fmt = -1) (la:p.lang = -1) (ly:p.lay = -1) (ne:p.nEnd = -1):In1 s comp s.size ⟨p,0,0⟩ :=
 ⟨hs,hc,ht,c1,c2,c3,rfl,⟨(by rw[show (⟨p,0,0⟩:DoV).p.known=[] from k];intro x hx;cases hx),(by rw[show (⟨p,0,0⟩:DoV).p.unknown=[] from u];intro x hx;cases hx),by rw[show (⟨p,0,0⟩:DoV).p.known=[] from k];exact Nat.zero_le _,by rw[show (⟨p,0,0⟩:DoV).p.unknown=[] from u];exact Nat.zero_le _,by rw[show (⟨p,0,0⟩:DoV).p.plangs=[] from l];exact Nat.zero_le _,by show -1≤p.fmt;omega,by show -1≤p.lang;omega,.inl ly⟩,.inl ⟨k,rfl⟩,.inl ne,fun j hj=>by rw[List.getElem?_eq_none (by rw[show s.data.toList.length=s.size from eD s];exact hj)];intro h;cases h⟩
theorem In2.fin (h:In2 s comp 0 d) (hz:s.size≤1000000):hU (sI E comp d)∧-1≤(sI E comp d).fmt∧-1≤(sI E comp d).lang:=by
 have a1:hU (gD d.p)∧-1≤(gD d.p).fmt∧-1≤(gD d.p).lang:=by
  have f:=h.fit;have hh:=h.ch;have hcl:=h.cl;have hse:=h.se;have hne:=h.ne;refine ⟨⟨⟨by show d.p.s.size≤_;rw[h.hs];exact hz,fun x hx=>?_,fun x hx=>?_,by have:=f.kl;show d.p.known.length≤_;omega,by have:=f.ul;show d.p.unknown.length≤_;omega,by have:=f.ll;show d.p.plangs.length≤_;omega⟩,?_,?_,?_,h.k0,?_⟩,f.fl,f.la⟩
  ·have:=f.kn x hx;show 1≤x.1∧x.1≤x.2∧x.2≤(d.p.s.size:Int);rw[h.hs];exact this
  ·have:=f.un x hx;show 0≤x.1∧x.1≤x.2∧x.2≤(d.p.s.size:Int);rw[h.hs];omega
  ·show 1≤d.p.cHigh∧d.p.cHigh≤(d.p.s.size:Int);rw[h.hs];omega
  ·show d.p.cLow = -1∨(1≤d.p.cLow∧d.p.cLow≤d.p.cHigh - 1);omega
  ·show d.p.sec≤(d.p.s.size:Int);rw[h.hs];exact hse
  show 0≤d.p.cHigh∧d.p.cHigh≤(if d.p.cHigh≤d.p.nEnd then d.p.nEnd else (d.p.s.size:Int))∧(if d.p.cHigh≤d.p.nEnd then d.p.nEnd else (d.p.s.size:Int))≤(d.p.s.size:Int);rw[h.hs];split <;> omega
 have turn:∀ (p q:eE),(hU p∧-1≤p.fmt∧-1≤p.lang)→(∃ t c l,q = { p with typ:=t,sec:=c,lay:=l }∧(c=p.sec∨c=0))→(hU q∧-1≤q.fmt∧-1≤q.lang):=by
  rintro p q ⟨o,h1,h2⟩ ⟨t,c,l,rfl,hc⟩;exact ⟨⟨⟨o.sz,o.kn,o.un,o.kl,o.ul,o.ll⟩,o.ch,o.cl,by show c≤(p.s.size:Int);have:=o.se;omega,o.k0,o.na⟩,h1,h2⟩
 have a2:∀ p,∃ t c l,iA E d.sc p = { p with typ:=t,sec:=c,lay:=l }∧(c=p.sec∨c=0):=by
  intro p;unfold iA;simp only
  repeat' split
  all_goals first | exact ⟨_,_,_,rfl,.inl rfl⟩ | exact ⟨_,_,_,rfl,.inr rfl⟩
 have a3:∀ p,∃ t c l,kQ comp p = { p with typ:=t,sec:=c,lay:=l }∧(c=p.sec∨c=0):=by
  intro p;unfold kQ
  repeat' split
  all_goals exact ⟨_,_,_,rfl,.inl rfl⟩
 have a4:∀ p,∃ t c l,lP p = { p with typ:=t,sec:=c,lay:=l }∧(c=p.sec∨c=0):=by
  intro p;unfold lP
  repeat' split
  all_goals exact ⟨_,_,_,rfl,.inl rfl⟩
 exact turn _ _ (turn _ _ (turn _ _ a1 (a2 _)) (a3 _)) (a4 _)
end
end Go.Proofs.YtlkoeeccebmjmaaGreatDoor.Path
namespace Go.Proofs.YtlkoeeccebmjmaaGreatDoor.Base
open Go.RowKit Go.ZW.PrintWords
def Bytes (w:World) (B:Nat) (xs:List UInt8):Prop :=
 ∀ j (h:j < xs.length),w.cell? ⟨B,j,none⟩=some (.int .u8 ((xs[j]'h).toNat:Int))∧w.frozen? ⟨B,j,none⟩=false
theorem Bytes.set {w:World} {B:Nat} {xs:List UInt8} (H:Bytes w B xs) (k:Nat) (v:UInt8) (hk:k < xs.length) :
 Bytes (w.setCell ⟨B,k,none⟩ (.int .u8 (v.toNat:Int))) B (xs.set k v):=by
 intro j hj;have hj' : j < xs.length:=by simpa using hj
 rw[World.frozen?_setCell];refine ⟨?_,(H j hj').2⟩
 by_cases e:j=k
 ·subst e;rw[World.cell?_setCell_same _ _ _ (H j hj').1]
  simp
 rw[World.cell?_setCell_other _ _ _ _ (by intro h;injection h with _ h;exact e h.symm),(H j hj').1];rw[List.getElem_set_ne (fun h=>e h.symm)]
theorem rG (w:World) (e:TypeId) (s:ByteArray):Bytes (Lib.bytesWorld w e s) w.heap.size (L s):=by
 intro j hj;have hl:j < s.size:=by rw[← eD];exact hj
 refine ⟨?_,?_⟩
 ·rw[Lib.bytesWorld_cell w e s j hl];unfold L at hj
  simp[L,List.getD_eq_getElem?_getD,List.getElem?_eq_getElem hj]
 have h:=Lib.bytesWorld_at_new w e s
 have hc:j < (Lib.bytesCells w e s).size:=by
  simp only[Lib.bytesCells,Array.size_append,Array.size_map,Array.size_replicate];have:s.data.size=s.size:=rfl;omega
 simp only[World.frozen?,h]
 simp
 omega
theorem bytesWorld_below (w:World) (e:TypeId) (s:ByteArray):Below w.heap.size w (Lib.bytesWorld w e s) where
 os:=rfl
 tape:=rfl
 output:=rfl
 size:=by rw[Lib.bytesWorld_size];omega
 block:=fun k hk=>Lib.bytesWorld_at_old w e s k hk
def mid (f:UInt8→UInt8) (k:Nat) (l:List UInt8):List UInt8:=(l.take k).map f++l.drop k
theorem mid_zero (f:UInt8→UInt8) (l:List UInt8):mid f 0 l=l:=by simp[mid]
theorem aEk (f:UInt8→UInt8) (l:List UInt8):mid f l.length l=l.map f:=by simp[mid]
theorem qS (f:UInt8→UInt8) (k:Nat) (l:List UInt8) (h:k≤l.length):(mid f k l).length=l.length:=by simp[mid];omega
theorem yU (f:UInt8→UInt8) (k:Nat) (l:List UInt8) (hk:k≤l.length) (j:Nat):(mid f k l)[j]? = if j < k then (l[j]?).map f else l[j]?:=by
 unfold mid
 by_cases h:j < k
 ·rw[if_pos h,List.getElem?_append_left (by simp;omega),List.getElem?_map,List.getElem?_take_of_lt h]
 rw[if_neg h,List.getElem?_append_right (by simp;omega),List.getElem?_drop];congr 1
 simp
 omega
theorem aEl (f:UInt8→UInt8) (k:Nat) (l:List UInt8) (h:k < l.length) (h' : k < (mid f k l).length):(mid f k l)[k]=l[k]:=by
 have e:=yU f k l bA k;rw[if_neg bA,List.getElem?_eq_getElem h',List.getElem?_eq_getElem h] at e;exact Option.some.inj e
theorem aAc (f:UInt8→UInt8) (k:Nat) (l:List UInt8) (h:k < l.length) (v:UInt8) (hv:v=f l[k]):(mid f k l).set k v=mid f (k+1) l:=by
 subst hv;apply List.ext_getElem?;intro j;rw[List.getElem?_set,yU f k l bA j,yU f (k+1) l bA j,qS f k l bA]
 by_cases e:k=j
 ·subst e;rw[if_pos rfl,if_pos h,if_pos bA,List.getElem?_eq_getElem h,Option.map_some]
 rw[if_neg e]
 by_cases h2:j < k
 ·rw[if_pos h2,if_pos bA]
 rw[if_neg h2,if_neg bA]
theorem xQ (f:UInt8→UInt8) (k:Nat) (l:List UInt8) (h:k < l.length) (e:f l[k]=l[k]):mid f (k+1) l=mid f k l:=by
 rw[← aAc f k l h _ rfl,e];apply List.ext_getElem?;intro j;rw[List.getElem?_set,qS f k l bA]
 by_cases e:k=j
 ·subst e;rw[if_pos rfl,if_pos h,yU f k l bA k,if_neg bA,List.getElem?_eq_getElem h]
 rw[if_neg e]
theorem uJ {P:Program} {w:World} {src dst e:TypeId} {B n c:Nat} {xs:List UInt8} (hs:P.underlying src=some (.slice e)) (he:P.underlying e=some (.int .u8)) (hd:P.underlying dst=some .string)
 (H:Bytes w B xs) (hn:xs.length=n) (hm:n≤9223372036854775807):(convert src dst (.slice (some ⟨B,0,none⟩) n c)).run P w = .ok (.string ⟨xs.toArray⟩) w:=by
 have hr:iX w .u8 (some ⟨B,0,none⟩) n (xs.map fun b=>(b.toNat:Int)):=by
  refine ⟨by simpa using hn,hm,fun _=>⟨_,rfl,fun j hj=>?_⟩⟩;have hj' : j < xs.length:=by omega
  have:=(H j hj').1;have e0:(⟨B,0,none⟩:Addr).add j=⟨B,j,none⟩:=by simp[Addr.add];intro h;exact h.symm
  rw[e0];simp only[List.getD_eq_getElem?_getD,List.getElem?_map,List.getElem?_eq_getElem hj',Option.map_some,Option.getD_some];exact this
 rw[zB hs he hd hr]
 have e:(strOfNums (xs.map fun b=>(b.toNat:Int)))=⟨xs.toArray⟩:=by
  unfold strOfNums;rw[List.map_map];congr 2
  conv=>rhs;rw[← List.map_id xs]
  refine List.map_congr_left fun b _=>?_
  simp
 rw[e]
end Go.Proofs.YtlkoeeccebmjmaaGreatDoor.Base

namespace Go.Proofs.YtlkoeeccebmjmaaGreatDoor.Lower
open Go.RowKit Go.ZW.PrintWords Go.Proofs.YtlkoeeccebmjmaaGreatDoor.Base
def jI (c:UInt8):UInt8:=if 65≤c.toNat∧c.toNat≤90 then c+32 else c
theorem aHo (c:UInt8) (h:65≤c.toNat∧c.toNat≤90):((jI c).toNat:Int)=(c.toNat:Int)+32:=by
 unfold jI;rw[if_pos h,UInt8.toNat_add];have:(32:UInt8).toNat=32:=rfl;omega
theorem aAp (c:UInt8) (h:¬ (65≤c.toNat∧c.toNat≤90)):jI c=c:=by unfold jI;rw[if_neg h]
def low (s:ByteArray):ByteArray:=⟨((L s).map jI).toArray⟩
theorem rT (s:ByteArray):L (low s)=(L s).map jI:=jQ _
theorem lower_calls (s:ByteArray) (w:World) (hs:s.size≤140737488355328) :
 Calls Tryz.prog 123 #[.string s] w fun e w'=>e = .returned (.string (low s))∧Below w.heap.size w w':=by
 have hl:=eD s;have hcv:=fun (W:World)=>Lib.run_convert_string_bytes (P:=Tryz.prog) W 9 108 5 s Tryz.underlying9 Tryz.underlying108 Tryz.underlying5;go_enter Tryz.func123,Tryz.ntmps123;go_wp2
 go_loopw [4] (fun i wr=>∃ k:Nat,k≤s.size∧i = .int .i64 k∧Aside0 (Bytes wr w.heap.size (mid jI k (L s)))∧Aside0 (Below w.heap.size w wr)) (fun i _=>s.size - (intOf i).toNat)
 case atStart=>exact ⟨0,Nat.zero_le _,rfl,⟨by rw[mid_zero];exact rG w _ s⟩,⟨bytesWorld_below w _ s⟩⟩
 case round =>
  obtain ⟨k,hk,rfl,HB,HW⟩:=hrel
  by_cases hlt:k < s.size
  ·have hk1:k < (L s).length:=by omega
   have hk2:k < (mid jI k (L s)).length:=by rw[qS _ _ _ bA];exact hk1
   obtain ⟨c,hc⟩:∃ c,(L s)[k]=c:=⟨_,rfl⟩
   have hg:(mid jI k (L s))[k]=c:=by rw[aEl _ _ _ hk1,hc]
   have hcell:=(HB.out k hk2).1;have hfr:=(HB.out k hk2).2;rw[hg] at hcell;have HC:=bW hc;clear hc hg;have hr:c.toNat < 256:=c.toNat_lt
   by_cases h1:65≤c.toNat
   ·by_cases h2:c.toNat≤90
    ·have b1:65≤(c.toNat:Int):=by omega
     have b2:(c.toNat:Int)≤90:=by omega
     go_wp2
     go_roundw
     case rel =>
      refine ⟨k+1,aM,aZ,⟨?_⟩,⟨HW.out.setCell bJ _⟩⟩;have hs2:=HB.out.set k (jI c) hk2;rw[aHo c ⟨h1,h2⟩,aAc jI k (L s) hk1 (jI c) (by rw[HC.out])] at hs2;exact hs2
     case measure=>simp[intOf];omega
    have b1:65≤(c.toNat:Int):=by omega
    have b2:¬ ((c.toNat:Int)≤90):=by omega
    have hst:jI c=c:=aAp c bA;have HS:=bW (xQ jI k (L s) hk1 (by rw[HC.out,hst]));clear hst;go_wp2
    go_roundw
    case rel=>exact ⟨k+1,aM,aZ,⟨by rw[HS.out];exact HB.out⟩,HW⟩
    case measure=>simp[intOf];omega
   have b1:¬ (65≤(c.toNat:Int)):=by omega
   have hst:jI c=c:=aAp c bA;have HS:=bW (xQ jI k (L s) hk1 (by rw[HC.out,hst]));clear hst;go_wp2
   go_roundw
   case rel=>exact ⟨k+1,aM,aZ,⟨by rw[HS.out];exact HB.out⟩,HW⟩
   case measure=>simp[intOf];omega
  obtain rfl:k=s.size:=by omega
  have HB2:Bytes wr w.heap.size ((L s).map jI):=by have:=HB.out;rw[← hl,aEk] at this;exact this
  have hstr:=fun c=>uJ (P:=Tryz.prog) (w:=wr) (src:=108) (dst:=9) (e:=5) (c:=c) (n:=s.size) Tryz.underlying108 Tryz.underlying5 Tryz.underlying9 HB2 (by simpa using hl) bA;clear HB;have HB3:=bW HB2;clear HB2;go_wp2;go_ret;exact ⟨rfl,HW.out⟩
def lN (c:UInt8):UInt8:=if c=32 then 45 else c
def hyp (s:ByteArray):ByteArray:=⟨((L s).map lN).toArray⟩
theorem aEs (s:ByteArray):L (hyp s)=(L s).map lN:=jQ _
def norm (s:ByteArray):ByteArray:=hyp (low s)
theorem aF1 (s:ByteArray):L (norm s)=(L s).map fun c=>lN (jI c):=by
 unfold norm;rw[aEs,rT,List.map_map];rfl
theorem pQ (s:ByteArray):(low s).size=s.size:=by rw[← eD,rT,List.length_map,eD]
theorem aHi (s:ByteArray):(hyp s).size=s.size:=by rw[← eD,aEs,List.length_map,eD]
theorem norm_size (s:ByteArray):(norm s).size=s.size:=by unfold norm;rw[aHi,pQ]
theorem yV (s0:ByteArray) (w0:World) (hs0:s0.size≤140737488355328) :
 Calls Tryz.prog 118 #[.string s0] w0 fun e w'=>e = .returned (.string (norm s0))∧Below w0.heap.size w0 w':=by
 obtain ⟨s,he⟩:∃ s,low s0=s:=⟨_,rfl⟩
 have hs:s.size≤140737488355328:=by rw[← he,pQ];exact hs0
 have hn:norm s0=hyp s:=by unfold norm;rw[he]
 have HN:=bW hn;have HE:=bW he;clear hn he;have hl:=eD s;have hcv:=fun (W:World)=>Lib.run_convert_string_bytes (P:=Tryz.prog) W 9 108 5 s Tryz.underlying9 Tryz.underlying108 Tryz.underlying5;go_enter Tryz.func118,Tryz.ntmps118;go_wp2_with fail
 (with_reducible refine (lower_calls s0 _ hs0).mono ?_)
 rw[HE.out];rintro e w ⟨rfl,HW0⟩;have HW0:=bW HW0;go_wp2_with fail
 go_loopw [4] (fun i wr=>∃ k:Nat,k≤s.size∧i = .int .i64 k∧Aside0 (Bytes wr w.heap.size (mid lN k (L s)))∧Aside0 (Below w.heap.size w wr)) (fun i _=>s.size - (intOf i).toNat)
 case atStart=>exact ⟨0,Nat.zero_le _,rfl,⟨by rw[mid_zero];exact rG w _ s⟩,⟨bytesWorld_below w _ s⟩⟩
 case round =>
  obtain ⟨k,hk,rfl,HB,HW⟩:=hrel
  by_cases hlt:k < s.size
  ·have hk1:k < (L s).length:=by omega
   have hk2:k < (mid lN k (L s)).length:=by rw[qS _ _ _ bA];exact hk1
   obtain ⟨c,hc⟩:∃ c,(L s)[k]=c:=⟨_,rfl⟩
   have hg:(mid lN k (L s))[k]=c:=by rw[aEl _ _ _ hk1,hc]
   have hcell:=(HB.out k hk2).1;have hfr:=(HB.out k hk2).2;rw[hg] at hcell;have HC:=bW hc;clear hc hg;have hr:c.toNat < 256:=c.toNat_lt;have h32:((c.toNat:Int)=32)↔c=32:=tS c 32 bA
   by_cases h1:c=32
   ·have b1:((c.toNat:Int)==32)=true:=beq_iff_eq.2 (h32.2 h1);have HV:=bW (show lN c=45 by unfold lN;rw[if_pos h1]);clear h32 h1;go_wp2_with fail
    go_roundw
    case rel =>
     refine ⟨k+1,aM,aZ,⟨?_⟩,⟨HW.out.setCell bJ _⟩⟩;have hs2:=HB.out.set k (lN c) hk2;rw[aAc lN k (L s) hk1 (lN c) (by rw[HC.out]),HV.out] at hs2;exact hs2
    case measure=>simp[intOf];omega
   have b1:((c.toNat:Int)==32)=false:=beq_eq_false_iff_ne.2 (fun h=>h1 (h32.1 h));have hst:lN c=c:=by unfold lN;rw[if_neg h1]
   have HS:=bW (xQ lN k (L s) hk1 (by rw[HC.out,hst]));clear hst h32 h1;go_wp2_with fail
   go_roundw
   case rel=>exact ⟨k+1,aM,aZ,⟨by rw[HS.out];exact HB.out⟩,HW⟩
   case measure=>simp[intOf];omega
  obtain rfl:k=s.size:=by omega
  have HB2:Bytes wr w.heap.size ((L s).map lN):=by have:=HB.out;rw[← hl,aEk] at this;exact this
  have hstr:=fun c=>uJ (P:=Tryz.prog) (w:=wr) (src:=108) (dst:=9) (e:=5) (c:=c) (n:=s.size) Tryz.underlying108 Tryz.underlying5 Tryz.underlying9 HB2 (by simpa using hl) bA;clear HB;have HB3:=bW HB2;clear HB2;go_wp2_with fail
  go_ret;exact ⟨by rw[HN.out];rfl,pF HW0.out HW0.out.size HW.out⟩
end Go.Proofs.YtlkoeeccebmjmaaGreatDoor.Lower
namespace Go.Proofs.YtlkoeeccebmjmaaGreatDoor.Path
open Go.RowKit Go.ZW.PrintWords Go.Proofs.YtlkoeeccebmjmaaGreatDoor.Base Go.Proofs.YtlkoeeccebmjmaaGreatDoor.Lower
def pathOf (s:ByteArray) (own:Bool):ByteArray:=⟨(gY (L (if own then s else norm s))).toArray⟩
theorem pathOf_calls (s:ByteArray) (own:Bool) (w:World) (hs:s.size≤140737488350000) :
 Calls Tryz.prog 53 #[.string s,.bool own] w fun e w'=>e = .returned (.string (pathOf s own))∧Below w.heap.size w w':=by
 obtain ⟨m,hm⟩:∃ m,(if own then s else norm s)=m:=⟨_,rfl⟩
 have hms:m.size≤140737488350000:=by rw[← hm];cases own <;> simp[norm_size] <;> exact hs
 have hp:pathOf s own=⟨(gY (L m)).toArray⟩:=by unfold pathOf;rw[hm]
 rw[hp];have HM:=bW hm;clear hm hp;go_enter Tryz.func53,Tryz.ntmps53;go_upto_if 6 with fail
 go_cut [0] from 7 to 8 (fun s0 wx=>s0 = .string m∧Aside0 (Below w.heap.size w wx))
 case first =>
  cases own
  ·have c:=yV s w bA;rw[show norm s=m from HM.out] at c;go_wp2_with fail
   refine c.mono ?_;rintro e w' ⟨rfl,hb⟩;have HB:=bW hb;clear hb c;go_wp2_with fail
   go_meet
   case rel=>exact ⟨rfl,HB⟩
  go_wp2_with fail
  go_meet
  case rel=>exact ⟨by rw[← HM.out];rfl,⟨Below.refl _ _⟩⟩
 obtain ⟨rfl,HB⟩:=hcut;clear HM
 obtain ⟨z,hz⟩:∃ z,(m.toList==[])=z:=⟨_,rfl⟩
 have HZ:=bW hz;go_upto_if 10 with fail
 clear hz;cases z;rotate_left
 ·have h0:L m=[]:=by rw[← L_toList];simpa using HZ.out
  have e1:(⟨#[47]⟩:ByteArray)=⟨(gY (L m)).toArray⟩:=by rw[h0];rfl
  go_wp2_with fail
  go_ret;exact ⟨congrArg (fun x=>Ending.returned (Value.string x)) e1,HB.out⟩
 have h0:L m≠[]:=by rw[← L_toList];simpa using HZ.out
 have h1:0 < m.size:=by rw[← eD];exact List.length_pos_iff.2 h0
 have p4:0 < (m.size:Int):=by omega
 have hx:(((m[0]'h1).toNat:Nat):Int)=bt m 0:=fN m 0 h1;have p5:(0:Int)≤0:=Int.le_refl _
 obtain ⟨f,hf⟩:∃ f,(bt m 0==47)=f:=⟨_,rfl⟩
 have hf2:(bt m 0 != 47) = !f:=by rw[bne,hf]
 have HF:=bW hf;have H0:=bW h0;have H1:=bW h1;clear h0
 obtain ⟨m1,hm1⟩:∃ m1,(if f then m else (⟨#[47]⟩:ByteArray)++m)=m1:=⟨_,rfl⟩
 have HM1:=bW hm1;clear hm1;go_upto_if 13 with fail
 clear hf hf2 hx
 go_cut [0] from 14 to 15 (fun s0 wx=>s0 = .string m1∧wx=wc)
 case first =>
  cases f
  ·go_wp2_with fail
   go_meet
   case rel=>exact ⟨by rw[← HM1.out];rfl,rfl⟩
  go_wp2_with fail
  go_meet
  case rel=>exact ⟨by rw[← HM1.out];rfl,rfl⟩
 obtain ⟨rfl,rfl⟩:=hcut
 have hlead:L m1=kG (L m):=by
  rw[← HM1.out];unfold kG;rw[if_neg H0.out];have hb:=aHd m H1.out;cases f
  ·have:¬ (bt m 0=47):=by simpa using HF.out
   rw[if_neg (fun e=>this (hb.2 e))];show L (⟨#[47]⟩++m)=_;rw[lY];rfl
  have:bt m 0=47:=by simpa using HF.out
  rw[if_pos (hb.1 this)];rfl
 have hs1:m1.size≤m.size+1:=by
  rw[← HM1.out];cases f
  ·have:(⟨#[47]⟩:ByteArray).size=1:=rfl;show ((⟨#[47]⟩:ByteArray)++m).size≤_;rw[size_append];omega
  exact Nat.le_succ _
 have h1:0 < m1.size:=by rw[← eD,hlead];exact List.length_pos_iff.2 (tL _)
 have HL:=bW hlead;clear hlead HM1 HF
 by_cases h2:1 < m1.size
 ·have d1:decide (1 < (m1.size:Int))=true:=decide_eq_true bA;have d2:IntKind.i64.wrap ((m1.size:Int) - 1)=(m1.size:Int) - 1:=by rw[IntWalk.i64_in _ bA]
  have d3:0≤(m1.size:Int) - 1:=by omega
  have d4:(m1.size:Int) - 1 < (m1.size:Int):=by omega
  have hx:(((m1[m1.size - 1]' bA).toNat:Nat):Int)=bt m1 ((m1.size:Int) - 1):=by rw[← fN m1 ((m1.size:Int) - 1) bA];congr 3;omega
  have d5:(m1.size:Int) - 1≤(m1.size:Int):=by omega
  have d6:((m1.size:Int) - 1).toNat=m1.size - 1:=by omega
  obtain ⟨g,hg⟩:∃ g,(bt m1 ((m1.size:Int) - 1)==47)=g:=⟨_,rfl⟩
  have HG:=bW hg;go_upto_if 26 with fail
  clear hg hx;cases g
  ·have E1:=bW (sJ (L m) m1 HL.out (by
    rintro ⟨_,h⟩;have:=(vR m1 h1).2 h;have h9:=HG.out;rw[this] at h9
    cases h9))
   go_wp2_with fail
   go_ret;exact ⟨congrArg (fun x=>Ending.returned (Value.string x)) E1.out,HB.out⟩
  have E1:=bW (yT (L m) m1 HL.out ((vR m1 h1).1 (by simpa using HG.out)) h2);go_wp2_with fail
  go_ret;exact ⟨congrArg (fun x=>Ending.returned (Value.string x)) E1.out,HB.out⟩
 have d1:decide (1 < (m1.size:Int))=false:=decide_eq_false bA;have E1:=bW (sJ (L m) m1 HL.out (fun h=>h2 h.1));go_wp2_with fail
 go_ret;exact ⟨congrArg (fun x=>Ending.returned (Value.string x)) E1.out,HB.out⟩
end Go.Proofs.YtlkoeeccebmjmaaGreatDoor.Path
namespace Go.ZW.PrintLast
open Go.ZW.PrintWords (Aside0)
def rA (md:Region.Mode) (o:Oper):List Nat:=(o.after.toList.filter (fun e=>Region.binds md e)).map (fun e=>e.on)
def zQ (md:Region.Mode) (ops:Array Oper) (i:Nat) (oi:Oper):List Nat:=(List.range ops.size).filter fun j=>!(j==i) && match ops[j]? with
 | some oj=>!(oj.after.any (fun e=>Region.binds md e && e.on==i) || oi.apart ops oj)
 | none=>false
def mP (md:Region.Mode) (ops:Array Oper):Bool×List (List Nat×List Nat):=(Region.noSelect ops,(List.range ops.size).map fun i=>match ops[i]? with
 | some o=>(rA md o,zQ md ops i o)
 | none=>([],[]))
def pC (T:List (List Nat×List Nat)) (l:List Bool) (i:Nat):Bool:=!l.getD i true && match T[i]? with
 | some r=>r.1.all (fun j=>l.getD j false)
 | none=>false
def vF (T:List (List Nat×List Nat)) (l:List Bool):List Nat:=(List.range T.length).filter (pC T l)
def yM (T:List (List Nat×List Nat)) (l:List Bool) (i:Nat):Bool:=match T[i]? with
 | some r=>r.2.all (fun j=>l.getD j true)
 | none=>false
def vS (T:List (List Nat×List Nat)) (l:List Bool):Bool:=(List.range T.length).all fun j=>!l.getD j false || match T[j]? with
 | some r=>r.1.all (fun k=>l.getD k false)
 | none=>true
def sS (T:List (List Nat×List Nat)) (i:Nat):Nat→Nat→Bool
 | 0,_=>false
 | fuel+1,d=>match T[d]? with
  | some r=>r.1.any fun j=>j==i || sS T i fuel j
  | none=>false
def aBn (T:List (List Nat×List Nat)) (l:List Bool) (ds:List Nat) (i:Nat):Bool:=ds.all fun d=>l.getD d true || sS T i T.length d
section
variable {md:Region.Mode} {ops:Array Oper} {T:Bool×List (List Nat×List Nat)} {l l' li lj lk:Array Bool} {ds:List Nat} {i j k:Nat}
theorem gd (l:Array Bool) (j:Nat) (b:Bool):l.getD j b=l.toList.getD j b:=by simp[Array.getD_eq_getD_getElem?,List.getD_eq_getElem?_getD]
theorem aAs (o:Oper) (p:Nat→Bool):o.after.all (fun e=>!Region.binds md e || p e.on)=(rA md o).all p:=by
 unfold rA;rw[← Array.all_toList]
 induction o.after.toList with
 | nil=>rfl
 | cons e r ih =>
  rw[List.all_cons,ih,List.filter_cons];cases h:Region.binds md e <;> simp
theorem aGr (o:Oper) (p:Nat→Bool):o.after.any (fun e=>Region.binds md e && p e.on)=(rA md o).any p:=by
 unfold rA;rw[← Array.any_toList]
 induction o.after.toList with
 | nil=>rfl
 | cons e r ih =>
  rw[List.any_cons,ih,List.filter_cons];cases h:Region.binds md e <;> simp
theorem qE:(mP md ops).2.length=ops.size:=by simp[mP]
theorem rZ {o:Oper} (h:ops[i]? = some o):(mP md ops).2[i]? = some (rA md o,zQ md ops i o):=by
 have hi:=(Array.getElem?_eq_some_iff.1 h).1;unfold mP;rw[List.getElem?_map,List.getElem?_range hi,Option.map_some,h]
theorem rY (h:ops[i]? = none):(mP md ops).2[i]? = none:=by
 have hi:ops.size≤i:=Array.getElem?_eq_none_iff.1 h;exact List.getElem?_eq_none (by rw[qE];exact hi)
theorem aFq:pC (mP md ops).2 l.toList i=(!l.getD i true && ((ops[i]?).map (·.after.all fun e=>!Region.binds md e || l.getD e.on false)).getD false):=by
 unfold pC;rw[gd]
 cases h:ops[i]? with
 | none=>rw[rY h];rfl
 | some o =>
  rw[rZ h];simp only[Option.map_some,Option.getD_some];rw[← aAs];simp only[gd]
theorem ready_eq:Region.ready md ops l=vF (mP md ops).2 l.toList:=by
 unfold Region.ready vF;rw[qE];refine List.filter_congr (fun i _=>?_);rw[aFq]
theorem free_eq:Region.free md ops l i=yM (mP md ops).2 l.toList i:=by
 unfold Region.free yM
 cases h:ops[i]? with
 | none=>rw[rY h]
 | some oi =>
  rw[rZ h];simp only[zQ];rw[List.all_filter];congr 1
  funext j
  rw[gd]
  cases hj:ops[j]? with
  | none=>cases (j==i) <;> cases (l.toList.getD j true) <;> simp
  | some oj =>
   cases (j==i) <;> cases (l.toList.getD j true) <;> cases (oj.after.any (fun e=>Region.binds md e && e.on==i) || oi.apart ops oj) <;> simp_all
theorem aGa:Region.closedB md ops l=vS (mP md ops).2 l.toList:=by
 unfold Region.closedB vS;rw[qE];congr 1
 funext j
 rw[gd]
 cases h:ops[j]? with
 | none=>rw[rY h]
 | some o =>
  rw[rZ h];simp only;rw[← aAs];simp only[gd]
theorem reach_eq:∀ (fuel d:Nat),Region.reachB md ops i fuel d=sS (mP md ops).2 i fuel d
 | 0,_=>rfl
 | fuel+1,d=>by
  unfold Region.reachB sS
  cases h:ops[d]? with
  | none=>rw[rY h]
  | some o =>
   rw[rZ h];simp only;rw[← aGr];congr 1
   funext e
   rw[reach_eq fuel]
theorem aIu:Region.lastB md ops l ds i=aBn (mP md ops).2 l.toList ds i:=by
 unfold Region.lastB aBn;rw[qE];congr 1
 funext d
 rw[gd,reach_eq]
theorem xB (h:pC T.2 l.toList i=true) (hT:mP md ops=T):(Region.ready md ops l).contains i=true:=by
 subst hT;rw[ready_eq];unfold vF;rw[List.contains_iff_mem,List.mem_filter,List.mem_range];refine ⟨?_,h⟩;unfold pC at h;rw[Bool.and_eq_true] at h
 cases hq:(mP md ops).2[i]? with
 | none=>rw[hq] at h;simp at h
 | some r=>exact (List.getElem?_eq_some_iff.1 hq).1
theorem aC0 (h:(l.toList.set i true==l'.toList)=true):(l.setIfInBounds i true==l')=true:=by
 rw[beq_iff_eq] at h ⊢;apply Array.ext';rw[Array.toList_setIfInBounds];exact h
def aJf (T:Bool×List (List Nat×List Nat)) (l l' : List Bool) (i:Nat):Bool:=T.1 && yM T.2 l i && pC T.2 l i && (l.set i true==l')
theorem nH (hT:mP md ops=T) (h:aJf T l.toList l'.toList i=true):zM md ops l l' i=true:=by
 simp only[aJf,Bool.and_eq_true] at h;obtain ⟨⟨⟨h1,h2⟩,h3⟩,h4⟩:=h;have h5:=xB h3 hT;have h6:=aC0 h4;subst hT;simp only[zM,Bool.and_eq_true];exact ⟨⟨⟨h1,by rw[free_eq];exact h2⟩,h5⟩,h6⟩
def aFv (T:Bool×List (List Nat×List Nat)) (ds:List Nat) (l l' : List Bool) (i:Nat):Bool:=T.1 && yM T.2 l i && pC T.2 l i && vS T.2 l && aBn T.2 l ds i && (l.set i true==l')
theorem aI6 (hT:mP md ops=T) (h:aFv T ds l.toList l'.toList i=true):takeB md ops ds l l' i=true:=by
 simp only[aFv,Bool.and_eq_true] at h;obtain ⟨⟨⟨⟨⟨h1,h2⟩,h3⟩,h4⟩,h5⟩,h6⟩:=h;have h7:=xB h3 hT;have h8:=aC0 h6;subst hT;simp only[takeB,Bool.and_eq_true];exact ⟨⟨⟨⟨⟨h1,by rw[free_eq];exact h2⟩,h7⟩,by rw[aGa];exact h4⟩,by rw[aIu];exact h5⟩,h8⟩
theorem aGt (hT:mP md ops=T) (h:(vF T.2 l.toList==[i] && l.toList.set i true==l'.toList)=true):qH md ops l l' i=true:=by
 simp only[Bool.and_eq_true] at h;obtain ⟨h1,h2⟩:=h;subst hT;simp only[qH,Bool.and_eq_true];exact ⟨by rw[ready_eq];exact h1,aC0 h2⟩
theorem aEh (hT:mP md ops=T) (h:(vF T.2 l.toList==[])=true):(Region.ready md ops l==[])=true:=by
 subst hT;rw[ready_eq];exact h
def upM (B:List Nat) (d:Nat):List Nat→Nat
 | []=>0
 | n::r=>(2 ^ n ||| (if n < d then B.getD n 0 else 0)) ||| upM B d r
def rC (T:List (List Nat×List Nat)) (B:List Nat):Bool:=(List.range T.length).all fun d=>match T[d]? with
 | some r=>(B.getD d 0 ||| upM B d r.1)==upM B d r.1
 | none=>false
theorem aEq {B:List Nat} {d i:Nat}:∀ {ns:List Nat},(upM B d ns).testBit i=true→∃ n∈ns,n=i∨(n < d∧(B.getD n 0).testBit i=true)
 | [],h=>by simp[upM] at h
 | n::r,h=>by
  unfold upM at h;rw[Nat.testBit_or,Nat.testBit_or,Bool.or_eq_true,Bool.or_eq_true] at h;rcases h with (h | h) | h
  ·rw[Nat.testBit_two_pow] at h;exact ⟨n,List.mem_cons_self,.inl (by simpa using h)⟩
  ·by_cases hn:n < d
   ·rw[if_pos hn] at h;exact ⟨n,List.mem_cons_self,.inr ⟨hn,h⟩⟩
   rw[if_neg hn] at h
   simp at h
  obtain ⟨m,hm,h2⟩:=aEq h;exact ⟨m,List.mem_cons_of_mem _ hm,h2⟩
theorem aAy {T:List (List Nat×List Nat)} {B:List Nat} (hB:rC T B=true):∀ (fuel d:Nat),d < fuel→d < T.length→(B.getD d 0).testBit i=true→sS T i fuel d=true
 | 0,d,h,_,_=>by omega
 | fuel+1,d,h,hd,hb=>by
  have h1:=List.all_eq_true.1 hB d (List.mem_range.2 hd)
  cases hr:T[d]? with
  | none=>rw[hr] at h1;simp at h1
  | some r =>
   rw[hr] at h1;simp only[beq_iff_eq] at h1;have h2:(upM B d r.1).testBit i=true:=by rw[← h1,Nat.testBit_or,hb,Bool.true_or]
   obtain ⟨n,hn,h3⟩:=aEq h2;unfold sS;rw[hr];simp only;rw[List.any_eq_true];refine ⟨n,hn,?_⟩;rcases h3 with rfl | ⟨h4,h5⟩
   ·simp
   rw[aAy hB fuel n (by omega) (by omega) h5,Bool.or_true]
def aIe (T:List (List Nat×List Nat)) (B:List Nat) (l:List Bool) (ds:List Nat) (i:Nat):Bool:=ds.all fun d=>l.getD d true || (decide (d < T.length) && (B.getD d 0).testBit i)
def aIi (T:Bool×List (List Nat×List Nat)) (B:List Nat) (ds:List Nat) (l l' : List Bool) (i:Nat):Bool:=T.1 && yM T.2 l i && pC T.2 l i && vS T.2 l && aIe T.2 B l ds i && (l.set i true==l')
theorem oY {B:List Nat} (hT:mP md ops=T) (hB:rC T.2 B=true) (h:aIi T B ds l.toList l'.toList i=true):takeB md ops ds l l' i=true:=by
 refine aI6 hT ?_;simp only[aIi,aFv,Bool.and_eq_true] at h ⊢;obtain ⟨⟨⟨⟨⟨h1,h2⟩,h3⟩,h4⟩,h5⟩,h6⟩:=h;refine ⟨⟨⟨⟨⟨h1,h2⟩,h3⟩,h4⟩,?_⟩,h6⟩;unfold aIe at h5;unfold aBn;rw[List.all_eq_true] at h5 ⊢;intro d hd;have h7:=h5 d hd;rw[Bool.or_eq_true,Bool.and_eq_true,decide_eq_true_eq] at h7;rcases h7 with h7 | ⟨h8,h9⟩
 ·rw[h7,Bool.true_or]
 rw[aAy hB _ d h8 h8 h9,Bool.or_true]
theorem aA2 {P:Program} {Q:Exit→Act→World→Prop} {S:World→Prop} {n:Nat} {a:Act} {w:World} {B:List Nat} (hT:mP md ops=T) (hB:rC T.2 B=true) (h:Aside0 (mP md ops=T)→Aside0 (rC T.2 B=true)→fV P md ops Q S ds n l a w):fV P md ops Q S ds n l a w:=h ⟨hT⟩ ⟨hB⟩
end
def qD:Code→Nat→Option (Array Oper)
 | .region id ops _,k=>if id==k then some ops else none
 | .seq a b,k=>match qD a k with
  | some o=>some o
  | none=>qD b k
 | .cond _ a b,k=>match qD a k with
  | some o=>some o
  | none=>qD b k
 | .block _ c,k=>qD c k
 | .loop c,k=>qD c k
 | .scope c,k=>qD c k
 | .rangeFunc _ _ a b,k=>match qD a k with
  | some o=>some o
  | none=>qD b k
 | _,_=>none
def opsOf (f:Func) (k:Nat):Array Oper:=((f.body.bind fun c=>qD c k)).getD #[]
end Go.ZW.PrintLast
namespace Go.ZW.PrintWords
open Go.RowKit
namespace Kd
def tag {α:Type} (f:Nat→Nat) (d:Kd α):Kd (α×Nat) where
 sz:=d.sz
 E:=d.E
 K:=fun w x cs=>d.K w x.1 cs
 M:=fun w base ok x cs=>d.M w base (fun k=>ok k∧f k=x.2) x.1 cs
 K_len:=fun h=>d.K_len h
 K_one:=fun h=>d.K_one h
 K_below:=fun hb h=>d.K_below hb h
 K_of_M:=fun h=>d.K_of_M h
 M_mono:=fun hok h=>d.M_mono (fun k hk=>⟨hok k hk.1,hk.2⟩) h
 M_bound:=fun h=>d.M_mono (fun _ hk=>⟨⟨hk.1.1,hk.2⟩,hk.1.2⟩) (d.M_bound h)
 M_move:=fun hm h=>d.M_move (fun k hk=>hm k hk.1) h
 M_lower:=fun hb h=>d.M_lower hb h
def raw (sz:Nat):Kd (List Value) where
 sz:=sz
 E:=[]
 K:=fun _ x cs=>cs=x∧cs.length=sz∧∀ u∈cs,u.oneCell'=true
 M:=fun _ _ _ x cs=>cs=x∧cs.length=sz∧∀ u∈cs,u.oneCell'=true
 K_len:=fun h=>h.2.1
 K_one:=fun h=>h.2.2
 K_below:=fun _ h=>h
 K_of_M:=fun h=>h
 M_mono:=fun _ h=>h
 M_bound:=fun h=>h
 M_move:=fun _ h=>h
 M_lower:=fun _ h=>h
def S {α:Type} (d:Kd α) (e:Nat) (w:World) (base:Nat) (ok:Nat→Prop) (v:Value) (xs:List α):Prop:=∃ f,(tag f d).R e w base ok v xs.zipIdx
section
variable {α β:Type} {d:Kd α} {d' : Kd β} {e e' : Nat} {w w1 W:World} {base b:Nat} {ok ok' okv oku:Nat→Prop} {u v:Value} {xs:List α} {ys:List β}
theorem S_nil (d:Kd α) (e:Nat) (w:World) (base:Nat) (ok:Nat→Prop):S d e w base ok (.slice none 0 0) []:=⟨fun _=>0,R_nil _ _ _ _ _⟩
end
def gap {α:Type} (f:Nat→Nat) (d:Kd α) (i:Nat) (c:List Value):Kd (α×Nat) where
 sz:=d.sz
 E:=d.E
 K:=fun w x cs=>(x.2=i→cs=c∧cs.length=d.sz∧∀ u∈cs,u.oneCell'=true)∧(x.2≠i→d.K w x.1 cs)
 M:=fun w base ok x cs=>(x.2=i→cs=c∧cs.length=d.sz∧∀ u∈cs,u.oneCell'=true)∧(x.2≠i→d.M w base (fun k=>ok k∧f k=x.2) x.1 cs)
 K_len:=fun {w x cs} h=>by
  by_cases hx:x.2=i
  ·exact (h.1 hx).2.1
  exact d.K_len (h.2 hx)
 K_one:=fun {w x cs} h=>by
  by_cases hx:x.2=i
  ·exact (h.1 hx).2.2
  exact d.K_one (h.2 hx)
 K_below:=fun hb h=>⟨h.1,fun hx=>d.K_below hb (h.2 hx)⟩
 K_of_M:=fun h=>⟨h.1,fun hx=>d.K_of_M (h.2 hx)⟩
 M_mono:=fun hok h=>⟨h.1,fun hx=>d.M_mono (fun k hk=>⟨hok k hk.1,hk.2⟩) (h.2 hx)⟩
 M_bound:=fun h=>⟨h.1,fun hx=>d.M_mono (fun _ hk=>⟨⟨hk.1.1,hk.2⟩,hk.1.2⟩) (d.M_bound (h.2 hx))⟩
 M_move:=fun hm h=>⟨h.1,fun hx=>d.M_move (fun k hk=>hm k hk.1) (h.2 hx)⟩
 M_lower:=fun hb h=>⟨h.1,fun hx=>d.M_lower hb (h.2 hx)⟩
def H {α:Type} (d:Kd α) (e:Nat) (w:World) (base:Nat) (ok:Nat→Prop) (v:Value) (xs:List α) (i:Int) (oki:Nat→Prop) (c:List Value):Prop :=
 (∀ k,oki k→ok k)∧∃ f,(gap f d i.toNat c).R e w base (fun k=>ok k∧¬ oki k) v xs.zipIdx
end Kd
namespace Kd
structure aJa {α:Type} (d:Kd α):Prop where
 K:∀ {w w1:World} {x:α} {cs:List Value},(∀ k,k < w.heap.size→w1.heap[k]? = w.heap[k]?)→d.K w x cs→d.K w1 x cs
theorem aF8 {w w1:World} (hb:∀ k,k < w.heap.size→w1.heap[k]? = w.heap[k]?) {a:Addr} {v:Value} (h:w.cell? a=some v):w1.cell? a=some v:=by
 have:=hb a.block (World.block_lt_of_cell? w a h)
 simpa [World.cell?,this] using h
theorem aJa.C {α:Type} {d:Kd α} (hd:aJa d) {w w1:World} {A:Option Addr} {n:Nat} {xs:List α} (hb:∀ k,k < w.heap.size→w1.heap[k]? = w.heap[k]?) (h:d.C w A n xs):d.C w1 A n xs :=
 ⟨h.1,h.2.1,fun hn=>by
  obtain ⟨ad,e,hc⟩:=h.2.2 hn;refine ⟨ad,e,fun j p hj=>?_⟩;obtain ⟨c,hs,hr,hcell⟩:=hc j p hj
  exact ⟨c,hs,hd.K hb hr,fun i u hu=>aF8 hb (hcell i u hu)⟩⟩
end Kd
def Kept (w W:World) (S:Nat→Prop):Prop:=w.heap.size≤W.heap.size∧∀ i,i < w.heap.size→¬ S i→W.heap[i]? = w.heap[i]?
section
variable {w W W2:World} {S S2 S' : Nat→Prop}
theorem Kept.refl (w:World) (S:Nat→Prop):Kept w w S:=⟨Nat.le_refl _,fun _ _ _=>rfl⟩
theorem Kept.of_below (h:Below w.heap.size w W) (S:Nat→Prop):Kept w W S:=⟨h.size,fun i hi _=>h.block i hi⟩
theorem Kept.mono (h:Kept w W S) (hs:∀ k,S k→S' k):Kept w W S':=⟨h.1,fun i hi hn=>h.2 i hi (fun hk=>hn (hs i hk))⟩
theorem Kept.then_ (h:Kept w W S) (k:Kept W W2 S2) (hs:∀ k,S2 k→S k∨w.heap.size≤k):Kept w W2 S :=
 ⟨Nat.le_trans h.1 k.1,fun i hi hn=>(k.2 i (Nat.lt_of_lt_of_le hi h.1) (fun h2=>(hs i h2).elim hn (fun h3=>by omega))).trans (h.2 i hi hn)⟩
theorem Kept.below (h:Kept w W S) (hb:Below W.heap.size W W2):Kept w W2 S:=h.then_ (Kept.of_below hb (fun _=>False)) (fun _ hk=>hk.elim)
theorem Kept.alloc (h:Kept w W S) (o:Obj):Kept w (W.alloc o) S:=h.below (fC (Below.refl _ _) o)
theorem Kept.drew (h:Kept w W S):Kept w W.drew S:=h
theorem Kept.drewN (h:Kept w W S) (m:Nat):Kept w (W.drewN m) S:=h
theorem Kept.setCell (h:Kept w W S) {p:Addr} (hp:S p.block∨w.heap.size≤p.block) (u:Value):Kept w (W.setCell p u) S :=
 h.then_ (S2:=fun k=>k=p.block) ⟨by simp[World.setCell],fun i _ hn=>Below.heap_setCell W p u i hn⟩ (fun k hk=>by rw[hk];exact hp)
end
def oT (P:World→Prop) (W:World) (ok:Nat→Prop):Prop:=∀ W' : World,(∀ k,ok k→k < W.heap.size→W'.heap[k]? = W.heap[k]?)→P W'
theorem aIs {W W1:World} {k:Nat} (h:W1.heap[k]? = W.heap[k]?) (hlt:k < W.heap.size):k < W1.heap.size:=by
 rw[Array.getElem?_eq_getElem hlt] at h;exact (Array.getElem?_eq_some_iff.1 h).1
namespace oT
variable {P Q:World→Prop} {W W1:World} {ok ok' : Nat→Prop}
theorem now (h:oT P W ok):P W:=h W (fun _ _ _=>rfl)
theorem mono (h:oT P W ok) (hok:∀ k,ok k→ok' k):oT P W ok':=fun W' hW=>h W' (fun k hk hlt=>hW k (hok k hk) hlt)
theorem bound (h:oT P W ok):oT P W (fun k=>ok k∧k < W.heap.size):=fun W' hW=>h W' (fun k hk hlt=>hW k ⟨hk,hlt⟩ hlt)
theorem step (h:oT P W ok) (hm:∀ k,ok k→k < W.heap.size→W1.heap[k]? = W.heap[k]?):oT P W1 ok:=fun W' hW=>h W' (fun k hk hlt=>(hW k hk (aIs (hm k hk hlt) hlt)).trans (hm k hk hlt))
theorem imp (h:oT P W ok) (hi:∀ W',P W'→Q W'):oT Q W ok:=fun W' hW=>hi W' (h W' hW)
theorem old (h:oT P W ok) (hb:Below W.heap.size W W1):oT P W1 (fun k=>ok k∧k < W.heap.size):=(h.bound).step (fun k _ hlt=>hb.block k hlt)
end oT
namespace Kd
def F {α:Type} (d:Kd α) (W:World) (ok:Nat→Prop) (A:Option Addr) (n:Nat) (xs:List α):Prop:=oT (fun W=>d.C W A n xs) W ok
def FK {α:Type} (d:Kd α) (W:World) (ok:Nat→Prop) (x:α) (c:List Value):Prop:=oT (fun W=>d.K W x c) W ok
section
variable {α β:Type} {d:Kd α} {e base n n' cc g N:Nat} {ok ok' okp S:Nat→Prop} {w w0 w1 W W1:World} {A A' : Option Addr} {u v v1:Value} {xs:List α} {xs' : List β} {d' : Kd β} {x:α} {c:List Value}
theorem aJp (d:Kd α) (W:World) (ok:Nat→Prop):F d W ok none ([]:List α).length []:=fun W' _=>aJo d W'
theorem aIj (h:d.M W base ok x c):FK d W ok x c:=fun _ hW=>d.K_of_M (aF2 h hW)
end
end Kd
end Go.ZW.PrintWords
namespace Go.ZW.PrintWords
open Go.RowKit
namespace Kd
def chunks (sz:Nat) (n:Nat) (inner:List Value):List (List Value):=(List.range n).map fun j=>(inner.drop (j * sz)).take sz
theorem nQ (sz n:Nat) (inner:List Value):(chunks sz n inner).length=n:=by simp[chunks]
theorem aF9 {sz n:Nat} {inner:List Value} {j:Nat} (hj:j < n):(chunks sz n inner)[j]? = some ((inner.drop (j * sz)).take sz):=by simp[chunks,hj]
theorem yJ {sz n:Nat} {inner:List Value} {j:Nat} {c:List Value} (h:(chunks sz n inner)[j]? = some c):c=(inner.drop (j * sz)).take sz:=by
 have hj:j < n:=by have:=(List.getElem?_eq_some_iff.1 h).1;rwa[nQ] at this
 rw[aF9 hj] at h;injection h with h
 exact h.symm
theorem aH0 {α:Type} {Rr:α→List Value→Prop} {sz:Nat} {xs:List α} {inner:List Value} (h:gW Rr sz xs inner) (hR:∀ x c,Rr x c→c.length=sz∧∀ u∈c,u.oneCell'=true):gW (fun x cs=>cs=x∧cs.length=sz∧∀ u∈cs,u.oneCell'=true) sz (chunks sz xs.length inner) inner:=by
 refine ⟨by rw[nQ];exact h.1,fun j p hj=>?_⟩;have hjl:j < xs.length:=by have:=(List.getElem?_eq_some_iff.1 hj).1;rwa[nQ] at this
 have hp:=yJ hj;exact ⟨hp.symm,hR _ _ (h.2 j _ (List.getElem?_eq_getElem hjl))⟩
section
variable {α:Type} {d:Kd α} {e base n cc g:Nat} {ok ok' okp S:Nat→Prop} {w w1 W W1:World} {A:Option Addr} {u v v1:Value} {xs:List α} {x:α} {c:List Value}
def N {α:Type} (d:Kd α) (e:Nat) (w:World) (base:Nat) (ok:Nat→Prop) (v:Value) (xs:List α):Prop :=
 (∀ k,v.ownBlock=some k→ok k)∧∃ rows:List (List Value),rows.length=xs.length∧(raw d.sz).R e w base (fun k=>some k=v.ownBlock) v rows∧∀ (j:Nat) (x:α) (c:List Value),xs[j]? = some x→rows[j]? = some c→FK d w (fun k=>ok k∧some k≠v.ownBlock) x c
theorem R_N (h:d.R e w base ok v xs):N d e w base ok v xs:=by
 obtain ⟨h0,inner,ho,hr⟩:=h;refine ⟨h0,chunks d.sz xs.length inner,nQ _ _ _,⟨fun k hk=>hk.symm,inner,by rw[nQ];exact ho,aH0 hr (fun x c hp=>⟨d.K_len (d.K_of_M hp),d.K_one (d.K_of_M hp)⟩)⟩,fun j x c hx hc=>?_⟩;rw[yJ hc];exact aIj (hr.2 j x hx)
theorem N_nil (d:Kd α) (e:Nat) (w:World) (base:Nat) (ok:Nat→Prop):N d e w base ok (.slice none 0 0) []:=R_N (R_nil _ _ _ _ _)
end
end Kd
section
variable {w w' u:World} {m B g:Nat} {o:Obj} {row:Option Nat} {S:Nat→Prop} {a:Addr} {v:Value}
theorem nO (hq:w.drewN m=w') (h:u.heap.size≤w.heap.size):u.heap.size≤w'.heap.size:=by subst hq;exact h
end
end Go.ZW.PrintWords
