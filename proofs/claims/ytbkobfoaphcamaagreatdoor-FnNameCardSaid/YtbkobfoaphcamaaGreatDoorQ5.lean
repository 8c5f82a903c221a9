/- Texts that the law leans on: Id0, Id00, Goes, Set. Condition: as told at each. -/
import Derived.Laws.OwnMore
import Derived.Test.YtbkobfoaphcamaaGreatDoorQa
import Derived.Test.YtbkobfoaphcamaaGreatDoorQ4
set_option linter.unusedVariables false
set_option linter.unusedSimpArgs false
namespace Go.Proofs.YtbkobfoaphcamaaGreatDoor.Path
open Go.RowKit Go.Proofs.YtbkobfoaphcamaaGreatDoorW.PrintWords Go.Proofs.YtbkobfoaphcamaaGreatDoor.Base
def kA (comp:ByteArray):Bool:=comp.toList==[99,111,110,116,101,110,116]
def pZ (p:eQ) (comp:ByteArray) (nd:Int):Bool:=(decide (1 < nd) && p.lang == -1) && (kA comp || eW comp)
def pK (p:eQ) (comp:ByteArray):Bool:=p.kind == -1 && eW comp
def lO (p:eQ) (comp:ByteArray) (last:Bool):Bool:=if p.typ==7 then !last && eW comp else eW comp
def idHigh (p:eQ) (ld:Nat):Nat:=if p.known=[] then p.s.size else ld
def eQ.add (p:eQ) (x:Int×Int):eQ:={ p with known:=p.known++[x] }
def oO (p:eQ) (x:Int×Int):eQ:={ p with known:=p.known++[x],cust:=p.known.length }
def nE (E:Env) (lay:Bool) (p:eQ) (lo hi:Nat) (sid:ByteArray):eQ :=
 let pre:=iP (sid.extract 1 (sid.size - 1))
 if pre.toList=[] then oO p ((lo:Int),(hi:Int))
 else match jD E lay p pre (((lo+1+pre.size:Nat):Int),((hi - 1:Nat):Int)) (jU (p.s.extract (lo+1+pre.size) (hi - 1))) with
  | some p'=>p'
  | none=>oO p ((lo:Int),(hi:Int))
def rM (E:Env) (lay:Bool) (p:eQ) (x:Int×Int) (sid:ByteArray):eQ :=
 { p with known:=p.known++[x],fmt:=if lay && E.fmt sid ⟨#[]⟩ then 0 else p.fmt }
def jI (E:Env) (p:eQ) (comp:ByteArray) (nd:Int) (last:Bool) (x:Int×Int) (sid:ByteArray):eQ×Bool :=
 if pZ p comp nd && (E.lang sid || E.dis sid) then ({ p with known:=p.known++[x],lang:=p.known.length,dis:=p.dis || !E.lang sid },true)
 else if eW comp && E.fmt sid (fO p 0) then ({ p with known:=p.known++[x],fmt:=p.known.length },true)
 else if pK p comp && isKind sid then ({ p with known:=p.known++[x],kind:=p.known.length },true)
 else if sid.toList==[98,97,115,101,111,102] then ({ p with known:=p.known++[x],base:=p.known.length },true)
 else if lO p comp last then
  if p.lay != -1 then ({ p with known:=p.known.set p.lay.toNat x,unknown:=p.unknown++[p.known.getD p.lay.toNat (0,0)] },true)
  else ({ p with known:=p.known++[x],lay:=p.known.length },true)
 else ({ p with unknown:=p.unknown++[x] },false)
def jE (E:Env) (p:eQ) (comp:ByteArray) (lo ld:Nat) (nd:Int) (last:Bool):eQ×Bool :=
 let hi:=idHigh p ld
 let sid:=p.s.extract lo hi
 if mM sid then (nE E (eW comp) p lo hi sid,true)
 else if p.known=[] then (rM E (eW comp) p ((lo:Int),(hi:Int)) sid,true)
 else jI E p comp nd last ((lo:Int),(hi:Int)) sid
def mP (r:eQ×Bool) (i ld:Nat) (last:Bool):eQ :=
 if r.2 then (if last then (if r.1.nEnd≤0 then { r.1 with nEnd:=ld } else r.1) else { r.1 with nEnd:=i }) else r.1
def mId (E:Env) (p:eQ) (comp:ByteArray) (i ld:Nat) (nd:Int) (last:Bool):eQ :=
 if p.cHigh != -1 then p else mP (jE E p comp (i+1) ld nd last) i ld last
end Go.Proofs.YtbkobfoaphcamaaGreatDoor.Path
namespace Go.Proofs.YtbkobfoaphcamaaGreatDoor.Path
open Go.RowKit Go.Proofs.YtbkobfoaphcamaaGreatDoorW.PrintWords Go.Proofs.YtbkobfoaphcamaaGreatDoor.Base
section
variable {E:Env} {p:eQ} {comp sid:ByteArray} {nd:Int} {last:Bool} {x:Int×Int}
def NL (E:Env) (p:eQ) (comp:ByteArray) (nd:Int) (sid:ByteArray):Prop:=(pZ p comp nd && (E.lang sid || E.dis sid))=false
def NF (E:Env) (p:eQ) (comp:ByteArray) (sid:ByteArray):Prop:=(eW comp && E.fmt sid (fO p 0))=false
def NK (p:eQ) (comp:ByteArray) (sid:ByteArray):Prop:=(pK p comp && isKind sid)=false
def NB (sid:ByteArray):Prop:=(sid.toList==[98,97,115,101,111,102])=false
theorem wC (h:(pZ p comp nd && (E.lang sid || E.dis sid))=true):(({ p with known:=p.known++[x],lang:=p.known.length,dis:=p.dis || !E.lang sid }:eQ),true)=jI E p comp nd last x sid:=by
 unfold jI;rw[if_pos h]
theorem aEv (h1:NL E p comp nd sid) (h:(eW comp && E.fmt sid (fO p 0))=true):(({ p with known:=p.known++[x],fmt:=p.known.length }:eQ),true)=jI E p comp nd last x sid:=by
 unfold jI;rw[if_neg (by rw[show _=false from h1];simp),if_pos h]
theorem aDg (h1:NL E p comp nd sid) (h2:NF E p comp sid) (h:(pK p comp && isKind sid)=true):(({ p with known:=p.known++[x],kind:=p.known.length }:eQ),true)=jI E p comp nd last x sid:=by
 unfold jI;rw[if_neg (by rw[show _=false from h1];simp),if_neg (by rw[show _=false from h2];simp),if_pos h]
theorem aDf (h1:NL E p comp nd sid) (h2:NF E p comp sid) (h3:NK p comp sid) (h:(sid.toList==[98,97,115,101,111,102])=true):(({ p with known:=p.known++[x],base:=p.known.length }:eQ),true)=jI E p comp nd last x sid:=by
 unfold jI;rw[if_neg (by rw[show _=false from h1];simp),if_neg (by rw[show _=false from h2];simp),if_neg (by rw[show _=false from h3];simp),if_pos h]
theorem aAs (h1:NL E p comp nd sid) (h2:NF E p comp sid) (h3:NK p comp sid) (h4:NB sid) (h:lO p comp last=true) (hl:(p.lay != -1)=false):(({ p with known:=p.known++[x],lay:=p.known.length }:eQ),true)=jI E p comp nd last x sid:=by
 unfold jI;rw[if_neg (by rw[show _=false from h1];simp),if_neg (by rw[show _=false from h2];simp),if_neg (by rw[show _=false from h3];simp),if_neg (by rw[show _=false from h4];simp),if_pos h,if_neg (by rw[hl];simp)]
theorem aAt (h1:NL E p comp nd sid) (h2:NF E p comp sid) (h3:NK p comp sid) (h4:NB sid) (h:lO p comp last=true) (hl:(p.lay != -1)=true):(({ p with known:=p.known.set p.lay.toNat x,unknown:=p.unknown++[p.known.getD p.lay.toNat (0,0)] }:eQ),true)=jI E p comp nd last x sid:=by
 unfold jI;rw[if_neg (by rw[show _=false from h1];simp),if_neg (by rw[show _=false from h2];simp),if_neg (by rw[show _=false from h3];simp),if_neg (by rw[show _=false from h4];simp),if_pos h,if_pos hl]
theorem aDh (h1:NL E p comp nd sid) (h2:NF E p comp sid) (h3:NK p comp sid) (h4:NB sid) (h:lO p comp last=false):(({ p with unknown:=p.unknown++[x] }:eQ),false)=jI E p comp nd last x sid:=by
 unfold jI;rw[if_neg (by rw[show _=false from h1];simp),if_neg (by rw[show _=false from h2];simp),if_neg (by rw[show _=false from h3];simp),if_neg (by rw[show _=false from h4];simp),if_neg (by rw[h];simp)]
theorem wI {lo hi ld:Nat} (h1:idHigh p ld=hi) (h2:p.s.extract lo hi=sid) (hw:mM sid=false) (hk:p.known≠[]):jE E p comp lo ld nd last=jI E p comp nd last ((lo:Int),(hi:Int)) sid:=by
 unfold jE;rw[h1];simp only[h2,hw,if_false,hk,Bool.false_eq_true]
end
end Go.Proofs.YtbkobfoaphcamaaGreatDoor.Path
namespace Go.Proofs.YtbkobfoaphcamaaGreatDoor.Path
open Go.RowKit Go.Proofs.YtbkobfoaphcamaaGreatDoorW.PrintLast
section
variable {P:Program} {ops:Array Oper} {Q:Exit→Act→World→Prop}
theorem aFy {oi:Oper} {N:Option Tmp} {a:Act} {w:World} {K:Act→World→Prop} {f:FuncId} {fn:Func} {x:Operand} {asx:Array Operand} {ts:Array TypeId} (caps:Array Value) (hf:P.funcs[f]? = some fn) (hname:(fn.name == "runtime.NumGoroutine")=false) (hb:fn.body.isSome=true) (args:Array Value)
 (hw:Region.wanted oi (yielded ops a.tmps)=true) (hN:oi.dst=N) (hop:oi.op = .call { callee:=.value x,args:=asx,argTypes:=ts }) (hx:a.eval x = .func (.func f) #[] caps) (hargs:asx.map a.eval=args)
 (h:Calls P f (args++caps) w fun e w'=>∃ v,e = .returned v∧K (a.put N v) w'):if Region.wanted oi (yielded ops a.tmps)=true then Oper.wp P oi a w K Q else K (a.put N undef) w:=by
 refine aHn f (args++caps) hw hN ?_ h;have he:=zA hf hname hb (args++caps) w;unfold execOp
 simp[hop,resolve,Deferred.ofValue,invoke,hx,hargs,he]
end
end Go.Proofs.YtbkobfoaphcamaaGreatDoor.Path
namespace Go.Proofs.YtbkobfoaphcamaaGreatDoor.Path
open Go.RowKit Go.Proofs.YtbkobfoaphcamaaGreatDoorW.PrintWords Go.Proofs.YtbkobfoaphcamaaGreatDoor.Base
theorem aAb (x:Int×Int):∀ (l:List (Int×Int)) (j:Nat),((pairs l).set (j * 2) (.int .i64 x.1)).set (j * 2+1) (.int .i64 x.2)=pairs (l.set j x)
 | [],_=>by simp[pairs]
 | _::_,0=>by simp[pairs]
 | a::r,j+1=>by
  have e:(j+1) * 2=(j * 2+1)+1:=by omega
  have e2:(j+1) * 2+1=(j * 2+1+1)+1:=by omega
  rw[e2,e];simp only[pairs,List.set_cons_succ];rw[aAb x r j]
section
variable {w:World} {B b:Nat} {p:eQ} {vu vl u:Value} {g n c:Nat}
theorem aHb (H:eP w B b p (.slice (some ⟨g,0,none⟩) n c) vu vl u) (j:Nat) (x:Int×Int) :
 eP ((w.setCell ⟨g,j * 2,none⟩ (.int .i64 x.1)).setCell ⟨g,j * 2+1,none⟩ (.int .i64 x.2)) B b { p with known:=p.known.set j x } (.slice (some ⟨g,0,none⟩) n c) vu vl u ∧
  fG w ((w.setCell ⟨g,j * 2,none⟩ (.int .i64 x.1)).setCell ⟨g,j * 2+1,none⟩ (.int .i64 x.2)) b (.slice (some ⟨g,0,none⟩) n c) vu vl (.slice (some ⟨g,0,none⟩) n c) vu vl:=by
 have hn:n=p.known.length:=by obtain ⟨A,c',e⟩:=fX H.ok;injection e
 have ho:(Value.slice (some ⟨g,0,none⟩) n c).ownBlock=some g:=rfl;have hgb:g≠b:=fun e=>H.nk (by rw[ho,e]);have hok:=H.ok;rw[← hn] at hok;obtain ⟨a1,a2⟩:=hok.stored (j * 2) (.int .i64 x.1);obtain ⟨a3,a4⟩:=a1.stored (j * 2+1) (.int .i64 x.2);rw[aAb] at a3
 have hug:vu.ownBlock≠some g:=by
  rcases H.ku with h | h
  ·rw[ho] at h;cases h
  exact fun e=>h (by rw[ho,e])
 have hlg:vl.ownBlock≠some g:=by
  rcases own_type_ne H.ol H.ok bF with h | h
  ·rw[h];intro e;cases e
  rw[ho] at h;exact h
 have hl:n=(p.known.set j x).length:=by rw[List.length_set];exact hn
 refine ⟨⟨H.base,(H.row.other (a:=⟨g,j * 2,none⟩) hgb _).other (a:=⟨g,j * 2+1,none⟩) hgb _,?_,?_,?_,H.nk,H.nu,H.nl,H.ku⟩,⟨rfl,rfl,rfl,eB,?_,.inl rfl,.inl rfl,.inl rfl⟩⟩
 ·rw[hl] at a3;rw[← hl] at a3 ⊢;exact a3
 ·exact ownsRow_setCell_other (ownsRow_setCell_other H.ou (a:=⟨g,j * 2,none⟩) hug _) (a:=⟨g,j * 2+1,none⟩) hug _
 ·exact ownsRow_setCell_other (ownsRow_setCell_other H.ol (a:=⟨g,j * 2,none⟩) hlg _) (a:=⟨g,j * 2+1,none⟩) hlg _
 intro k hk _ h1 _ _;have hkg:k≠g:=fun e=>h1 (by rw[ho,e]);exact (Below.heap_setCell _ _ _ _ (by simpa using hkg)).trans (Below.heap_setCell _ _ _ _ (by simpa using hkg))
end
end Go.Proofs.YtbkobfoaphcamaaGreatDoor.Path
