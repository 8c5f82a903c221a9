/- Texts that the law leans on: Id00, Goes, Set. Condition: as told at each. -/
import Derived.Laws.OwnMore
import Derived.Test.YtlkoeeccebmjmaaGreatDoorQa
import Derived.Test.YtlkoeeccebmjmaaGreatDoorQ4
set_option linter.unusedVariables false
set_option linter.unusedSimpArgs false
set_option maxRecDepth 100000
set_option maxHeartbeats 16000000
namespace Go.Proofs.YtlkoeeccebmjmaaGreatDoor.Path
open Go.RowKit Go.ZW.PrintWords Go.Proofs.YtlkoeeccebmjmaaGreatDoor.Base
section
variable {E:Env} {p:eI} {comp sid:ByteArray} {nd:Int} {last:Bool} {x:Int×Int}
def NL (E:Env) (p:eI) (comp:ByteArray) (nd:Int) (sid:ByteArray):Prop:=(pS p comp nd && (E.lang sid || E.dis sid))=false
def NF (E:Env) (p:eI) (comp:ByteArray) (sid:ByteArray):Prop:=(eQ comp && E.fmt sid (fG p 0))=false
def NK (p:eI) (comp:ByteArray) (sid:ByteArray):Prop:=(pA p comp && isKind sid)=false
def NB (sid:ByteArray):Prop:=(sid.toList==[98,97,115,101,111,102])=false
theorem wC (h:(pS p comp nd && (E.lang sid || E.dis sid))=true):(({ p with known:=p.known++[x],lang:=p.known.length,dis:=p.dis || !E.lang sid }:eI),true)=jE E p comp nd last x sid:=by
 unfold jE;rw[if_pos h]
theorem aEz (h1:NL E p comp nd sid) (h:(eQ comp && E.fmt sid (fG p 0))=true):(({ p with known:=p.known++[x],fmt:=p.known.length }:eI),true)=jE E p comp nd last x sid:=by
 unfold jE;rw[if_neg (by rw[show _=false from h1];simp),if_pos h]
theorem aDi (h1:NL E p comp nd sid) (h2:NF E p comp sid) (h:(pA p comp && isKind sid)=true):(({ p with known:=p.known++[x],kind:=p.known.length }:eI),true)=jE E p comp nd last x sid:=by
 unfold jE;rw[if_neg (by rw[show _=false from h1];simp),if_neg (by rw[show _=false from h2];simp),if_pos h]
theorem aDh (h1:NL E p comp nd sid) (h2:NF E p comp sid) (h3:NK p comp sid) (h:(sid.toList==[98,97,115,101,111,102])=true):(({ p with known:=p.known++[x],base:=p.known.length }:eI),true)=jE E p comp nd last x sid:=by
 unfold jE;rw[if_neg (by rw[show _=false from h1];simp),if_neg (by rw[show _=false from h2];simp),if_neg (by rw[show _=false from h3];simp),if_pos h]
theorem aAv (h1:NL E p comp nd sid) (h2:NF E p comp sid) (h3:NK p comp sid) (h4:NB sid) (h:lH p comp last=true) (hl:(p.lay != -1)=false):(({ p with known:=p.known++[x],lay:=p.known.length }:eI),true)=jE E p comp nd last x sid:=by
 unfold jE;rw[if_neg (by rw[show _=false from h1];simp),if_neg (by rw[show _=false from h2];simp),if_neg (by rw[show _=false from h3];simp),if_neg (by rw[show _=false from h4];simp),if_pos h,if_neg (by rw[hl];simp)]
theorem aAw (h1:NL E p comp nd sid) (h2:NF E p comp sid) (h3:NK p comp sid) (h4:NB sid) (h:lH p comp last=true) (hl:(p.lay != -1)=true):(({ p with known:=p.known.set p.lay.toNat x,unknown:=p.unknown++[p.known.getD p.lay.toNat (0,0)] }:eI),true)=jE E p comp nd last x sid:=by
 unfold jE;rw[if_neg (by rw[show _=false from h1];simp),if_neg (by rw[show _=false from h2];simp),if_neg (by rw[show _=false from h3];simp),if_neg (by rw[show _=false from h4];simp),if_pos h,if_pos hl]
theorem aDj (h1:NL E p comp nd sid) (h2:NF E p comp sid) (h3:NK p comp sid) (h4:NB sid) (h:lH p comp last=false):(({ p with unknown:=p.unknown++[x] }:eI),false)=jE E p comp nd last x sid:=by
 unfold jE;rw[if_neg (by rw[show _=false from h1];simp),if_neg (by rw[show _=false from h2];simp),if_neg (by rw[show _=false from h3];simp),if_neg (by rw[show _=false from h4];simp),if_neg (by rw[h];simp)]
theorem wI {lo hi ld:Nat} (h1:idHigh p ld=hi) (h2:p.s.extract lo hi=sid) (hw:mG sid=false) (hk:p.known≠[]):iY E p comp lo ld nd last=jE E p comp nd last ((lo:Int),(hi:Int)) sid:=by
 unfold iY;rw[h1];simp only[h2,hw,if_false,hk,Bool.false_eq_true]
end
open Go.RowKit Go.ZW.PrintLast
section
variable {P:Program} {ops:Array Oper} {Q:Exit→Act→World→Prop}
theorem aF0 {oi:Oper} {N:Option Tmp} {a:Act} {w:World} {K:Act→World→Prop} {f:FuncId} {fn:Func} {x:Operand} {asx:Array Operand} {ts:Array TypeId} (caps:Array Value) (hf:P.funcs[f]? = some fn) (hname:(fn.name == "runtime.NumGoroutine")=false) (hb:fn.body.isSome=true) (args:Array Value)
 (hw:Region.wanted oi (yielded ops a.tmps)=true) (hN:oi.dst=N) (hop:oi.op = .call { callee:=.value x,args:=asx,argTypes:=ts }) (hx:a.eval x = .func (.func f) #[] caps) (hargs:asx.map a.eval=args)
 (h:Calls P f (args++caps) w fun e w'=>∃ v,e = .returned v∧K (a.put N v) w'):if Region.wanted oi (yielded ops a.tmps)=true then Oper.wp P oi a w K Q else K (a.put N undef) w:=by
 refine aHr f (args++caps) hw hN ?_ h;have he:=zB hf hname hb (args++caps) w;unfold execOp
 simp[hop,resolve,Deferred.ofValue,invoke,hx,hargs,he]
end
theorem aAd (x:Int×Int):∀ (l:List (Int×Int)) (j:Nat),((pairs l).set (j * 2) (.int .i64 x.1)).set (j * 2+1) (.int .i64 x.2)=pairs (l.set j x)
 | [],_=>by simp[pairs]
 | _::_,0=>by simp[pairs]
 | a::r,j+1=>by
  have e:(j+1) * 2=(j * 2+1)+1:=by omega
  have e2:(j+1) * 2+1=(j * 2+1+1)+1:=by omega
  rw[e2,e];simp only[pairs,List.set_cons_succ];rw[aAd x r j]
section
variable {w:World} {B b:Nat} {p:eI} {vu vl u:Value} {g n c:Nat}
theorem aHf (H:eG w B b p (.slice (some ⟨g,0,none⟩) n c) vu vl u) (j:Nat) (x:Int×Int) :
 eG ((w.setCell ⟨g,j * 2,none⟩ (.int .i64 x.1)).setCell ⟨g,j * 2+1,none⟩ (.int .i64 x.2)) B b { p with known:=p.known.set j x } (.slice (some ⟨g,0,none⟩) n c) vu vl u ∧
  eY w ((w.setCell ⟨g,j * 2,none⟩ (.int .i64 x.1)).setCell ⟨g,j * 2+1,none⟩ (.int .i64 x.2)) b (.slice (some ⟨g,0,none⟩) n c) vu vl (.slice (some ⟨g,0,none⟩) n c) vu vl:=by
 have hn:n=p.known.length:=by obtain ⟨A,c',e⟩:=fP H.ok;injection e
 have ho:(Value.slice (some ⟨g,0,none⟩) n c).ownBlock=some g:=rfl;have hgb:g≠b:=fun e=>H.nk (by rw[ho,e]);have hok:=H.ok;rw[← hn] at hok;obtain ⟨a1,a2⟩:=hok.stored (j * 2) (.int .i64 x.1);obtain ⟨a3,a4⟩:=a1.stored (j * 2+1) (.int .i64 x.2);rw[aAd] at a3
 have hug:vu.ownBlock≠some g:=by
  rcases H.ku with h | h
  ·rw[ho] at h;cases h
  exact fun e=>h (by rw[ho,e])
 have hlg:vl.ownBlock≠some g:=by
  rcases own_type_ne H.ol H.ok bG with h | h
  ·rw[h];intro e;cases e
  rw[ho] at h;exact h
 have hl:n=(p.known.set j x).length:=by rw[List.length_set];exact hn
 refine ⟨⟨H.base,(H.row.other (a:=⟨g,j * 2,none⟩) hgb _).other (a:=⟨g,j * 2+1,none⟩) hgb _,?_,?_,?_,H.nk,H.nu,H.nl,H.ku⟩,⟨rfl,rfl,rfl,dW,?_,.inl rfl,.inl rfl,.inl rfl⟩⟩
 ·rw[hl] at a3;rw[← hl] at a3 ⊢;exact a3
 ·exact ownsRow_setCell_other (ownsRow_setCell_other H.ou (a:=⟨g,j * 2,none⟩) hug _) (a:=⟨g,j * 2+1,none⟩) hug _
 ·exact ownsRow_setCell_other (ownsRow_setCell_other H.ol (a:=⟨g,j * 2,none⟩) hlg _) (a:=⟨g,j * 2+1,none⟩) hlg _
 intro k hk _ h1 _ _;have hkg:k≠g:=fun e=>h1 (by rw[ho,e]);exact (Below.heap_setCell _ _ _ _ (by simpa using hkg)).trans (Below.heap_setCell _ _ _ _ (by simpa using hkg))
end
end Go.Proofs.YtlkoeeccebmjmaaGreatDoor.Path
