/- Texts that the law leans on: Spec4, Spec5, SFns, Words0. Condition: as told at each. -/
import Derived.Test.YtlkoeeccebmjmaaGreatDoorXa
import Derived.Test.YtlkoeeccebmjmaaGreatDoorX16
set_option linter.unusedVariables false
set_option linter.unusedSimpArgs false
set_option maxRecDepth 100000
set_option maxHeartbeats 16000000
namespace Go.Proofs.YtlkoeeccebmjmaaGreatDoor.Path
open Go.RowKit Go.ZW.PrintWords Go.Proofs.YtlkoeeccebmjmaaGreatDoor.Base Go.Proofs.YtlkoeeccebmjmaaGreatDoor.Total Go.Proofs.YtlkoeeccebmjmaaGreatDoor.Lower
def tH (l:List UInt8):Nat→Int→Int
 | 0,c=>c
 | i+1,c=>tH l i (if l[i]? = some 47∧c = -1 then (i:Int)+1 else c)
def xU (l:List UInt8):Nat→Int→Int
 | 0,s=>s
 | i+1,s=>xU l i (if l[i]? = some 47∧0 < i then (i:Int) else s)
def cntF (l:List UInt8):Nat→Nat
 | 0=>0
 | i+1=>cntF l i+(if l[i]? = some 47 then 1 else 0)
theorem uM {E:Env} {comp:ByteArray} {sk:List Nat} {nd:Int} {l:List UInt8}:∀ (i:Nat) (d:DoV),d.p.cHigh≠-1→d.p.s.data.toList=l →
 (iY E comp sk nd i d).p = { d.p with cLow:=tH l i d.p.cLow,sec:=xU l i d.p.sec }∧(iY E comp sk nd i d).sc=d.sc+cntF l i
 | 0,d,_,_=>⟨rfl,rfl⟩
 | i+1,d,h,hl=>by
  have key:(iL E comp sk nd i d).p = { d.p with cLow:=if l[i]? = some 47∧d.p.cLow = -1 then (i:Int)+1 else d.p.cLow,sec:=if l[i]? = some 47∧0 < i then (i:Int) else d.p.sec }∧(iL E comp sk nd i d).sc=d.sc+(if l[i]? = some 47 then 1 else 0):=by
   unfold iL;rw[xP h,hl]
   by_cases c1:l[i]? = some 46
   ·have c2:¬ l[i]? = some 47:=by rw[c1];decide
    have n1:¬ (l[i]? = some 47∧d.p.cLow = -1):=fun h=>c2 h.1;have n2:¬ (l[i]? = some 47∧0 < i):=fun h=>c2 h.1;rw[if_pos c1,if_neg n1,if_neg n2,if_neg c2];split <;> exact ⟨rfl,rfl⟩
   rw[if_neg c1]
   by_cases c2:l[i]? = some 47
   ·rw[if_pos c2,if_neg h,if_pos c2];refine ⟨?_,rfl⟩;simp only
    by_cases c3:d.p.cLow = -1
    ·have m1:l[i]? = some 47∧d.p.cLow = -1:=⟨c2,c3⟩
     by_cases c4:0 < i
     ·have m2:l[i]? = some 47∧0 < i:=⟨c2,c4⟩
      rw[if_pos c3,if_pos c4,if_pos m1,if_pos m2]
     have m2:¬ (l[i]? = some 47∧0 < i):=fun h=>c4 h.2;rw[if_pos c3,if_neg c4,if_pos m1,if_neg m2]
    have m1:¬ (l[i]? = some 47∧d.p.cLow = -1):=fun h=>c3 h.2
    by_cases c4:0 < i
    ·have m2:l[i]? = some 47∧0 < i:=⟨c2,c4⟩
     rw[if_neg c3,if_pos c4,if_neg m1,if_pos m2]
    have m2:¬ (l[i]? = some 47∧0 < i):=fun h=>c4 h.2;rw[if_neg c3,if_neg c4,if_neg m1,if_neg m2]
   have n1:¬ (l[i]? = some 47∧d.p.cLow = -1):=fun h=>c2 h.1;have n2:¬ (l[i]? = some 47∧0 < i):=fun h=>c2 h.1;rw[if_neg c2,if_neg n1,if_neg n2,if_neg c2];exact ⟨rfl,rfl⟩
  obtain ⟨k1,k2⟩:=key;have e:=uM (E:=E) (comp:=comp) (sk:=sk) (nd:=nd) (l:=l) i (iL E comp sk nd i d) (by rw[k1];exact h) (by rw[k1];exact hl);show (iY E comp sk nd i (iL E comp sk nd i d)).p=_∧(iY E comp sk nd i (iL E comp sk nd i d)).sc=_;rw[e.1,e.2,k1,k2];refine ⟨rfl,?_⟩;show d.sc+(if l[i]? = some 47 then 1 else 0)+cntF l i=d.sc+(cntF l i+if l[i]? = some 47 then 1 else 0);omega
theorem aB2 {E:Env} {comp:ByteArray} {nd:Int}:∀ (cs:List Nat) (d:DoV),(cs.foldl (mB E comp nd) d).sc=d.sc
 | [],_=>rfl
 | c::cs,d=>aB2 cs (mB E comp nd d c)
theorem vO {E:Env} {comp:ByteArray} {p:eE} {q:Nat} {n:List UInt8}:Same p (lT E comp p q n):=by
 have hD:Same p (nS E comp p (q+1) n).p:=sG ((eP n).reverse.map (q+1 + ·)) ⟨p,0,0⟩;unfold lT;split
 ·exact hD.trans (qF _ _ _ _ _ _ _)
 exact hD
theorem aDy (E:Env) (comp s:ByteArray):∃ (T:ByteArray) (q:Nat) (pre n:List UInt8) (d:DoV),L T=gY (L s)∧mX (L T) pre n∧pre.length=q+1∧(L T)[q]? = some 47∧gI E comp s=sI E comp d∧In2 T comp 0 d ∧
 d.p = { lT E comp (iP { fM with comp:=comp } T) q n with cHigh:=(q:Int)+1,cLow:=tH (L T) q (-1),sec:=xU (L T) q (if 0 < q then (q:Int) else -1) }∧d.sc=1+cntF (L T) q:=by
 obtain ⟨T,d,hT,hl,h2,h3,h4,h5⟩:=aDx E comp s;have h0:(L T)[0]? = some 47:=by rw[hl,← List.head?_eq_getElem?];exact mText_head _
 have S:=aC3 (L T) ⟨0,h0⟩
 obtain ⟨pre,hpre⟩:∃ x,(L T).take (behind (L T))=x:=⟨_,rfl⟩
 obtain ⟨n,hn⟩:∃ x,(L T).drop (behind (L T))=x:=⟨_,rfl⟩
 rw[hpre,hn] at S;obtain ⟨q,hq⟩:=S.slash;have hpl:pre.length=q.length+1:=by rw[hq];simp
 have h47:(L T)[q.length]? = some 47:=by rw[S.eq,hq,List.append_assoc,List.getElem?_append_right (Nat.le_refl _),Nat.sub_self];rfl
 have hr:=aFg (E:=E) (comp:=comp) (p:=iP { fM with comp:=comp } T) S;rw[hpl] at hr
 obtain ⟨D,hD⟩:∃ D,nS E comp (iP { fM with comp:=comp } T) (q.length+1) n=D:=⟨_,rfl⟩
 have hD' : ((eP n).reverse.map (q.length+1 + ·)).foldl (mB E comp ((eP n).length:Int)) ⟨iP { fM with comp:=comp } T,0,0⟩=D:=hD;rw[hD'] at hr;have hsame:Same (iP { fM with comp:=comp } T) D.p:=by rw[← hD'];exact sG ((eP n).reverse.map (q.length+1 + ·)) ⟨iP { fM with comp:=comp } T,0,0⟩
 have hsc0:D.sc=0:=by rw[← hD'];exact aB2 ((eP n).reverse.map (q.length+1 + ·)) ⟨iP { fM with comp:=comp } T,0,0⟩
 have hch:D.p.cHigh = -1:=hsame.cHigh;have hst:D.p.s.data.toList[q.length]? = some 47:=by rw[hsame.s];exact h47
 have hws:=vO (E:=E) (comp:=comp) (p:=iP { fM with comp:=comp } T) (q:=q.length) (n:=n)
 obtain ⟨P,hP⟩:∃ P,lT E comp (iP { fM with comp:=comp } T) q.length n=P:=⟨_,rfl⟩
 rw[hP] at hws
 have hP' : (if 0 < D.ld then mId E D.p comp q.length D.ld ((eP n).length:Int) true else D.p)=P:=by
  rw[← hP];unfold lT;rw[hD]
 have hPc:P.cLow = -1:=hws.cLow;have hPs:P.sec = -1:=hws.sec
 have hstep:(iL E comp (lB (iP { fM with comp:=comp } T).s.data.toList) ((eP n).length:Int) q.length D).p = { P with cHigh:=(q.length:Int)+1,sec:=if 0 < q.length then (q.length:Int) else -1 } ∧
  (iL E comp (lB (iP { fM with comp:=comp } T).s.data.toList) ((eP n).length:Int) q.length D).sc=1:=by
  unfold iL;rw[if_neg (by rw[hst];decide),if_pos hst,if_pos hch,hP'];refine ⟨?_,by show D.sc+1=1;rw[hsc0]⟩
  by_cases c:0 < q.length
  ·simp only[if_pos c]
  simp only[if_neg c];rw[← hPs]
 obtain ⟨e1,e2⟩:=hstep;have hrest:=uM (E:=E) (comp:=comp) (sk:=lB (iP { fM with comp:=comp } T).s.data.toList) (nd:=((eP n).length:Int)) (l:=L T) q.length (iL E comp (lB (iP { fM with comp:=comp } T).s.data.toList) ((eP n).length:Int) q.length D) (by rw[e1];show (q.length:Int)+1≠-1;omega) (by rw[e1];show L P.s=L T;rw[hws.s];rfl);have hdd:d=iY E comp (lB (iP { fM with comp:=comp } T).s.data.toList) ((eP n).length:Int) q.length (iL E comp (lB (iP { fM with comp:=comp } T).s.data.toList) ((eP n).length:Int) q.length D):=by rw[h5,hr];rfl
 refine ⟨T,q.length,pre,n,d,hl,S,hpl,h47,h2,h3,?_,?_⟩
 ·rw[hdd,hrest.1,e1,hP];show ({ P with cHigh:=(q.length:Int)+1,cLow:=tH (L T) q.length P.cLow,sec:=_ }:eE)=_;rw[hPc]
 rw[hdd,hrest.2,e2]
section
variable {l:List UInt8}
theorem xW {q:Nat} (h:l[q]? = some 47):∀ m:Nat,q < m→(∀ j,q < j→j < m→l[j]?≠some 47)→slB l m=some q
 | 0,hm,_=>by omega
 | m+1,hm,hn=>by
  unfold slB
  by_cases c:m=q
  ·rw[if_pos (by rw[c];exact h),c]
  rw[if_neg (hn m bA bA)];exact xW h m bA (fun j h1 h2=>hn j h1 bA)
theorem aC2:∀ (m:Nat) {j:Nat},slB l m=some j→l[j]? = some 47∧j < m∧∀ i,j < i→i < m→l[i]?≠some 47
 | 0,j,h=>by cases h
 | m+1,j,h=>by
  unfold slB at h;split at h
  ·rename_i hm
   injection h with h
   subst h;exact ⟨hm,aM,fun i h1 h2=>by omega⟩
  rename_i hm
  obtain ⟨a,b,c⟩:=aC2 m h;refine ⟨a,aM,fun i h1 h2=>?_⟩
  by_cases e:i=m
  ·rw[e];exact hm
  exact c i h1 bA
theorem xV (h:l[0]? = some 47):∀ m:Nat,0 < m→∃ j,slB l m=some j
 | 0,hm=>by omega
 | m+1,_=>by
  unfold slB;split
  ·exact ⟨_,rfl⟩
  rename_i hne
  by_cases c:m=0
  ·subst c;exact absurd h hne
  exact xV h m bA
theorem aCj:∀ (i:Nat) (c:Int),c≠-1→tH l i c=c
 | 0,_,_=>rfl
 | i+1,c,h=>by
  unfold tH;rw[if_neg (fun x=>h x.2)];exact aCj i c h
theorem aEj:∀ (i:Nat),tH l i (-1)=match slB l i with | some j=>(j:Int)+1 | none=>-1
 | 0=>rfl
 | i+1=>by
  unfold tH slB
  by_cases c:l[i]? = some 47
  ·rw[if_pos ⟨c,rfl⟩,if_pos c];exact aCj i _ bA
  rw[if_neg (fun x=>c x.1),if_neg c];exact aEj i
theorem vW:∀ (i s:Nat),i≤s→1≤s→l[s]? = some 47→(∀ j,i≤j→1≤j→j < s→l[j]?≠some 47)→∃ f:Nat,xU l i (s:Int)=(f:Int)∧1≤f∧f≤s∧l[f]? = some 47∧∀ j,1≤j→j < f→l[j]?≠some 47
 | 0,s,_,h1,h2,h3=>⟨s,rfl,h1,Nat.le_refl _,h2,fun j a b=>h3 j bA a b⟩
 | i+1,s,h0,h1,h2,h3=>by
  unfold xU
  by_cases c:l[i]? = some 47∧0 < i
  ·rw[if_pos c];obtain ⟨f,a1,a2,a3,a4,a5⟩:=vW i i (Nat.le_refl _) bA c.1 (fun j b1 b2 b3=>by omega);exact ⟨f,a1,a2,aM,a4,a5⟩
  rw[if_neg c];refine vW i s bA h1 h2 (fun j b1 b2 b3=>?_)
  by_cases e:j=i
  ·subst e;exact fun h=>c ⟨h,aM⟩
  exact h3 j bA b2 b3
theorem rQ:∀ (m:List UInt8) (k:Nat),m[k]? = some 47→(∀ j,j < k→m[j]?≠some 47)→(m.takeWhile fun c=>c != 47)=m.take k
 | [],k,h,_=>by simp at h
 | a::m,0,h,_=>by
  simp only[List.getElem?_cons_zero,Option.some.injEq] at h;subst h;rfl
 | a::m,k+1,h,hn=>by
  have h0:=hn 0 bA;simp only[List.getElem?_cons_zero,ne_eq,Option.some.injEq] at h0;rw[List.takeWhile_cons,if_pos (bne_iff_ne.2 h0),List.take_succ_cons,rQ m k (by simpa using h) (fun j hj=>by have:=hn (j+1) bA;simpa using this)]
theorem uK:∀ i:Nat,i≤l.length→cntF l i=jG (l.take i)
 | 0,_=>rfl
 | i+1,h=>by
  have hi:i < l.length:=by omega
  unfold cntF;rw[uK i bA,List.take_succ_eq_append_getElem hi];unfold jG;rw[List.filter_append,List.length_append,List.getElem?_eq_getElem hi]
  by_cases c:l[i]=47
  ·rw[if_pos (by rw[c]),c];rfl
  rw[if_neg (by simpa using c),List.filter_cons,if_neg (by simpa using c)];rfl
theorem aE0 {m:List UInt8} (h:∀ j:Nat,m[j]?≠some 47):jG m=0:=by
 unfold jG;rw[List.length_eq_zero_iff,List.filter_eq_nil_iff];intro c hc e;obtain ⟨j,hj⟩:=List.mem_iff_getElem?.1 hc;rw[beq_iff_eq] at e;rw[e] at hj;exact h j hj
theorem wL {q:Nat} {pre n:List UInt8} (S:mX l pre n) (hq:pre.length=q+1) (h0:l[0]? = some 47):jG (l.drop 1)=cntF l q∧(cntF l q=0↔q=0):=by
 have hlen:l.length=q+1+n.length:=by rw[S.eq,List.length_append,hq]
 have e1:jG l=cntF l (q+1):=by
  rw[uK _ bA];have e2:l=l.take (q+1)++n:=by rw[S.eq,← hq,List.take_left]
  have e3:jG l=jG (l.take (q+1))+jG n:=by
   conv=>lhs;rw[e2]
   unfold jG;rw[List.filter_append,List.length_append]
  rw[e3,aE0 S.no];omega
 obtain ⟨x,hx⟩:=S.slash
 have h47:l[q]? = some 47:=by
  have hxl:x.length=q:=by have:=congrArg List.length hx;simp at this;omega
  rw[S.eq,hx,List.append_assoc,List.getElem?_append_right bA,hxl,Nat.sub_self];rfl
 have e4:cntF l (q+1)=cntF l q+1:=by rw[show cntF l (q+1)=cntF l q+(if l[q]? = some 47 then 1 else 0) from rfl,if_pos h47]
 cases l with
 | nil=>cases h0
 | cons a m =>
  have ha:a=47:=by simpa using h0
  have e5:jG (a::m)=1+jG m:=by
   unfold jG;rw[List.filter_cons,if_pos (by rw[ha];rfl),List.length_cons];omega
  refine ⟨?_,?_⟩
  ·show jG m=_;omega
  constructor
  ·intro h
   by_cases c:q=0
   ·exact c
   exfalso;rw[uK q bA] at h
   obtain ⟨k,rfl⟩:∃ k,q=k+1:=⟨q - 1,aM⟩
   rw[List.take_succ_cons] at h;unfold jG at h;rw[List.filter_cons,if_pos (by rw[ha];rfl)] at h;cases h
  rintro rfl;rfl
end
structure aJz (p:eE) (st:fF) (r:RV):Prop where
 ids:r.ids=kL p
 unk:r.unk=lQ p
 ix:zL p p.lang p.fmt p.kind p.cust p.pfmt p.pkind p.play p.plangs (fmt0 st p.comp r.ext) r
 lay:fE p p.lay=r.lay1
 dis:p.dis=r.dis
 ext:fE p 0=r.ext
structure PW (st:fF) (T:ByteArray) (q:Nat) (n:List UInt8) (p:eE) (r:RV) (e:Nat) (sc:Nat) (t:Int):Prop where
 split:∃ pre,mX (L T) pre n∧pre.length=q+1
 head:(L T)[0]? = some 47
 h47:(L T)[q]? = some 47
 no:∀ i:Nat,¬ ((L T)[i]? = some 47∧(L T)[i+1]? = some 47)
 s:p.s=T
 cHigh:p.cHigh=(q:Int)+1
 cLow:p.cLow=tH (L T) q (-1)
 sec:p.sec=if t=3∧sc=2 then 0 else xU (L T) q (if 0 < q then (q:Int) else -1)
 sc:sc=1+cntF (L T) q
 nLow:p.nLow=(q:Int)+1
 nHigh:p.nHigh=((q+1+e:Nat):Int)
 le:e≤n.length
 rend:kB r.marks (n.length:Int)=(e:Int)
 words:(p.known=[]∧eP n=[]∧r=kV∧e=n.length∧(p.lang = -1∧p.fmt = -1∧p.kind = -1∧p.cust = -1∧p.pfmt = -1∧p.pkind = -1∧p.play = -1∧p.lay = -1∧p.plangs=[]∧p.unknown=[]∧p.dis=false)) ∨
  (p.known≠[]∧eP n≠[]∧aJz p st r∧0 < e∧r.ext≠⟨#[]⟩∧∃ c:Nat,p.known[0]? = some (((q+1+c+1:Nat):Int),(T.size:Int))∧c < n.length∧n[c]? = some 46∧e≤c)
def aFy (st:fF) (comp T:ByteArray) (n:List UInt8) (r:RV) (e:Nat):Int:=mO st comp (L T) (n.take e) (!r.ids.isEmpty) r.ext r.baseof
theorem aIf {st:fF} (SE:qQ st) (comp s:ByteArray) (K:nX (eO comp) ((gY (L s)).drop (behind (gY (L s))))) (hno:∀ i:Nat,¬ ((L s)[i]? = some 47∧(L s)[i+1]? = some 47)) :
 ∃ (T:ByteArray) (q:Nat) (n:List UInt8) (e sc:Nat),T=⟨(gY (L s)).toArray⟩∧n=(L T).drop (behind (L T)) ∧
  PW st T q n (gI (eH st) comp s) (gL st comp (eY (L T) fS) (lastB T) (eP n)) e sc (aFy st comp T n (gL st comp (eY (L T) fS) (lastB T) (eP n)) e) ∧
  (gI (eH st) comp s).typ=aFy st comp T n (gL st comp (eY (L T) fS) (lastB T) (eP n)) e∧(gI (eH st) comp s).comp=comp∧(gI (eH st) comp s).trim=false:=by
 obtain ⟨T,q,pre,n,d,hl,S,hpl,h47,hm,hI,hd,hsc⟩:=aDy (eH st) comp s;have hn:=S.behind;have hTe:T=⟨(gY (L s)).toArray⟩:=L_inj (hl.trans (jQ _).symm);rw[← hl,hn.1,← hn.2] at K;have hnm:L (lastB T)=n:=by unfold lastB;rw[jQ,hn.1,← hn.2]
 have h0:(L T)[0]? = some 47:=by rw[hl,← List.head?_eq_getElem?];exact mText_head _
 have hnoT:∀ i:Nat,¬ ((L T)[i]? = some 47∧(L T)[i+1]? = some 47):=by rw[hl];exact aBe hno
 have hsz:T.size=q+1+n.length:=by rw[← eD,S.eq,List.length_append,hpl]
 obtain ⟨p0,hp0⟩:∃ p0,iP { fM with comp:=comp } T=p0:=⟨_,rfl⟩
 have hp0' : p0 = { fM with comp:=comp,s:=T,typ:=if eY (L T) fS then 7 else 0 }:=by rw[← hp0];rfl
 rw[hp0] at hd;have hws:=vO (E:=eH st) (comp:=comp) (p:=p0) (q:=q) (n:=n)
 obtain ⟨r,hr⟩:∃ r,gL st comp (eY (L T) fS) (lastB T) (eP n)=r:=⟨_,rfl⟩
 obtain ⟨P,hP⟩:∃ P,lT (eH st) comp p0 q n=P:=⟨_,rfl⟩
 rw[hP] at hws hd;have hPs:P.s=T:=by rw[hws.s,hp0']
 have hPt:P.typ=if eY (L T) fS then 7 else 0:=by rw[hws.typ,hp0']
 have hPc:P.comp=comp:=by rw[hws.comp,hp0']
 have hPr:P.trim=false:=by rw[hws.trim,hp0'];rfl
 -- what the words leave
 obtain ⟨e,he1,he2,he3,hW,hb,hst⟩:∃ e:Nat,P.nEnd=(if eP n=[] then -1 else ((q+1+e:Nat):Int))∧e≤n.length∧kB r.marks (n.length:Int)=(e:Int) ∧
  ((P.known=[]∧eP n=[]∧r=kV∧e=n.length∧P=p0)∨(P.known≠[]∧eP n≠[]∧Rel st comp (eY (L T) fS) T P r∧0 < e∧r.ext≠⟨#[]⟩∧∃ c:Nat,P.known[0]? = some (((q+1+c+1:Nat):Int),(T.size:Int))∧c < n.length∧n[c]? = some 46∧e≤c)) ∧
  (r.baseof=(P.base != -1))∧(eY (L T) fS=true→∀ x,P.known[P.lay.toNat]? = some x→P.lay≠-1→(q:Int)+1 < x.1):=by
  obtain ⟨w1,w2⟩:=aDc (E:=eH st) (comp:=comp) S hpl K (p:=p0) (by rw[hp0']) (by rw[hp0'];rfl) (by rw[hp0'];rfl) (by rw[hp0'];rfl)
  by_cases hc:eP n=[]
  ·have hPp:P=p0:=by rw[← hP];exact w1 hc
   have hrz:r=kV:=by rw[← hr];unfold gL;rw[if_pos hc]
   have hk0:P.known=[]:=by rw[hPp,hp0'];rfl
   refine ⟨n.length,by rw[if_pos hc,hPp,hp0'];rfl,Nat.le_refl _,by rw[hrz];rfl,.inl ⟨hk0,hc,hrz,rfl,hPp⟩,by rw[hrz,hPp,hp0'];rfl,fun _ x hx _=>by rw[hk0] at hx;cases hx⟩
  obtain ⟨R,r1,⟨c,r2,r2'⟩,r3,r4⟩:=aG7 (st:=st) (sc:=eY (L T) fS) S hpl hnm K SE hp0' hc;rw[hP,hr] at R r1;rw[hP] at r4;rw[hr] at r2' r3;obtain ⟨hup,hlt⟩:=rN S
  have hcpos:0 < c:=by
   have hf:=K.first
   cases hs:eP n with
   | nil=>exact absurd hs hc
   | cons a t =>
    rw[hs] at hf r2 hup;have ha:a≠0:=fun h=>hf (by rw[h];rfl);rcases List.mem_cons.1 r2 with h | h
    ·omega
    have:=(List.pairwise_cons.1 hup).1 c h;omega
  obtain ⟨c0,hc0⟩:∃ c,(eP n).getLast? = some c:=by
   cases h:(eP n).getLast? with
   | none=>exact absurd (List.getLast?_eq_none_iff.1 h) hc
   | some c=>exact ⟨c,rfl⟩
  have hcle:c≤c0:=by
   obtain ⟨fr,hfr⟩:=List.getLast?_eq_some_iff.1 hc0;rw[hfr] at r2 hup;rcases List.mem_append.1 r2 with h | h
   ·exact Nat.le_of_lt ((List.pairwise_append.1 hup).2.2 c h c0 bJ)
   rw[List.mem_singleton] at h;omega
  have hH:=w2 c0 hc0;rw[hP] at hH;refine ⟨c,by rw[if_neg hc,r1,r2'];omega,Nat.le_of_lt (hlt c r2),r2',.inr ⟨R.ne,hc,R,hcpos,r3,c0,hH.at_,hlt c0 (List.mem_of_getLast? hc0),(vG n _ _ c0 (List.mem_of_getLast? hc0)).2,hcle⟩,R.base,r4⟩
 have hds:d.p.s=T:=by rw[hd];exact hPs
 have hN:(gD d.p).nLow=(q:Int)+1∧(gD d.p).nHigh=((q+1+e:Nat):Int):=by
  refine ⟨by show d.p.cHigh=_;rw[hd],?_⟩;show (if d.p.cHigh≤d.p.nEnd then d.p.nEnd else (d.p.s.size:Int))=_;rw[hds,hd];show (if (q:Int)+1≤P.nEnd then P.nEnd else (T.size:Int))=_;rw[he1];rcases hW with ⟨_,h,_,h2,_⟩ | ⟨_,h,_⟩
  ·rw[if_pos h,if_neg bA,h2,hsz]
  rw[if_neg h,if_pos bA]
 have hnmt:L (sub (gD d.p).s (gD d.p).nLow (gD d.p).nHigh)=n.take e:=by
  rw[hN.1,hN.2,show (q:Int)+1=((q+1:Nat):Int) by omega,iW,eN];show ((L d.p.s).drop (q+1)).take _=_;rw[hds,S.eq,← hpl,List.drop_left];congr 1;omega
 have hids:r.ids=[]↔d.p.known=[]:=by
  rw[hd];show _↔P.known=[];rcases hW with ⟨h,_,h2,_⟩ | ⟨h,_,R,_⟩
  ·rw[h,h2];simp[kV]
  exact ⟨fun h3=>absurd h3 R.idsNe,fun h3=>absurd h3 h⟩
 have hty:=aGz (st:=st) (comp:=comp) (T:=T) (d:=d) (r:=r) (nm:=n.take e) hds (by rw[hd];exact hPr) (by rw[hd];exact hPc) (by rw[hd];exact hPt) hids
  (by
   intro h;rw[hd] at h ⊢;rcases hW with ⟨h1,_⟩ | ⟨_,_,R,_⟩
   ·exact absurd h1 h
   exact R.ext.str)
  (by rw[hd];exact hb)
  (by
   intro h;rw[hd] at h ⊢;show P.base = -1;rcases hW with ⟨_,_,_,_,h1⟩ | ⟨h1,_⟩
   ·rw[h1,hp0'];rfl
   exact absurd h h1)
  hnmt
  (by
   rw[hN.1,hN.2];constructor
   ·intro h h2;have:=congrArg List.length h2;rw[List.length_take,List.length_nil] at this;omega
   intro h;have:0 < (n.take e).length:=List.length_pos_iff.2 h;rw[List.length_take] at this
   omega)
  (by
   intro hs hlay;rw[hd] at hlay ⊢;show (P.known.getD P.lay.toNat (0,0)).1≠(q:Int)+1;rcases hW with ⟨_,_,_,_,h1⟩ | ⟨_,_,R,_⟩
   ·exfalso;refine hlay ?_;show P.lay = -1;rw[h1,hp0'];rfl
   rcases R.layPos with h | h
   ·exact absurd h hlay
   have hlt:P.lay.toNat < P.known.length:=by omega
   rw[List.getD_eq_getElem?_getD,List.getElem?_eq_getElem hlt,Option.getD_some];have:=hst hs _ (List.getElem?_eq_getElem hlt) hlay
   omega)
 refine ⟨T,q,n,e,d.sc,hTe,by rw[hn.1,← hn.2],?_⟩;rw[hr,hm,hty];refine ⟨⟨⟨pre,S,hpl⟩,h0,h47,hnoT,hds,by show d.p.cHigh=_;rw[hd],by show d.p.cLow=_;rw[hd],?_,hsc,hN.1,hN.2,he2,he3,?_⟩,rfl,by show d.p.comp=comp;rw[hd];exact hPc,by show d.p.trim=false;rw[hd];exact hPr⟩
 ·show (if _∧_ then (0:Int) else d.p.sec)=_;rw[show d.p.sec=xU (L T) q (if 0 < q then (q:Int) else -1) by rw[hd]];rfl
 obtain ⟨F,hF⟩:∃ F:eE,{ gD d.p with typ:=mO st comp (L T) (n.take e) (!r.ids.isEmpty) r.ext r.baseof,sec:=if mO st comp (L T) (n.take e) (!r.ids.isEmpty) r.ext r.baseof=3∧d.sc=2 then 0 else d.p.sec }=F:=⟨_,rfl⟩
 have hFk:F.known=P.known:=by rw[← hF];show d.p.known=_;rw[hd]
 have hFs:F.s=P.s:=by rw[← hF];show d.p.s=_;rw[hd]
 have hFl:F.lay=P.lay:=by rw[← hF];show d.p.lay=_;rw[hd]
 have hFu:F.unknown=P.unknown:=by rw[← hF];show d.p.unknown=_;rw[hd]
 have hFp:F.plangs=P.plangs:=by rw[← hF];show d.p.plangs=_;rw[hd]
 have hFa:F.lang=P.lang∧F.fmt=P.fmt∧F.kind=P.kind∧F.cust=P.cust∧F.pfmt=P.pfmt∧F.pkind=P.pkind∧F.play=P.play∧F.dis=P.dis∧F.comp=P.comp:=by
  rw[← hF];show d.p.lang=_∧d.p.fmt=_∧d.p.kind=_∧d.p.cust=_∧d.p.pfmt=_∧d.p.pkind=_∧d.p.play=_∧d.p.dis=_∧d.p.comp=_;rw[hd];exact ⟨rfl,rfl,rfl,rfl,rfl,rfl,rfl,rfl,rfl⟩
 obtain ⟨a1,a2,a3,a4,a5,a6,a7,a8,a9⟩:=hFa;rw[hF]
 have hstr:∀ i,fE F i=fE P i:=by
  intro i;unfold fE;rw[hFk,hFs]
 rcases hW with ⟨h1,h2,h3,h4,h5⟩ | ⟨h1,h2,R,h3,h4,c,h5,h6⟩
 ·left;rw[hFk,a1,a2,a3,a4,a5,a6,a7,hFl,hFp,hFu,a8];refine ⟨h1,h2,h3,h4,?_⟩;rw[h5,hp0'];exact ⟨rfl,rfl,rfl,rfl,rfl,rfl,rfl,rfl,rfl,rfl,rfl⟩
 right;rw[hFk]
 have G:Grown P F:=⟨hFs,.inr (.inr ⟨hFk,hFl⟩)⟩
 have hix:=R.ix.grown G;refine ⟨h1,h2,⟨?_,?_,?_,?_,by rw[a8];exact R.dis,by rw[hstr];exact R.ext.str⟩,h3,h4,c,h5,h6⟩
 ·rw[R.ids];unfold kL;rw[hFk,hFs]
 ·rw[R.unk];unfold lQ;rw[hFu,hFs]
 ·rw[a1,a2,a3,a4,a5,a6,a7,hFp,a9,hPc];exact hix
 rw[hstr,hFl];rcases R.lay with ⟨h,_,h'⟩ | ⟨_,h,x,hx,h'⟩
 ·rw[h,h'];rfl
 unfold fE;rw[if_neg bA,hx];exact h'
def wV (st:fF) (comp T:ByteArray) (n:List UInt8) (r:RV) (e:Nat) (t:Int):WV :=
 { comp:=comp,path:=T,name:=lastB T,nEnd:=e,ids:=r.ids,unk:=r.unk,langs:=r.langs,ext:=r.ext,fmt:=if eO comp=true∧chooseB r.fmt r.fmt1=⟨#[]⟩∧eP n≠[]∧gX st r.ext=true then r.ext else chooseB r.fmt r.fmt1,kind:=chooseB r.kind r.kind1,lay:=chooseB r.lay r.lay1,lang:=(match r.langs with | []=>r.lang1 | l::_=>l),cust:=r.cust,dis:=r.dis,typ:=t }
theorem aCt {b:Bool} {x:ByteArray} (h:(L x).head?≠some 47):nrm b x=x:=by
 unfold nrm;split
 ·refine L_inj ?_;rw[jQ];unfold Lib.trimPrefix Lib.hasPrefix;rw[if_neg];intro hp;rw[List.isPrefixOf_iff_prefix] at hp;obtain ⟨t,ht⟩:=hp;exact h (by rw[← ht];rfl)
 rfl
theorem aF7 {p:eE} {k0:Int×Int} (h:p.known=[k0]) (b:Bool):iS p true b=nrm p.trim p.s:=by
 unfold iS;rw[h];simp
theorem yG {p:eE} {k0 k1:Int×Int} {rest:List (Int×Int)} (h:p.known=k0::k1::rest) {b:Bool}:iS p true b=nrm p.trim (sub p.s 0 (jT p b)++sub p.s (k0.1 - 1) k0.2):=by
 unfold iS;rw[h];simp
theorem aIz (b:Bool):nrm b ⟨#[]⟩=⟨#[]⟩:=aCt (by rw[show L (⟨#[]⟩:ByteArray)=[] from rfl];decide)
theorem aB0 {w:ByteArray} (h:iE (L w)=true):(⟨(Lib.trimSuffix (Lib.trimPrefix (L w) [95]) [95]).toArray⟩:ByteArray)=fP w:=by
 refine L_inj ?_;unfold iE at h;simp only[Bool.and_eq_true,decide_eq_true_eq,beq_iff_eq] at h;obtain ⟨h1,h2,h3⟩:=h;have hz:=eD w;rw[jQ];unfold fP;rw[eN]
 cases hl:L w with
 | nil=>rw[hl] at h1;simp at h1
 | cons a m =>
  rw[hl] at h1 h2 h3 hz;simp only[List.getElem?_cons_zero,Option.some.injEq] at h2;subst h2
  have e1:Lib.trimPrefix (95::m) [95]=m:=by
   unfold Lib.trimPrefix Lib.hasPrefix;rw[if_pos (by rw[List.isPrefixOf_iff_prefix];exact ⟨m,rfl⟩)];rfl
  have hm:m≠[]:=by rintro rfl;simp at h1
  have e2:m.getLast? = some 95:=by
   rw[List.getLast?_eq_getElem?]
   have:(95::m)[(95::m).length - 1]? = m[m.length - 1]?:=by
    rw[show (95::m).length - 1=(m.length - 1)+1 by have:=List.length_pos_iff.2 hm;simp;omega,List.getElem?_cons_succ]
   rw[← this];exact h3
  rw[e1];unfold Lib.trimSuffix Lib.hasSuffix;rw[if_pos]
  ·show m.take (m.length - 1)=((95::m).drop 1).take (w.size - 1 - 1);rw[show (95::m).drop 1=m from rfl];congr 1;rw[← hz];simp
  rw[List.isSuffixOf_iff_suffix];rw[List.getLast?_eq_some_iff] at e2;obtain ⟨t,ht⟩:=e2;exact ⟨t,ht.symm⟩
section
variable {st:fF} {T:ByteArray} {q:Nat} {n:List UInt8} {p:eE} {r:RV} {e sc:Nat} {t:Int} (P:PW st T q n p r e sc t)
include P
theorem PW.turn {p' : eE} (h:∃ ty tr,p' = { p with typ:=ty,trim:=tr }):PW st T q n p' r e sc t:=by
 obtain ⟨ty,tr,rfl⟩:=h
 have G:Grown p { p with typ:=ty,trim:=tr }:=⟨rfl,.inr (.inr ⟨rfl,rfl⟩)⟩
 refine ⟨P.split,P.head,P.h47,P.no,P.s,P.cHigh,P.cLow,P.sec,P.sc,P.nLow,P.nHigh,P.le,P.rend,?_⟩;rcases P.words with h | ⟨h1,h2,R,h3⟩
 ·exact .inl h
 exact .inr ⟨h1,h2,⟨R.ids,R.unk,R.ix.grown G,R.lay,R.dis,R.ext⟩,h3⟩
theorem PW.size:T.size=q+1+n.length:=by
 obtain ⟨pre,S,hp⟩:=P.split;rw[← eD,S.eq,List.length_append,hp]
theorem PW.ns (j:Nat) (h:q < j):(L T)[j]?≠some 47:=by
 obtain ⟨pre,S,hp⟩:=P.split;rw[S.eq,List.getElem?_append_right bA];exact S.no _
theorem PW.sl:slB (L T) T.size=some q:=xW P.h47 _ (by have:=P.size;omega) (fun j h _=>P.ns j h)
theorem PW.nameL:L (lastB T)=n:=by
 obtain ⟨pre,S,hp⟩:=P.split;unfold lastB;rw[jQ,S.behind.1,← S.behind.2]
theorem PW.nameZ:(lastB T).size=n.length:=by rw[← eD,P.nameL]
theorem PW.text (a b:Nat):T.extract (q+1+a) (q+1+b)=(lastB T).extract a b:=by
 obtain ⟨pre,S,hp⟩:=P.split;exact sB S hp P.nameL a b
theorem PW.name:vV p=lastB T:=by
 obtain ⟨pre,S,hp⟩:=P.split;refine L_inj ?_;unfold vV;rw[P.cHigh,P.s,show (q:Int)+1=((q+1:Nat):Int) by omega,aJq,P.nameL,← hp,S.eq,List.drop_left]
theorem PW.nameNoId:nL p=(lastB T).extract 0 e:=by
 unfold nL;rw[P.nLow,P.nHigh,P.s,show (q:Int)+1=((q+1:Nat):Int) by omega,iW];exact P.text 0 e
theorem PW.dir:xO p=nrm p.trim (hL T):=by
 have h:=P.sl;unfold xO hL;rw[h]
 cases q with
 | zero=>rw[if_pos (by rw[P.cHigh];rfl)]
 | succ a =>
  rw[if_neg (by rw[P.cHigh];omega),P.cHigh,P.s,show ((a+1:Nat):Int)+1 - 1=((a+1:Nat):Int) by omega];rfl
theorem PW.low {a:Nat} (h:q=a+1):∃ j:Nat,slB (L T) (a+1)=some j∧p.cLow=(j:Int)+1∧j < a∧(L T)[j]? = some 47∧∀ i,j < i→i < a+1→(L T)[i]?≠some 47:=by
 subst h;obtain ⟨j,hj⟩:=xV P.head (a+1) bA;obtain ⟨h1,h2,h3⟩:=aC2 _ hj;refine ⟨j,hj,?_,?_,h1,h3⟩
 ·rw[P.cLow,aEj,hj]
 by_cases c:j=a
 ·subst c;exact absurd ⟨h1,P.h47⟩ (P.no j)
 omega
theorem PW.low0 (h:q=0):p.cLow = -1:=by subst h;rw[P.cLow];rfl
theorem PW.lastOf {a j:Nat} (h:q=a+1) (h1:(L T)[j]? = some 47) (h2:j < a) (h3:∀ i,j < i→i < a+1→(L T)[i]?≠some 47):lastB (T.extract 0 (a+1))=T.extract (j+1) (a+1):=by
 have hlen:a+1 < (L T).length:=by rw[eD,P.size];omega
 refine L_inj ?_;have e1:L (T.extract 0 (a+1))=(L T).take (a+1):=by rw[eN];rfl
 have S:mX ((L T).take (a+1)) ((L T).take (j+1)) (((L T).take (a+1)).drop (j+1)):=by
  refine ⟨?_,⟨(L T).take j,?_⟩,fun k=>?_⟩
  ·have:=(List.take_append_drop (j+1) ((L T).take (a+1))).symm;rwa[List.take_take,Nat.min_eq_left bA] at this
  ·obtain ⟨g1,g2⟩:=List.getElem?_eq_some_iff.1 h1;rw[List.take_succ_eq_append_getElem g1,g2]
  rw[List.getElem?_drop,List.getElem?_take];split
  ·exact h3 _ bA bA
  simp
 unfold lastB;rw[jQ,e1,S.behind.1,eN,List.drop_take];congr 2
 all_goals rw[List.length_take];omega
theorem PW.cont:mY p=jB T:=by
 have h:=P.sl;unfold mY jB;rw[h]
 cases q with
 | zero=>rw[if_pos (P.low0 rfl)];rfl
 | succ a =>
  obtain ⟨j,hj,h1,h2,h3,h4⟩:=P.low rfl;rw[if_neg bA,h1,P.cHigh,P.s,show ((a+1:Nat):Int)+1 - 1=((a+1:Nat):Int) by omega,show (j:Int)+1=((j+1:Nat):Int) by omega,iW];simp only[];rw[P.lastOf rfl h3 h2 h4];refine aCt ?_;rw[eN,List.head?_take,if_neg bA,List.head?_drop];exact h4 _ bA bA
theorem PW.contNe {a:Nat} (h:q=a+1):jB T≠⟨#[]⟩:=by
 subst h;obtain ⟨j,hj,h1,h2,h3,h4⟩:=P.low rfl;unfold jB;rw[P.sl];simp only[];rw[P.lastOf rfl h3 h2 h4];intro hh;have h9:=congrArg ByteArray.size hh;rw[← eD,eN,List.length_take,List.length_drop,eD,P.size] at h9;have h0:(⟨#[]⟩:ByteArray).size=0:=rfl;omega
theorem PW.contDir {comp:ByteArray}:mR p=nrm p.trim (mN (wV st comp T n r e p.typ)):=by
 unfold mR mN;show _=nrm p.trim (if jL p.typ=true∧jB T≠⟨#[]⟩ then (hL T).extract 0 ((slB (L (hL T)) (hL T).size).getD 0) else hL T)
 by_cases h0:q=0
 ·have hc:jB T=⟨#[]⟩:=by
   unfold jB;rw[P.sl,h0]
  rw[if_pos (.inl (P.low0 h0)),if_neg (fun h=>h.2 hc)];exact P.dir
 obtain ⟨a,ha⟩:∃ a,q=a+1:=⟨q - 1,aM⟩
 obtain ⟨j,hj,h1,h2,h3,h4⟩:=P.low ha;have hne:=P.contNe ha
 by_cases hb:3≤p.typ∧p.typ≤5
 ·rw[if_neg (by rintro (h | h) <;> first | omega | exact h hb),if_pos ⟨by unfold jL;exact decide_eq_true hb,hne⟩,h1,P.s,show (j:Int)+1 - 1=(j:Int) by omega]
  have hd:hL T=T.extract 0 (a+1):=by
   unfold hL;rw[P.sl,ha]
  have hz:(T.extract 0 (a+1)).size=a+1:=by
   rw[← eD,eN,List.length_take,List.length_drop,eD,P.size];omega
  have hs:slB (L (hL T)) (hL T).size=some j:=by
   rw[hd,hz];refine xW ?_ _ bA (fun i g1 g2=>?_)
   ·rw[eN,List.drop_zero,List.getElem?_take,if_pos bA];exact h3
   rw[eN,List.drop_zero,List.getElem?_take,if_pos bA];exact h4 i g1 bA
  rw[hs,Option.getD_some,hd];congr 1;refine L_inj ?_;rw[show (0:Int)=((0:Nat):Int) from rfl,iW,eN,eN,eN,List.drop_zero,List.drop_zero,List.take_take];congr 1;omega
 rw[if_pos (.inr hb),if_neg (by rintro ⟨h,_⟩;unfold jL at h;exact hb (of_decide_eq_true h))];exact P.dir
theorem PW.section_:iT p=qN T t:=by
 obtain ⟨pre,S,hp⟩:=P.split;obtain ⟨c1,c2⟩:=wL S hp P.head;unfold iT qN;rw[c1]
 by_cases h0:q=0
 ·have a1:cntF (L T) q=0∨(cntF (L T) q=1∧t=3):=.inl (c2.2 h0)
  have a2:p.sec≤0:=by
   rw[P.sec,h0,if_neg (by omega:¬ 0 < 0)];split
   ·exact Int.le_refl _
   show (-1:Int)≤0;decide
  rw[if_pos a2,if_pos a1];rfl
 have hne:cntF (L T) q≠0:=fun h=>h0 (c2.1 h);obtain ⟨f,f1,f2,f3,f4,f5⟩:=vW (l:=L T) q q (Nat.le_refl _) bA P.h47 (fun j a b c=>by omega)
 by_cases h3:t=3∧sc=2
 ·have a1:cntF (L T) q=0∨(cntF (L T) q=1∧t=3):=.inr ⟨by have:=P.sc;omega,h3.1⟩;have a2:p.sec≤0:=by rw[P.sec,if_pos h3];exact Int.le_refl _
  rw[if_pos a2,if_pos a1];rfl
 have hs:p.sec=(f:Int):=by rw[P.sec,if_neg h3,if_pos bA,f1]
 have a1:¬ (cntF (L T) q=0∨(cntF (L T) q=1∧t=3)):=by
  rintro (h | ⟨h,h'⟩)
  ·exact hne h
  exact h3 ⟨h',by have:=P.sc;omega⟩
 have a2:¬ (p.sec≤0):=by rw[hs];omega
 rw[if_neg a2,if_neg a1,hs,P.s,show (1:Int)=((1:Nat):Int) from rfl,iW]
 have htw:((L T).drop 1).takeWhile (fun c=>c != 47)=((L T).drop 1).take (f - 1):=by
  refine rQ _ _ ?_ (fun j hj=>?_)
  ·rw[List.getElem?_drop,show 1+(f - 1)=f by omega];exact f4
  rw[List.getElem?_drop];exact f5 _ bA bA
 rw[htw];have e1:(⟨(((L T).drop 1).take (f - 1)).toArray⟩:ByteArray)=T.extract 1 f:=L_inj (by rw[jQ,eN]);rw[e1];refine aCt ?_;rw[eN,List.head?_take];split
 ·simp
 rw[List.head?_drop];intro h;exact P.no 0 ⟨P.head,h⟩
theorem PW.high:jT p false=((q+1+e:Nat):Int):=by
 unfold jT;simp only[Bool.false_eq_true,if_false];rw[P.nHigh,if_neg bA]
theorem PW.cat:T.extract 0 (T.size - (lastB T).size)++(lastB T).extract 0 e=T.extract 0 (q+1+e):=by
 refine L_inj ?_;have hz:=P.size;rw[lY,P.nameZ,← P.text 0 e,eN,eN,eN,hz,show q+1+n.length - n.length=q+1 by omega,List.drop_zero,Nat.sub_zero,Nat.sub_zero,Nat.add_zero,show q+1+e - (q+1)=e by omega];exact (List.take_add ..).symm
theorem PW.idsNe (h:p.known≠[]):r.ids≠[]:=by
 rcases P.words with ⟨h1,_⟩ | ⟨_,_,R,_⟩
 ·exact absurd h1 h
 rw[R.ids];unfold kL;simpa using h
theorem PW.none (h:p.known=[]):r=kV∧eP n=[]∧e=n.length:=by
 rcases P.words with ⟨_,h1,h2,h3,_⟩ | ⟨h1,_⟩
 ·exact ⟨h2,h1,h3⟩
 exact absurd h h1
theorem PW.point (h:p.known≠[]):∃ (c:Nat) (rest:List (Int×Int)),p.known=(((q+1+c+1:Nat):Int),(T.size:Int))::rest∧c < n.length∧r.ext=T.extract (q+1+c+1) T.size∧r.ext.size=n.length - c - 1∧(L T)[q+1+c]? = some 46∧e≤c:=by
 rcases P.words with ⟨h1,_⟩ | ⟨_,_,R,_,_,c,h1,h2,h46,hec⟩
 ·exact absurd h1 h
 cases hk:p.known with
 | nil=>exact absurd hk h
 | cons x rest =>
  rw[hk] at h1;injection h1 with h1
  subst h1
  have e1:r.ext=T.extract (q+1+c+1) T.size:=by
   rw[← R.ext];unfold fE;rw[if_neg bF,hk,P.s];exact iW _ _ _
  refine ⟨c,rest,rfl,h2,e1,?_,?_,hec⟩;rotate_left
  ·obtain ⟨pre,S,hp⟩:=P.split;rw[S.eq,List.getElem?_append_right bA,show q+1+c - pre.length=c by omega];exact h46
  rw[e1,← eD,eN,List.length_take,List.length_drop,eD,P.size];omega
theorem PW.noId {comp:ByteArray} {ty:Int}:iS p false false=nrm p.trim (kE (wV st comp T n r e ty)):=by
 unfold iS kE qV;show _=nrm p.trim (if r.ids=[] then T else T.extract 0 (T.size - (lastB T).size)++(lastB T).extract 0 e)
 cases hk:p.known with
 | nil =>
  obtain ⟨hr,_⟩:=P.none hk;rw[if_pos (by rw[hr];rfl),P.s]
 | cons k0 rest =>
  rw[if_neg (P.idsNe (by rw[hk];simp)),P.cat];simp only[Bool.false_eq_true,false_and,if_false];rw[P.high,P.s];rfl
theorem PW.noExt {comp:ByteArray} {ty:Int}:oJ p=kH (wV st comp T n r e ty) (lastB T):=by
 unfold oJ kH;show _=if r.ids=[] then lastB T else (lastB T).extract 0 ((lastB T).size - r.ext.size - 1)
 cases hk:p.known with
 | nil =>
  obtain ⟨hr,_⟩:=P.none hk;rw[if_pos (by rw[hr];rfl)];exact P.name
 | cons k0 rest =>
  have hne:p.known≠[]:=by rw[hk];simp
  obtain ⟨c,rest',h1,h2,h3,h4,_⟩:=P.point hne;rw[hk] at h1;injection h1 with h1 _
  rw[if_neg (P.idsNe hne),h1,h4,P.nameZ,P.cHigh,P.s];show sub T ((q:Int)+1) (((q+1+c+1:Nat):Int) - 1)=_;rw[show (q:Int)+1=((q+1+0:Nat):Int) by omega,show ((q+1+c+1:Nat):Int) - 1=((q+1+c:Nat):Int) by omega,iW,P.text 0 c];congr 1;omega
theorem PW.before {comp:ByteArray} {ty:Int}:qX p=nrm p.trim (kH (wV st comp T n r e ty) T):=by
 unfold qX kH;show _=nrm p.trim (if r.ids=[] then T else T.extract 0 (T.size - r.ext.size - 1))
 cases hk:p.known with
 | nil =>
  obtain ⟨hr,_⟩:=P.none hk;rw[if_pos (by rw[hr];rfl),P.s]
 | cons k0 rest =>
  have hne:p.known≠[]:=by rw[hk];simp
  obtain ⟨c,rest',h1,h2,h3,h4,_⟩:=P.point hne;rw[hk] at h1;injection h1 with h1 _
  rw[if_neg (P.idsNe hne),h1,h4,P.s];show nrm p.trim (sub T 0 (((q+1+c+1:Nat):Int) - 1))=_;rw[show ((q+1+c+1:Nat):Int) - 1=((q+1+c:Nat):Int) by omega,show (0:Int)=((0:Nat):Int) from rfl,iW,P.size];congr 2;omega
theorem PW.withExt (h:p.known≠[]):∃ k0 rest,p.known=k0::rest∧sub p.s 0 (jT p false)++sub p.s (k0.1 - 1) k0.2=T.extract 0 (T.size - (lastB T).size)++(lastB T).extract 0 e++⟨#[46]⟩++r.ext:=by
 obtain ⟨c,rest,h1,h2,h3,h4,hdot,_⟩:=P.point h;refine ⟨_,rest,h1,?_⟩;rw[P.cat,P.high,P.s];show sub T 0 ((q+1+e:Nat):Int)++sub T (((q+1+c+1:Nat):Int) - 1) (T.size:Int)=_;rw[show ((q+1+c+1:Nat):Int) - 1=((q+1+c:Nat):Int) by omega,show (0:Int)=((0:Nat):Int) from rfl,iW,iW,h3];refine L_inj ?_;rw[lY,lY,lY,List.append_assoc];congr 1;rw[eN,eN];have hlt:q+1+c < (L T).length:=by rw[eD,P.size];omega
 rw[List.take_of_length_le (by rw[List.length_drop,eD];omega),List.take_of_length_le (by rw[List.length_drop,eD];omega),List.drop_eq_getElem_cons hlt];rw[List.getElem?_eq_getElem hlt] at hdot;injection hdot with hdot
 rw[hdot];rfl
theorem PW.oneKnown:r.ids.length=p.known.length:=by
 rcases P.words with ⟨h1,_,h2,_⟩ | ⟨_,_,R,_⟩
 ·rw[h1,h2];rfl
 rw[R.ids];unfold kL;rw[List.length_map]
theorem PW.pathNe (x:ByteArray) (hx:∃ k,L x=(L T).take k) (b:Bool):L (nrm b x)=[47]→b=false∧L x=[47]:=by
 intro h;obtain ⟨k,hk⟩:=hx
 cases b with
 | false=>exact ⟨rfl,h⟩
 | true =>
  exfalso;unfold nrm at h;rw[if_pos rfl,jQ,hk] at h
  cases k with
  | zero=>rw[List.take_zero] at h;cases h
  | succ k =>
   have h0:=P.head
   cases hl:L T with
   | nil=>rw[hl] at h0;cases h0
   | cons a m =>
    rw[hl] at h0 h;simp only[List.getElem?_cons_zero,Option.some.injEq] at h0;subst h0;rw[List.take_succ_cons] at h;unfold Lib.trimPrefix Lib.hasPrefix at h;rw[if_pos (by rw[List.isPrefixOf_iff_prefix];exact ⟨_,rfl⟩)] at h;have h2:(m.take k)=[47]:=h
    have h3:m[0]? = some 47:=by
     have:=congrArg (fun l=>l[0]?) h2;simp only[List.getElem?_cons_zero] at this;rw[List.getElem?_take] at this;split at this
     ·exact this
     cases this
    exact P.no 0 ⟨by rw[hl];rfl,by rw[hl];exact h3⟩
theorem PW.base {comp:ByteArray}:iV p=nrm p.trim (lL (wV st comp T n r e p.typ)):=by
 unfold iV lL;show (if _ then _ else _)=nrm p.trim (if r.ids=[] then (if T=⟨#[47]⟩∧2≤p.typ∧p.typ≤5 then ⟨#[]⟩ else T) else if jL p.typ=true then (if hL T=⟨#[47]⟩ then ⟨#[]⟩ else hL T) else if p.typ=2 then kE (wV st comp T n r e p.typ) else if r.ids.length=1 then T else kE (wV st comp T n r e p.typ)++⟨#[46]⟩++r.ext)
 have hone:∀ x:ByteArray,x=⟨#[47]⟩↔L x=[47]:=fun x=>⟨fun h=>by rw[h];rfl,fun h=>L_inj (by rw[h];rfl)⟩
 have empt:(ByteArray.empty:ByteArray)=nrm p.trim ⟨#[]⟩:=by rw[aIz];rfl
 have take:∀ (x:ByteArray) (k:Nat),x=T.extract 0 k→∃ k,L x=(L T).take k:=by
  rintro x k rfl;exact ⟨k,by rw[eN];rfl⟩
 have whole:∃ k,L T=(L T).take k:=⟨(L T).length,(List.take_of_length_le (Nat.le_refl _)).symm⟩
 -- whatever the base is: where it is not / alone,or it is no page
 have key:∀ (B0 x y:ByteArray),B0=nrm p.trim x→(∃ k,L x=(L T).take k)→(2≤p.typ∧p.typ≤5)→y=(if L x=[47] then ⟨#[]⟩ else x)→(if B0.toList=[47]∧2≤p.typ∧p.typ≤5 then ByteArray.empty else B0)=nrm p.trim y:=by
  rintro B0 x y rfl hx hc rfl;rw[L_toList]
  by_cases h:L x=[47]
  ·rw[if_pos h,← empt]
   by_cases h2:L (nrm p.trim x)=[47]
   ·rw[if_pos ⟨h2,hc⟩]
   rw[if_neg (fun hh=>h2 hh.1)]
   cases hb:p.trim with
   | false=>rw[hb] at h2;exact absurd h h2
   | true =>
    refine L_inj ?_;unfold nrm;rw[if_pos rfl,jQ,h];rfl
  rw[if_neg h,if_neg (fun hh=>h (P.pathNe x hx _ hh.1).2)]
 cases hk:p.known with
 | nil =>
  obtain ⟨hr,_⟩:=P.none hk
  have hb:∀ a b,iS p a b=nrm p.trim T:=by
   intro a b;unfold iS;rw[hk,P.s]
  have a1:r.ids=[]:=by rw[hr];rfl
  rw[if_pos a1,hb]
  by_cases hc:2≤p.typ∧p.typ≤5
  ·refine key _ T _ rfl whole hc ?_
   by_cases h:L T=[47]
   ·rw[if_pos h,if_pos ⟨(hone T).2 h,hc⟩]
   rw[if_neg h,if_neg (fun hh=>h ((hone T).1 hh.1))]
  rw[if_neg (fun h=>hc h.2:¬ ((nrm p.trim T).toList=[47]∧2≤p.typ∧p.typ≤5)),if_neg (fun h=>hc h.2:¬ (T=⟨#[47]⟩∧2≤p.typ∧p.typ≤5))]
 | cons k0 rest =>
  have hne:p.known≠[]:=by rw[hk];simp
  have a1:¬ (r.ids=[]):=P.idsNe hne;rw[if_neg a1]
  by_cases hc:2≤p.typ∧p.typ≤5
  ·have e1:(!decide (2≤p.typ∧p.typ≤5))=false:=by rw[decide_eq_true hc];rfl
   rw[e1]
   by_cases hbn:3≤p.typ∧p.typ≤5
   ·have e2:decide (3≤p.typ∧p.typ≤5)=true:=decide_eq_true hbn;rw[e2,if_pos (show jL p.typ=true from e2)]
    have hb:iS p false true=nrm p.trim (T.extract 0 (if q=0 then 1 else q)):=by
     unfold iS;rw[hk];simp only[Bool.false_eq_true,false_and,if_false];unfold jT;simp only[if_true];rw[P.cHigh,P.s,show (q:Int)+1 - 1=(q:Int) by omega]
     by_cases h0:q=0
     ·rw[if_pos bA,if_pos h0];rfl
     rw[if_neg bA,if_neg h0];rfl
    refine key _ (T.extract 0 (if q=0 then 1 else q)) _ hb (take _ _ rfl) hc ?_
    have hd:hL T=if q=0 then ⟨#[47]⟩ else T.extract 0 q:=by
     unfold hL;rw[P.sl]
     cases q with
     | zero=>rfl
     | succ a=>rfl
    by_cases h0:q=0
    ·rw[if_pos h0] at hd;rw[if_pos h0,hd,if_pos rfl,if_pos];have hlt:0 < (L T).length:=by rw[eD,P.size];omega
     rw[eN,List.drop_zero];have hh:=P.head
     cases hl:L T with
     | nil=>rw[hl] at hlt;simp at hlt
     | cons a m =>
      rw[hl] at hh;simp only[List.getElem?_cons_zero,Option.some.injEq] at hh;rw[hh];rfl
    rw[if_neg h0] at hd;rw[if_neg h0,hd]
    have hne2:L (T.extract 0 q)≠[47]:=by
     intro h
     obtain ⟨a,ha⟩:∃ a,q=a+1:=⟨q - 1,aM⟩
     obtain ⟨j,_,_,h2,_⟩:=P.low ha;have:=congrArg List.length h;rw[eN,List.length_take,List.length_drop,eD,P.size] at this
     simp at this
     omega
    rw[if_neg hne2,if_neg (fun h=>hne2 ((hone _).1 h))]
   have e2:decide (3≤p.typ∧p.typ≤5)=false:=decide_eq_false hbn;rw[e2,if_neg (show ¬ (jL p.typ=true) by unfold jL;rw[e2];decide),if_pos (by omega:p.typ=2)]
   have hw:kE (wV st comp T n r e p.typ)=T.extract 0 (q+1+e):=by
    unfold kE;show (if r.ids=[] then T else qV _++_)=_;rw[if_neg (P.idsNe hne)];exact P.cat
   refine key _ (T.extract 0 (q+1+e)) _ ?_ (take _ _ rfl) hc ?_
   ·rw[P.noId (comp:=comp) (ty:=p.typ),hw]
   have hpos:0 < e:=by
    rcases P.words with ⟨h1,_⟩ | ⟨_,_,_,h,_⟩
    ·exact absurd h1 hne
    exact h
   rw[hw,if_neg];intro h;have:=congrArg List.length h;rw[eN,List.length_take,List.length_drop,eD,P.size] at this;have hle:=P.le
   simp at this
   omega
  have e1:(!decide (2≤p.typ∧p.typ≤5))=true:=by rw[decide_eq_false hc];rfl
  have e2:decide (3≤p.typ∧p.typ≤5)=false:=decide_eq_false (fun h=>hc ⟨aM,h.2⟩);have b1:¬ ((iS p (!decide (2≤p.typ∧p.typ≤5)) (decide (3≤p.typ∧p.typ≤5))).toList=[47]∧2≤p.typ∧p.typ≤5):=fun h=>hc h.2;have b2:¬ (jL p.typ=true):=by unfold jL;rw[e2];decide
  have b3:¬ (p.typ=2):=fun h=>hc bA;rw[if_neg b1,if_neg b2,if_neg b3,e1,e2,P.oneKnown];obtain ⟨k0',rest',hk',hw⟩:=P.withExt hne;rw[hk] at hk';injection hk' with h1 h2
  subst h1 h2
  cases rest with
  | nil =>
   have b4:p.known.length=1:=by rw[hk];rfl
   rw[if_pos b4,aF7 hk,P.s]
  | cons k1 rest =>
   have b4:¬ (p.known.length=1):=by rw[hk];simp
   rw[if_neg b4,yG hk,hw];unfold kE;show _=nrm p.trim ((if r.ids=[] then T else qV _++_)++_++_);rw[if_neg a1];rfl
theorem PW.langIs:vU p=(match r.langs with | []=>r.lang1 | l::_=>l)∧((p.plangs≠[]∨mK p p.lang≠-1)↔(match r.langs with | []=>r.lang1 | l::_=>l)≠⟨#[]⟩)∧((p.plangs≠[]∨mK p p.lang≠-1)→2≤p.known.length):=by
 unfold vU;rcases P.words with ⟨h1,_,hr,_,h2,_,_,_,_,_,_,_,h3,_⟩ | ⟨h1,_,R,_⟩
 ·rw[h3,h2,hr];refine ⟨rfl,⟨?_,fun h=>absurd rfl h⟩,?_⟩
  ·rintro (h | h)
   ·exact absurd rfl h
   exact absurd (by unfold mK;rw[if_pos (.inl bF)]) h
  rintro (h | h)
  ·exact absurd rfl h
  exact absurd (by unfold mK;rw[if_pos (.inl bF)]) h
 have I:=R.ix
 cases hp:p.plangs with
 | nil =>
  have hl:r.langs=[]:=by rw[I.langs,hp];rfl
  rw[hl];refine ⟨I.lang.str,?_,?_⟩
  ·simp only[ne_eq,not_true_eq_false,false_or];rcases I.lang with ⟨h2,h3⟩ | ⟨h2,h3⟩
   ·rw[h2,h3];exact ⟨fun h=>absurd (by unfold mK;rw[if_pos (.inl bF)]) h,fun h=>absurd rfl h⟩
   obtain ⟨g0,_,x,g1,_⟩:=h2;have:=(List.getElem?_eq_some_iff.1 g1).1;refine ⟨fun _=>h3,fun _=>?_⟩;unfold mK;rw[if_neg bA];omega
  rintro (h | h)
  ·exact absurd rfl h
  unfold mK at h;split at h
  ·exact absurd rfl h
  rename_i hh
  have:=I.pos.1;omega
 | cons i rest =>
  have hl:r.langs=fE p i::rest.map (fE p):=by rw[I.langs,hp];rfl
  rw[hl];refine ⟨rfl,⟨fun _=>I.lne _ (by rw[hl];exact List.mem_cons_self ..),fun _=>.inl bJ⟩,fun _=>?_⟩;obtain ⟨g0,_,x,g1,_⟩:=I.pl i (by rw[hp];exact List.mem_cons_self ..);have:=(List.getElem?_eq_some_iff.1 g1).1;have:=I.pos.2 i (by rw[hp];exact List.mem_cons_self ..);omega
theorem PW.noLang {comp:ByteArray} {ty:Int}:qZ p=nrm p.trim (mG (wV st comp T n r e ty)):=by
 obtain ⟨h1,h2,h3⟩:=P.langIs;unfold qZ mG;show _=nrm p.trim (if (match r.langs with | []=>r.lang1 | l::_=>l)=⟨#[]⟩ then T else T.extract 0 (T.size - (lastB T).size)++(lastB T).extract 0 e++⟨#[46]⟩++r.ext)
 by_cases c:p.plangs≠[]∨mK p p.lang≠-1
 ·have hlen:=h3 c;have hne:p.known≠[]:=by intro h;rw[h] at hlen;simp at hlen
  obtain ⟨k0,rest,hk,hw⟩:=P.withExt hne;have a1:¬ ((match r.langs with | []=>r.lang1 | l::_=>l)=⟨#[]⟩):=h2.1 c;rw[if_pos c,if_neg a1,← hw]
  cases rest with
  | nil=>rw[hk] at hlen;simp at hlen
  | cons k1 rest=>exact yG hk
 rw[if_neg c,if_pos (by
  by_cases h:(match r.langs with | []=>r.lang1 | l::_=>l)=⟨#[]⟩
  ·exact h
  exact absurd (h2.2 h) c),P.s]
theorem PW.extIs:fE p 0=r.ext:=by
 rcases P.words with ⟨h1,_,hr,_⟩ | ⟨_,_,R,_⟩
 ·rw[hr];unfold fE;rw[if_neg bF,h1];rfl
 exact R.ext
theorem PW.fmtIs {comp:ByteArray} {ty:Int} (hc:p.comp=comp):aCn p=(wV st comp T n r e ty).fmt:=by
 show _=if eO comp=true∧chooseB r.fmt r.fmt1=⟨#[]⟩∧eP n≠[]∧gX st r.ext=true then r.ext else chooseB r.fmt r.fmt1
 have hx:=P.extIs;unfold aCn chooseB;rcases P.words with ⟨h1,h2,hr,_,_,h3,_,_,h4,_⟩ | ⟨h1,h2,R,_⟩
 ·rw[if_pos h4,h3,hr,if_neg (fun h=>h.2.2.1 h2)];rfl
 rcases R.ix.pfmt with ⟨a1,a2⟩ | ⟨a1,a2⟩
 ·rw[if_pos a1,a2,if_pos rfl];rcases R.ix.fmt with ⟨b1,b2⟩ | ⟨b1,b2⟩
  ·rw[b1,b2];unfold fmt0;rw[hc]
   by_cases c:(eO comp && gX st r.ext)=true
   ·rw[if_pos c,hx];rw[Bool.and_eq_true] at c;rw[if_pos ⟨c.1,rfl,h2,c.2⟩]
   rw[if_neg c,if_neg (fun h=>c (by rw[Bool.and_eq_true];exact ⟨h.1,h.2.2.2⟩))];rfl
  rw[b2.str,if_neg (fun h=>b1 h.2.1)]
 rw[if_neg (by have:=a1.1;omega),a1.str,if_neg a2,if_neg (fun h=>a2 h.2.1)]
theorem PW.kindIs:yS p=chooseB r.kind r.kind1:=by
 unfold yS chooseB;rcases P.words with ⟨h1,h2,hr,_,_,_,h3,_,_,h4,_⟩ | ⟨h1,h2,R,_⟩
 ·rw[if_pos h4,h3,hr];rfl
 rcases R.ix.pkind with ⟨a1,a2⟩ | ⟨a1,a2⟩
 ·rw[if_pos a1,a2,if_pos rfl];exact R.ix.kind.str
 rw[if_neg (by have:=a1.1;omega),a1.str,if_neg a2]
theorem PW.layIs:sQ p=chooseB r.lay r.lay1:=by
 unfold sQ chooseB;rcases P.words with ⟨h1,h2,hr,_,_,_,_,_,_,_,h4,h3,_⟩ | ⟨h1,h2,R,_⟩
 ·rw[if_pos h4,h3,hr];rfl
 rcases R.ix.play with ⟨a1,a2⟩ | ⟨a1,a2⟩
 ·rw[if_pos a1,a2,if_pos rfl];exact R.lay
 rw[if_neg (by have:=a1.1;omega),a1.str,if_neg a2]
theorem PW.custIs:pR p=r.cust:=by
 unfold pR;have h0:(⟨(Lib.trimSuffix (Lib.trimPrefix (L (fE p (-1))) [95]) [95]).toArray⟩:ByteArray)=⟨#[]⟩:=rfl;rcases P.words with ⟨h1,h2,hr,_,_,_,_,h3,_⟩ | ⟨h1,h2,R,_⟩
 ·rw[h3,hr];rfl
 rcases R.ix.cust with ⟨a1,a2⟩ | ⟨w,a1,a2,a3⟩
 ·rw[a1,a2];rfl
 rw[a1.str,a3];exact aB0 a2
theorem PW.lists:kL p=r.ids∧lQ p=r.unk∧kP p=r.langs∧p.dis=r.dis:=by
 rcases P.words with ⟨h1,h2,hr,_,_,_,_,_,_,_,_,_,h3,h4,h5⟩ | ⟨h1,h2,R,_⟩
 ·unfold kL lQ kP;rw[h1,h3,h4,h5,hr];exact ⟨rfl,rfl,rfl,rfl⟩
 exact ⟨R.ids.symm,R.unk.symm,R.ix.langs.symm,R.dis⟩
end
def yX (w:WV) (t:Int) (b:Bool):gN :=
 { lJ w with
  section_:=qN w.path t
  containerDir:=nrm b (mN w)
  dir:=nrm b (hL w.path)
  path:=nrm b w.path
  pathNoLang:=nrm b (mG w)
  pathNoId:=nrm b (kE w)
  pathBefore:=nrm b (kH w w.path)
  base:=nrm b (lL w)
  idBase:=nrm b (if eO w.comp=true then w.path else lL w) }
theorem aFs (w:WV):yX w w.typ false=lJ w:=rfl
theorem aI7 {st:fF} {T:ByteArray} {q:Nat} {n:List UInt8} {p:eE} {r:RV} {e sc:Nat} {t:Int} (P:PW st T q n p r e sc t) (comp:ByteArray) (hc:p.comp=comp) :
 kA p=yX (wV st comp T n r e p.typ) t p.trim:=by
 obtain ⟨l1,l2,l3,l4⟩:=P.lists
 have hb:qY p=nrm p.trim (if eO comp=true then T else lL (wV st comp T n r e p.typ)):=by
  unfold qY eO;rw[hc]
  by_cases c:comp.toList=[108,97,121,111,117,116,115]
  ·rw[if_pos c,if_pos (beq_iff_eq.2 c),P.s]
  rw[if_neg c,if_neg (fun h=>c (beq_iff_eq.1 h))];exact P.base
 have hbn:nK p=if jL p.typ=true then jB T else (lastB T).extract 0 e:=by
  unfold nK jL
  by_cases c:3≤p.typ∧p.typ≤5
  ·rw[if_pos c,if_pos (decide_eq_true c)];exact P.cont
  rw[if_neg c,if_neg (by rw[decide_eq_false c];decide)];exact P.nameNoId
 unfold kA;rw[hc,P.cont,P.contDir (comp:=comp),P.section_,P.name,P.noExt (comp:=comp) (ty:=p.typ),hbn,P.nameNoId,P.dir,P.s,P.noLang (comp:=comp) (ty:=p.typ),P.noId (comp:=comp) (ty:=p.typ),P.before (comp:=comp) (ty:=p.typ),P.base (comp:=comp),hb,P.extIs,P.fmtIs (ty:=p.typ) hc,P.kindIs,P.layIs,P.langIs.1,P.custIs,l1,l2,l3,l4];rfl
theorem aJn {st:fF} {comp T:ByteArray} {q:Nat} {n:List UInt8} {p:eE} {e sc:Nat} {t:Int}
 (P:PW st T q n p (gL st comp (eY (L T) fS) (lastB T) (eP n)) e sc t):wOf st comp T=wV st comp T n (gL st comp (eY (L T) fS) (lastB T) (eP n)) e (aFy st comp T n (gL st comp (eY (L T) fS) (lastB T) (eP n)) e):=by
 have hn:=P.nameL
 have he:(kB (gL st comp (eY (L T) fS) (lastB T) (eP n)).marks ((lastB T).size:Int)).toNat=e:=by
  rw[P.nameZ,P.rend];exact Int.toNat_natCast e
 have ht:L ((lastB T).extract 0 e)=n.take e:=by rw[eN,hn];rfl
 unfold wOf wV aFy;simp only[];rw[hn,he,ht];rfl
theorem aG4 {st:fF} (SE:qQ st) (comp s:ByteArray) (K:nX (eO comp) ((gY (L s)).drop (behind (gY (L s))))) (hno:∀ i:Nat,¬ ((L s)[i]? = some 47∧(L s)[i+1]? = some 47)) (t:Int) (b:Bool) :
 kA { gI (eH st) comp s with typ:=t,trim:=b }=yX { wOf st comp ⟨(gY (L s)).toArray⟩ with typ:=t } (wOf st comp ⟨(gY (L s)).toArray⟩).typ b∧(gI (eH st) comp s).typ=(wOf st comp ⟨(gY (L s)).toArray⟩).typ∧(gI (eH st) comp s).trim=false:=by
 obtain ⟨T,q,n,e,sc,hT,hn,P,ht,hc,htr⟩:=aIf SE comp s K hno;have hw:=aJn P;have P2:=P.turn (p':={ gI (eH st) comp s with typ:=t,trim:=b }) ⟨t,b,rfl⟩;have h:=aI7 P2 comp hc;rw[← hT,hw];exact ⟨h,ht,htr⟩
theorem aIg {st:fF} {comp s:ByteArray} (K:pE st comp s):qQ st where
 lang:=by
  intro w h hw;subst hw
  have key:∀ l:List ByteArray,(∀ x∈l,lU x)→listed l ⟨#[]⟩=true→False:=by
   intro l hl h;unfold listed at h;rw[List.any_eq_true] at h;obtain ⟨x,hx,he⟩:=h;rw[beq_iff_eq,L_toList,L_toList] at he;have h1:=(hl x hx).pos;rw[L_inj he] at h1;exact absurd h1 bF
  rw[Bool.or_eq_true] at h;rcases h with h | h
  ·exact key _ K.site.langs h
  exact key _ K.site.dis h
 fmt:=by
  intro w h hw;subst hw;unfold gX at h;rw[List.any_eq_true] at h;obtain ⟨x,hx,he⟩:=h;rw[beq_iff_eq,L_toList,L_toList] at he;have h1:=(K.site.fmts (mkF x) (List.mem_map_of_mem hx)).1.pos;have h2:(mkF x).f0=⟨#[]⟩:=L_inj he;rw[h2] at h1;exact absurd h1 bF
theorem aH9 {st:fF} {comp s:ByteArray} (K:pE st comp s) (t:Int) (b:Bool) :
 kA { gI (eH st) comp (norm s) with typ:=t,trim:=b }=yX { wOf st comp (pathOf s false) with typ:=t } (wOf st comp (pathOf s false)).typ b∧(gI (eH st) comp (norm s)).typ=(wOf st comp (pathOf s false)).typ∧(gI (eH st) comp (norm s)).trim=false:=by
 have W:=K.low;unfold pathOf at W;simp only[Bool.false_eq_true,if_false] at W;rw[jQ] at W;exact aG4 (aIg K) comp (norm s) W (vB K.slashes) t b
open Go.RowKit Go.ZW.PrintWords Go.Proofs.YtlkoeeccebmjmaaGreatDoor.Base Go.Proofs.YtlkoeeccebmjmaaGreatDoor.Total Go.Proofs.YtlkoeeccebmjmaaGreatDoor.Ext Go.Proofs.YtlkoeeccebmjmaaGreatDoor.Lower Go.Proofs.YtlkoeeccebmjmaaGreatDoor.PCore
theorem aB6 {α:Type} (F:Nat→Nat→Option Bool) (p:α→Bool) (l:List α) (hend:∀ k,F (k+1) l.length=some false) (hhit:∀ (j:Nat) (h:j < l.length),p l[j]=true→∀ k,F (k+1) j=some true) (hmiss:∀ (j:Nat) (h:j < l.length),p l[j]=false→∀ k,F (k+1) j=F k (j+1)):∀ (n j:Nat),l.length - j=n→j≤l.length→Ev (fun k=>F k j) ((l.drop j).any p):=by
 intro n
 induction n with
 | zero =>
  intro j h1 h2;obtain rfl:j=l.length:=by omega
  rw[List.drop_length];exact Ev.step (f:=fun _=>some false) (fun k=>hend k) (Ev.now _)
 | succ n ih =>
  intro j h1 h2;have hi:j < l.length:=by omega
  rw[List.drop_eq_getElem_cons hi,List.any_cons]
  cases c:p l[j] with
  | true =>
   rw[Bool.true_or];exact Ev.step (f:=fun _=>some true) (fun k=>hhit j hi c k) (Ev.now _)
  | false =>
   rw[Bool.false_or];exact Ev.step (fun k=>hmiss j hi c k) (ih (j+1) bA bA)
theorem aB5 (l:List ByteArray) (s:ByteArray) (hl:l.length≤1000000):Ev (fun k=>fD.f k l s) (listed l s):=by
 refine aB6 (fun k j=>fD.l0 k l s (j:Int)) (fun x=>x.toList==s.toList) l (fun k=>?_) (fun j h c k=>?_) (fun j h c k=>?_) l.length 0 bA bA
 ·simp only[fD.l0];rw[if_neg bA]
 ·simp only[fD.l0];rw[if_pos bA,if_pos bA,oA _ _ _ h,if_pos (beq_iff_eq.1 c)]
 simp only[fD.l0];rw[if_pos bA,if_pos bA,oA _ _ _ h,if_neg (by simpa using c),w64 bA bA];rfl
theorem aB8 (st:fF) (s:ByteArray) (hl:st.fmts.length≤1000000):Ev (fun k=>fK.f k (st.fmts.map mkF) s) (gX st s):=by
 have e:gX st s=(st.fmts.map mkF).any fun x=>x.f0.toList==s.toList:=by unfold gX;rw[List.any_map];rfl
 have hl' : (st.fmts.map mkF).length≤1000000:=by rw[List.length_map];exact hl
 rw[e];generalize st.fmts.map mkF=l at hl';refine aB6 (fun k j=>fK.l0 k l s (j:Int)) (fun x=>x.f0.toList==s.toList) l (fun k=>?_) (fun j h c k=>?_) (fun j h c k=>?_) l.length 0 bA bA
 ·simp only[fK.l0];rw[if_neg bA]
 ·simp only[fK.l0];rw[if_pos bA,if_pos bA,nZ _ _ h,if_pos (beq_iff_eq.1 c)]
 simp only[fK.l0];rw[if_pos bA,if_pos bA,nZ _ _ h,if_neg (by simpa using c),w64 bA bA];rfl
theorem aGf (st:fF) (s e:ByteArray) (hl:st.fmts.length≤1000000):Ev (fun k=>fI.f k (st.fmts.map mkF) s e) (jP st s e):=by
 have he:jP st s e=(st.fmts.map mkF).any fun x=>x.f0.toList==s.toList && x.f1.toList==e.toList:=by unfold jP;rw[List.any_map];rfl
 have hl' : (st.fmts.map mkF).length≤1000000:=by rw[List.length_map];exact hl
 rw[he];generalize st.fmts.map mkF=l at hl';refine aB6 (fun k j=>fI.l0 k l s e (j:Int)) (fun x=>x.f0.toList==s.toList && x.f1.toList==e.toList) l (fun k=>?_) (fun j h c k=>?_) (fun j h c k=>?_) l.length 0 bA bA
 ·simp only[fI.l0];rw[if_neg bA]
 ·simp only[Bool.and_eq_true,beq_iff_eq] at c;simp only[fI.l0];rw[if_pos bA,if_pos bA,nZ _ _ h,if_pos c.1,if_pos c.2]
 simp only[fI.l0];rw[if_pos bA,if_pos bA,nZ _ _ h]
 by_cases c1:l[j].f0.toList=s.toList
 ·have c2:¬ l[j].f1.toList=e.toList:=by intro h2;rw[c1,h2] at c;simp at c
  rw[if_pos c1,if_neg c2,w64 bA bA];rfl
 rw[if_neg c1,w64 bA bA];rfl
theorem aA0 (s t:ByteArray):iJ.f s t=some ((L t).isPrefixOf (L s)):=by
 unfold iJ.f
 have e:∀ r:Bool,(r=true↔(L t) <+: (L s))→(L t).isPrefixOf (L s)=r:=by
  intro r h;rw[Bool.eq_iff_iff,List.isPrefixOf_iff_prefix,h]
 by_cases c:(s.size:Int)≥(t.size:Int)
 ·rw[if_pos c,if_pos bA,if_pos bA];refine congrArg some (e _ ?_).symm;rw[L_toList,L_toList,eN,beq_iff_eq,Int.toNat_natCast,List.drop_zero,Nat.sub_zero,← eD];exact ⟨fun h=>h▸List.take_prefix _ _,fun h=>(List.prefix_iff_eq_take.1 h).symm⟩
 rw[if_neg c];refine congrArg some (e _ ?_).symm;refine ⟨(fun h=>by cases h),fun h=>?_⟩;have:=h.length_le;rw[eD,eD] at this;omega
theorem yQ (s:ByteArray) (hs:s.size≤4000000000):iI.f s=some (low s):=by unfold iI.f;rw[if_pos bA]
theorem aFe (s:ByteArray) (hs:s.size≤1000000):iI.f s=some (low s):=yQ s bA
theorem aG2 (x pre:ByteArray) (hx:x.size≤1000000):nV.f x pre=some (if gT x pre=true then gV x pre else ⟨#[]⟩,gT x pre):=by
 unfold nV.f;rw[aFe x hx,Option.bind_some,aA0,Option.bind_some];have e:(L pre).isPrefixOf (L (low x))=gT x pre:=rfl;rw[e]
 cases h:gT x pre with
 | false=>rfl
 | true =>
  have:=(List.isPrefixOf_iff_prefix.1 (e.trans h)).length_le;rw[eD,eD,pQ] at this;rw[if_pos rfl,if_pos bA,if_pos bA,if_pos rfl];rfl
theorem aDr (s:ByteArray) (hs:s.size≤4000000000):kM.f s=some (isKind s):=by
 unfold kM.f;rw[yQ s hs,Option.bind_some,L_toList,← oC];show _=some (oH (Lib.toLowerA (L s)));generalize Lib.toLowerA (L s)=l;unfold oH
 by_cases c1:l=[104,111,109,101]
 ·subst c1;rfl
 by_cases c2:l=[112,97,103,101]
 ·subst c2;rfl
 by_cases c3:l=[115,101,99,116,105,111,110]
 ·subst c3;rfl
 by_cases c4:l=[116,97,120,111,110,111,109,121]
 ·subst c4;rfl
 by_cases c5:l=[116,101,114,109]
 ·subst c5;rfl
 rw[if_neg c1,if_neg c2,if_neg c3,if_neg c4,if_neg c5,beq_eq_false_iff_ne.2 c1,beq_eq_false_iff_ne.2 c2,beq_eq_false_iff_ne.2 c3,beq_eq_false_iff_ne.2 c4,beq_eq_false_iff_ne.2 c5]
 simp
theorem aDi (a b:ByteArray):nU.f a b=some (chooseB a b):=by
 unfold nU.f chooseB
 by_cases c:a=⟨#[]⟩
 ·subst c;rw[if_pos rfl,if_pos (by rw[L_toList];rfl)]
 rw[if_neg c,if_neg (fun h=>c (L_inj (by rw[← L_toList,h];rfl)))]
theorem aGh (s t:ByteArray) (hs:s.size≤1000000) (ht:t.size≤1000000):∀ (g i:Nat),s.size+1 - i≤g→i≤s.size+1→Ev (fun k=>fJ.l0 k s t (i:Int)) (xM (L s) (L t) g i):=by
 have hl:=eD s;have hlt:=eD t;intro g
 induction g with
 | zero =>
  intro i h1 h2;refine Ev.step (f:=fun _=>some false) (fun k=>?_) (Ev.now _);simp only[fJ.l0];rw[if_neg (by rw[w64 bA bA];omega)]
 | succ g ih =>
  intro i h1 h2;unfold xM
  by_cases c:s.size < i+t.size
  ·rw[if_pos bA];refine Ev.step (f:=fun _=>some false) (fun k=>?_) (Ev.now _);simp only[fJ.l0];rw[if_neg (by rw[w64 bA bA];omega)]
  rw[if_neg bA];have hx:(s.extract i (i+t.size)).toList=((L s).drop i).take (L t).length:=by rw[L_toList,eN,hlt];congr 1;omega
  by_cases h:((L s).drop i).take (L t).length=L t
  ·rw[h,beq_self_eq_true,Bool.true_or];refine Ev.step (f:=fun _=>some true) (fun k=>?_) (Ev.now _);simp only[fJ.l0];rw[w64 (n:=(i:Int)+t.size) bA bA,if_pos bA,if_pos bA,if_pos bA,if_pos ?_];rw[Int.toNat_natCast,show ((i:Int)+(t.size:Int)).toNat=i+t.size by omega,hx,h,L_toList]
  have:(((L s).drop i).take (L t).length==L t)=false:=by simpa using h
  rw[this,Bool.false_or];refine Ev.step (fun k=>?_) (ih (i+1) bA bA);simp only[fJ.l0];rw[w64 (n:=(i:Int)+t.size) bA bA,if_pos bA,if_pos bA,if_pos bA,if_neg ?_,w64 bA bA]
  ·rfl
  rw[Int.toNat_natCast,show ((i:Int)+(t.size:Int)).toNat=i+t.size by omega,hx,L_toList];exact h
structure sU (st:fF):Prop where
 l:st.langs.length≤1000000
 d:st.dis.length≤1000000
 f:st.fmts.length≤1000000
 c:st.cont.length≤1000000
 lz:∀ x∈st.langs,x.size≤1000000
 dz:∀ x∈st.dis,x.size≤1000000
 cz:∀ x∈st.cont,x.size≤1000000
structure lZ (w:World) (st:fF) (vl vd vf vc:Value):Prop where
 l:fA w 0 vl st.langs
 d:fA w 0 vd st.dis
 f:mV w 0 vf st.fmts
 c:fA w 0 vc st.cont
theorem lZ.below {w w' : World} {st:fF} {vl vd vf vc:Value} (H:lZ w st vl vd vf vc) (hb:Below w.heap.size w w'):lZ w' st vl vd vf vc:=⟨H.l.below hb,H.d.below hb,H.f.below hb,H.c.below hb⟩
section
variable {w:World}
theorem nT {v:Value} {l:List ByteArray} (H:fA w 0 v l) (hl:l.length≤1000000) (s:ByteArray):Calls Tryz.prog 120 #[v,.string s] w fun e w'=>e = .returned (.bool (listed l s))∧Below w.heap.size w w':=by
 obtain ⟨k,hk⟩:=(aB5 l s hl).rounds;obtain ⟨A0,c0,rfl,h0,r0⟩:=H.kd bA
 exact (fD.calls k A0 c0 l s _ w r0 h0 hk).mono fun _ _ ⟨h1,h2⟩=>⟨h1,h2.below⟩
theorem aD4 {v:Value} {st:fF} (H:mV w 0 v st.fmts) (hl:st.fmts.length≤1000000) (s:ByteArray):Calls Tryz.prog 116 #[v,.string s] w fun e w'=>e = .returned (.bool (gX st s))∧Below w.heap.size w w':=by
 obtain ⟨k,hk⟩:=(aB8 st s hl).rounds;obtain ⟨A0,c0,rfl,h0,r0⟩:=H.kd bA
 exact (fK.calls k A0 c0 _ s _ w r0 h0 hk).mono fun _ _ ⟨h1,h2⟩=>⟨h1,h2.below⟩
theorem aBx {v:Value} {st:fF} (H:mV w 0 v st.fmts) (hl:st.fmts.length≤1000000) (s e:ByteArray):Calls Tryz.prog 140 #[v,.string s,.string e] w fun x w'=>x = .returned (.bool (jP st s e))∧Below w.heap.size w w':=by
 obtain ⟨k,hk⟩:=(aGf st s e hl).rounds;obtain ⟨A0,c0,rfl,h0,r0⟩:=H.kd bA
 exact (fI.calls k A0 c0 _ s e _ w r0 h0 hk).mono fun _ _ ⟨h1,h2⟩=>⟨h1,h2.below⟩
theorem aC6 (s t:ByteArray) (w:World):Calls Tryz.prog 122 #[.string s,.string t] w fun e w'=>e = .returned (.bool ((L t).isPrefixOf (L s)))∧Below w.heap.size w w' :=
 (iJ.calls s t _ w (aA0 s t)).mono fun _ _ ⟨h1,h2⟩=>⟨h1,h2.below⟩
theorem pM (x pre:ByteArray) (hx:x.size≤1000000) (w:World):Calls Tryz.prog 138 #[.string x,.string pre] w fun e w'=>e = .returned (.tuple #[.string (if gT x pre=true then gV x pre else ⟨#[]⟩),.bool (gT x pre)])∧Below w.heap.size w w' :=
 nV.calls x pre _ _ w (aG2 x pre hx)
theorem vJ (x:ByteArray) (hx:x.size≤1000000) (w:World):Calls Tryz.prog 123 #[.string x] w fun e w'=>e = .returned (.string (low x))∧Below w.heap.size w w':=lower_calls x w bA
theorem uT (x:ByteArray) (hx:x.size≤1000000) (w:World):Calls Tryz.prog 139 #[.string x] w fun e w'=>e = .returned (.bool (isKind x))∧Below w.heap.size w w' :=
 kM.calls x _ w (aDr x bA)
theorem rH (a b:ByteArray) (w:World):Calls Tryz.prog 115 #[.string a,.string b] w fun e w'=>e = .returned (.string (chooseB a b))∧Below w.heap.size w w' :=
 (nU.calls a b _ w (aDi a b)).mono fun _ _ ⟨h1,h2⟩=>⟨h1,h2.below⟩
theorem rO (s t:ByteArray) (hs:s.size≤1000000) (ht:t.size≤1000000) (w:World):Calls Tryz.prog 57 #[.string s,.string t] w fun e w'=>e = .returned (.bool (eY (L s) (L t)))∧Below w.heap.size w w':=by
 have h:=aGh s t hs ht (s.size+1) 0 bA bA;obtain ⟨k,hk⟩:=h.rounds
 exact (fJ.calls k s t _ w (by unfold eY;rw[eD];exact hk)).mono fun _ _ ⟨h1,h2⟩=>⟨h1,h2.below⟩
theorem aIl {v:Value} {l:List ByteArray} (H:fA w 0 v l) (hl:l.length≤1000000) (s:ByteArray):Calls Tryz.prog 120 #[v,.string s] w fun e w'=>e = .returned (.bool (listed l s))∧∃ m,w'=w.drewN m:=by
 obtain ⟨k,hk⟩:=(aB5 l s hl).rounds;obtain ⟨A0,c0,rfl,h0,r0⟩:=H.kd bA
 exact (fD.calls k A0 c0 l s _ w r0 h0 hk).mono fun _ _ ⟨h1,h2⟩=>⟨h1,h2.out⟩
theorem aIy {v:Value} {st:fF} (H:mV w 0 v st.fmts) (hl:st.fmts.length≤1000000) (s:ByteArray):Calls Tryz.prog 116 #[v,.string s] w fun e w'=>e = .returned (.bool (gX st s))∧∃ m,w'=w.drewN m:=by
 obtain ⟨k,hk⟩:=(aB8 st s hl).rounds;obtain ⟨A0,c0,rfl,h0,r0⟩:=H.kd bA
 exact (fK.calls k A0 c0 _ s _ w r0 h0 hk).mono fun _ _ ⟨h1,h2⟩=>⟨h1,h2.out⟩
theorem aBl (s:ByteArray) (hs:s.size≤1000000) (w:World):Calls Tryz.prog 111 #[.string s] w fun e w'=>∃ x,e = .returned (.tuple #[.string x,.bool (iE (L s))])∧(iE (L s)=true→x=fP s)∧x.size≤s.size∧Below w.heap.size w w':=by
 obtain ⟨x,h1,h2,h3⟩:=tO s hs;refine (jN.calls s x _ w h1).mono ?_;rintro e w' ⟨rfl,hb⟩;refine ⟨x,rfl,fun h=>L_inj ?_,h3,hb.below⟩;rw[h2 h];unfold inner fP;rw[eN,eD];congr 1
end
structure oQ (r:RV) (k:Nat):Prop where
 ids:r.ids.length≤k
 unk:r.unk.length≤k
 langs:r.langs.length≤k
 marks:r.marks.length≤k
 lay:r.layAt < (r.ids.length:Int)
theorem oQ.zero:oQ kV 0:=⟨Nat.le_refl _,Nat.le_refl _,Nat.le_refl _,Nat.le_refl _,by decide⟩
theorem oQ.word {r:RV} {k:Nat} (h:oQ r k) (st:fF) (comp:ByteArray) (sc:Bool) (pts:Nat) (w:ByteArray) (m:Int):oQ (mC st comp sc pts r w m) (k+1):=by
 obtain ⟨h1,h2,h3,h4,h5⟩:=h;unfold mC oR lS jJ jK RV.id
 repeat' split
 all_goals
  refine ⟨?_,?_,?_,?_,?_⟩ <;> simp only[List.length_append,List.length_singleton,List.length_set] <;> omega
section
variable (st:fF) (comp:ByteArray) (sc:Bool) (name:ByteArray) (cuts:List Nat)
def dK (k:Nat):RV×Nat:=(cuts.reverse.take k).foldl (nE st comp sc cuts.length name) (kV,name.size)
theorem zS:dK st comp sc name cuts 0=(kV,name.size):=rfl
theorem qW (k:Nat) (h:k < cuts.length):dK st comp sc name cuts (k+1)=nE st comp sc cuts.length name (dK st comp sc name cuts k) (cuts[cuts.length - 1 - k]' bA):=by
 unfold dK;rw[List.take_succ_eq_append_getElem (by rw[List.length_reverse];exact h),List.foldl_append,List.getElem_reverse];rfl
theorem aB1 (k:Nat) (h:k < cuts.length):(dK st comp sc name cuts (k+1)).2=cuts[cuts.length - 1 - k]' bA:=by
 rw[qW _ _ _ _ _ k h];rfl
theorem tA:∀ k,k≤cuts.length→oQ (dK st comp sc name cuts k).1 k
 | 0,_=>oQ.zero
 | k+1,h=>by
  rw[qW _ _ _ _ _ k bA];exact (tA k bA).word ..
theorem aHx (r:RV) (pts:Nat) (w:ByteArray) (m:Int):(mC st comp sc pts r w m).ids≠[]:=by
 unfold mC;split
 ·simp[oR,RV.id]
 exact aFp (by assumption) pts w m
theorem aE1 (k:Nat) (h0:0 < k) (h:k≤cuts.length):(dK st comp sc name cuts k).1.ids≠[]:=by
 obtain ⟨j,rfl⟩:∃ j,k=j+1:=⟨k - 1,aM⟩
 rw[qW _ _ _ _ _ j bA];show (mC _ _ _ _ _ _ _).ids≠[];apply aHx
theorem tB (h:cuts≠[]):gL st comp sc name cuts=mC st comp sc cuts.length (dK st comp sc name cuts cuts.length).1 (name.extract 0 (dK st comp sc name cuts cuts.length).2) (-1):=by
 unfold gL dK;rw[if_neg h,List.take_of_length_le (by rw[List.length_reverse];exact Nat.le_refl _)]
theorem aJs (hup:cuts.Pairwise (· < ·)) (hlt:∀ c∈cuts,c < name.size) (k:Nat) (h:k < cuts.length):cuts[cuts.length - 1 - k]' bA+1≤(dK st comp sc name cuts k).2∧(dK st comp sc name cuts k).2≤name.size:=by
 cases k with
 | zero=>exact ⟨hlt _ (List.getElem_mem _),Nat.le_refl _⟩
 | succ k =>
  rw[aB1 _ _ _ _ _ k bA];refine ⟨?_,Nat.le_of_lt (hlt _ (List.getElem_mem _))⟩;exact List.pairwise_iff_getElem.1 hup _ _ _ _ bA
theorem aIo (hlt:∀ c∈cuts,c < name.size) (h:cuts≠[]):(dK st comp sc name cuts cuts.length).2≤name.size:=by
 obtain ⟨j,hj⟩:∃ j,cuts.length=j+1:=⟨cuts.length - 1,by have:=List.length_pos_iff.2 h;omega⟩
 rw[hj,aB1 _ _ _ _ _ j bA];exact Nat.le_of_lt (hlt _ (List.getElem_mem _))
end
theorem aGx (m:List Int) (N:Int) (k:Nat) (h:k < m.length):kB (m.take (k+1)) N=if 0≤m[k]∧m[k] < kB (m.take k) N then m[k] else kB (m.take k) N:=by
 rw[List.take_succ_eq_append_getElem h,xT]
theorem aEn (m:List Int) (N:Nat):0≤kB m (N:Int)∧kB m (N:Int)≤(N:Int):=by
 have:∀ (l:List Int) (e:Int),0≤e→e≤(N:Int)→0≤l.foldl (fun e m=>if 0≤m∧m < e then m else e) e∧l.foldl (fun e m=>if 0≤m∧m < e then m else e) e≤(N:Int):=by
  intro l
  induction l with
  | nil=>intro e h1 h2;exact ⟨h1,h2⟩
  | cons a l ih =>
   intro e h1 h2;rw[List.foldl_cons];split
   ·exact ih _ bA bA
   exact ih _ h1 h2
 exact this m N bA bA
end Go.Proofs.YtlkoeeccebmjmaaGreatDoor.Path
