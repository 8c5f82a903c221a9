/- Texts that the law leans on: Spec4, Spec5, Pt, Same. Condition: as told at each. -/
import Derived.Test.YtcdgldnphhidlaaGreatDoorVa
import Derived.Test.YtcdgldnphhidlaaGreatDoorV16
set_option linter.unusedVariables false
set_option linter.unusedSimpArgs false
set_option maxRecDepth 100000
set_option maxHeartbeats 16000000
namespace Go.Proofs.YtcdgldnphhidlaaGreatDoor.Path
open Go.RowKit Go.ZW.PrintWords Go.Proofs.YtcdgldnphhidlaaGreatDoor.Base Go.Proofs.YtcdgldnphhidlaaGreatDoor.Total Go.Proofs.YtcdgldnphhidlaaGreatDoor.Lower
def tZ (l:List UInt8):Nat→Int→Int
 | 0,c=>c
 | i+1,c=>tZ l i (if l[i]? = some 47∧c = -1 then (i:Int)+1 else c)
def xV (l:List UInt8):Nat→Int→Int
 | 0,s=>s
 | i+1,s=>xV l i (if l[i]? = some 47∧0 < i then (i:Int) else s)
def cntF (l:List UInt8):Nat→Nat
 | 0=>0
 | i+1=>cntF l i+(if l[i]? = some 47 then 1 else 0)
theorem vB {E:Env} {comp:ByteArray} {sk:List Nat} {nd:Int} {l:List UInt8}:∀ (i:Nat) (d:DoV),d.p.cHigh≠-1→d.p.s.data.toList=l →
 (jE E comp sk nd i d).p = { d.p with cLow:=tZ l i d.p.cLow,sec:=xV l i d.p.sec }∧(jE E comp sk nd i d).sc=d.sc+cntF l i
 | 0,d,_,_=>⟨rfl,rfl⟩
 | i+1,d,h,hl=>by
  have key:(iS E comp sk nd i d).p = { d.p with cLow:=if l[i]? = some 47∧d.p.cLow = -1 then (i:Int)+1 else d.p.cLow,sec:=if l[i]? = some 47∧0 < i then (i:Int) else d.p.sec }∧(iS E comp sk nd i d).sc=d.sc+(if l[i]? = some 47 then 1 else 0):=by
   unfold iS;rw[xR h,hl]
   by_cases c1:l[i]? = some 46
   ·have c2:¬ l[i]? = some 47:=by rw[c1];decide
    have n1:¬ (l[i]? = some 47∧d.p.cLow = -1):=fun h=>c2 h.1;have n2:¬ (l[i]? = some 47∧0 < i):=fun h=>c2 h.1;rw[if_pos c1,if_neg n1,if_neg n2,if_neg c2];split <;> exact ⟨rfl,rfl⟩
   rw[if_neg c1]
   by_cases c2:l[i]? = some 47
   ·rw[if_pos c2,if_neg h,if_pos c2];refine ⟨?_,rfl⟩;simp only
    by_cases c3:d.p.cLow = -1
    ·have m1:l[i]? = some 47∧d.p.cLow = -1:=⟨c2,c3⟩
     by_cases c4:0 < i
     ·have m2:l[i]? = some 47∧0 < i:=⟨c2,c4⟩
      rw[if_pos c3,if_pos c4,if_pos m1,if_pos m2]
     have m2:¬ (l[i]? = some 47∧0 < i):=fun h=>c4 h.2;rw[if_pos c3,if_neg c4,if_pos m1,if_neg m2]
    have m1:¬ (l[i]? = some 47∧d.p.cLow = -1):=fun h=>c3 h.2
    by_cases c4:0 < i
    ·have m2:l[i]? = some 47∧0 < i:=⟨c2,c4⟩
     rw[if_neg c3,if_pos c4,if_neg m1,if_pos m2]
    have m2:¬ (l[i]? = some 47∧0 < i):=fun h=>c4 h.2;rw[if_neg c3,if_neg c4,if_neg m1,if_neg m2]
   have n1:¬ (l[i]? = some 47∧d.p.cLow = -1):=fun h=>c2 h.1;have n2:¬ (l[i]? = some 47∧0 < i):=fun h=>c2 h.1;rw[if_neg c2,if_neg n1,if_neg n2,if_neg c2];exact ⟨rfl,rfl⟩
  obtain ⟨k1,k2⟩:=key;have e:=vB (E:=E) (comp:=comp) (sk:=sk) (nd:=nd) (l:=l) i (iS E comp sk nd i d) (by rw[k1];exact h) (by rw[k1];exact hl);show (jE E comp sk nd i (iS E comp sk nd i d)).p=_∧(jE E comp sk nd i (iS E comp sk nd i d)).sc=_;rw[e.1,e.2,k1,k2];refine ⟨rfl,?_⟩;show d.sc+(if l[i]? = some 47 then 1 else 0)+cntF l i=d.sc+(cntF l i+if l[i]? = some 47 then 1 else 0);omega
theorem aBn {E:Env} {comp:ByteArray} {nd:Int}:∀ (cs:List Nat) (d:DoV),(cs.foldl (mO E comp nd) d).sc=d.sc
 | [],_=>rfl
 | c::cs,d=>aBn cs (mO E comp nd d c)
theorem wD {E:Env} {comp:ByteArray} {p:eJ} {q:Nat} {n:List UInt8}:Same p (mG E comp p q n):=by
 have hD:Same p (oC E comp p (q+1) n).p:=sW ((fB n).reverse.map (q+1 + ·)) ⟨p,0,0⟩;unfold mG;split
 ·exact hD.trans (qX _ _ _ _ _ _ _)
 exact hD
theorem aDe (E:Env) (comp s:ByteArray):∃ (T:ByteArray) (q:Nat) (pre n:List UInt8) (d:DoV),L T=hE (L s)∧nA (L T) pre n∧pre.length=q+1∧(L T)[q]? = some 47∧fL E comp s=sZ E comp d∧In2 T comp 0 d ∧
 d.p = { mG E comp (iU { fT with comp:=comp } T) q n with cHigh:=(q:Int)+1,cLow:=tZ (L T) q (-1),sec:=xV (L T) q (if 0 < q then (q:Int) else -1) }∧d.sc=1+cntF (L T) q:=by
 obtain ⟨T,d,hT,hl,h2,h3,h4,h5⟩:=aDd E comp s;have h0:(L T)[0]? = some 47:=by rw[hl,← List.head?_eq_getElem?];exact mText_head _
 have S:=aGr (L T) ⟨0,h0⟩
 obtain ⟨pre,hpre⟩:∃ x,(L T).take (behind (L T))=x:=⟨_,rfl⟩
 obtain ⟨n,hn⟩:∃ x,(L T).drop (behind (L T))=x:=⟨_,rfl⟩
 rw[hpre,hn] at S;obtain ⟨q,hq⟩:=S.slash;have hpl:pre.length=q.length+1:=by rw[hq];simp
 have h47:(L T)[q.length]? = some 47:=by rw[S.eq,hq,List.append_assoc,List.getElem?_append_right (Nat.le_refl _),Nat.sub_self];rfl
 have hr:=aEr (E:=E) (comp:=comp) (p:=iU { fT with comp:=comp } T) S;rw[hpl] at hr
 obtain ⟨D,hD⟩:∃ D,oC E comp (iU { fT with comp:=comp } T) (q.length+1) n=D:=⟨_,rfl⟩
 have hD' : ((fB n).reverse.map (q.length+1 + ·)).foldl (mO E comp ((fB n).length:Int)) ⟨iU { fT with comp:=comp } T,0,0⟩=D:=hD;rw[hD'] at hr;have hsame:Same (iU { fT with comp:=comp } T) D.p:=by rw[← hD'];exact sW ((fB n).reverse.map (q.length+1 + ·)) ⟨iU { fT with comp:=comp } T,0,0⟩
 have hsc0:D.sc=0:=by rw[← hD'];exact aBn ((fB n).reverse.map (q.length+1 + ·)) ⟨iU { fT with comp:=comp } T,0,0⟩
 have hch:D.p.cHigh = -1:=hsame.cHigh;have hst:D.p.s.data.toList[q.length]? = some 47:=by rw[hsame.s];exact h47
 have hws:=wD (E:=E) (comp:=comp) (p:=iU { fT with comp:=comp } T) (q:=q.length) (n:=n)
 obtain ⟨P,hP⟩:∃ P,mG E comp (iU { fT with comp:=comp } T) q.length n=P:=⟨_,rfl⟩
 rw[hP] at hws
 have hP' : (if 0 < D.ld then mId E D.p comp q.length D.ld ((fB n).length:Int) true else D.p)=P:=by
  rw[← hP];unfold mG;rw[hD]
 have hPc:P.cLow = -1:=hws.cLow;have hPs:P.sec = -1:=hws.sec
 have hstep:(iS E comp (lT (iU { fT with comp:=comp } T).s.data.toList) ((fB n).length:Int) q.length D).p = { P with cHigh:=(q.length:Int)+1,sec:=if 0 < q.length then (q.length:Int) else -1 } ∧
  (iS E comp (lT (iU { fT with comp:=comp } T).s.data.toList) ((fB n).length:Int) q.length D).sc=1:=by
  unfold iS;rw[if_neg (by rw[hst];decide),if_pos hst,if_pos hch,hP'];refine ⟨?_,by show D.sc+1=1;rw[hsc0]⟩
  by_cases c:0 < q.length
  ·simp only[if_pos c]
  simp only[if_neg c];rw[← hPs]
 obtain ⟨e1,e2⟩:=hstep;have hrest:=vB (E:=E) (comp:=comp) (sk:=lT (iU { fT with comp:=comp } T).s.data.toList) (nd:=((fB n).length:Int)) (l:=L T) q.length (iS E comp (lT (iU { fT with comp:=comp } T).s.data.toList) ((fB n).length:Int) q.length D) (by rw[e1];show (q.length:Int)+1≠-1;omega) (by rw[e1];show L P.s=L T;rw[hws.s];rfl);have hdd:d=jE E comp (lT (iU { fT with comp:=comp } T).s.data.toList) ((fB n).length:Int) q.length (iS E comp (lT (iU { fT with comp:=comp } T).s.data.toList) ((fB n).length:Int) q.length D):=by rw[h5,hr];rfl
 refine ⟨T,q.length,pre,n,d,hl,S,hpl,h47,h2,h3,?_,?_⟩
 ·rw[hdd,hrest.1,e1,hP];show ({ P with cHigh:=(q.length:Int)+1,cLow:=tZ (L T) q.length P.cLow,sec:=_ }:eJ)=_;rw[hPc]
 rw[hdd,hrest.2,e2]
section
variable {l:List UInt8}
theorem uJ {q:Nat} (h:l[q]? = some 47):∀ m:Nat,q < m→(∀ j,q < j→j < m→l[j]?≠some 47)→slB l m=some q
 | 0,hm,_=>by omega
 | m+1,hm,hn=>by
  unfold slB
  by_cases c:m=q
  ·rw[if_pos (by rw[c];exact h),c]
  rw[if_neg (hn m bA bA)];exact uJ h m bA (fun j h1 h2=>hn j h1 bA)
theorem aCo:∀ (m:Nat) {j:Nat},slB l m=some j→l[j]? = some 47∧j < m∧∀ i,j < i→i < m→l[i]?≠some 47
 | 0,j,h=>by cases h
 | m+1,j,h=>by
  unfold slB at h;split at h
  ·rename_i hm
   injection h with h
   subst h;exact ⟨hm,aQ,fun i h1 h2=>by omega⟩
  rename_i hm
  obtain ⟨a,b,c⟩:=aCo m h;refine ⟨a,aQ,fun i h1 h2=>?_⟩
  by_cases e:i=m
  ·rw[e];exact hm
  exact c i h1 bA
theorem aCn (h:l[0]? = some 47):∀ m:Nat,0 < m→∃ j,slB l m=some j
 | 0,hm=>by omega
 | m+1,_=>by
  unfold slB;split
  ·exact ⟨_,rfl⟩
  rename_i hne
  by_cases c:m=0
  ·subst c;exact absurd h hne
  exact aCn h m bA
theorem aB5:∀ (i:Nat) (c:Int),c≠-1→tZ l i c=c
 | 0,_,_=>rfl
 | i+1,c,h=>by
  unfold tZ;rw[if_neg (fun x=>h x.2)];exact aB5 i c h
theorem aDx:∀ (i:Nat),tZ l i (-1)=match slB l i with | some j=>(j:Int)+1 | none=>-1
 | 0=>rfl
 | i+1=>by
  unfold tZ slB
  by_cases c:l[i]? = some 47
  ·rw[if_pos ⟨c,rfl⟩,if_pos c];exact aB5 i _ bA
  rw[if_neg (fun x=>c x.1),if_neg c];exact aDx i
theorem zX:∀ (i s:Nat),i≤s→1≤s→l[s]? = some 47→(∀ j,i≤j→1≤j→j < s→l[j]?≠some 47)→∃ f:Nat,xV l i (s:Int)=(f:Int)∧1≤f∧f≤s∧l[f]? = some 47∧∀ j,1≤j→j < f→l[j]?≠some 47
 | 0,s,_,h1,h2,h3=>⟨s,rfl,h1,Nat.le_refl _,h2,fun j a b=>h3 j bA a b⟩
 | i+1,s,h0,h1,h2,h3=>by
  unfold xV
  by_cases c:l[i]? = some 47∧0 < i
  ·rw[if_pos c];obtain ⟨f,a1,a2,a3,a4,a5⟩:=zX i i (Nat.le_refl _) bA c.1 (fun j b1 b2 b3=>by omega);exact ⟨f,a1,a2,aQ,a4,a5⟩
  rw[if_neg c];refine zX i s bA h1 h2 (fun j b1 b2 b3=>?_)
  by_cases e:j=i
  ·subst e;exact fun h=>c ⟨h,aQ⟩
  exact h3 j bA b2 b3
theorem vX:∀ (m:List UInt8) (k:Nat),m[k]? = some 47→(∀ j,j < k→m[j]?≠some 47)→(m.takeWhile fun c=>c != 47)=m.take k
 | [],k,h,_=>by simp at h
 | a::m,0,h,_=>by
  simp only[List.getElem?_cons_zero,Option.some.injEq] at h;subst h;rfl
 | a::m,k+1,h,hn=>by
  have h0:=hn 0 bA;simp only[List.getElem?_cons_zero,ne_eq,Option.some.injEq] at h0;rw[List.takeWhile_cons,if_pos (bne_iff_ne.2 h0),List.take_succ_cons,vX m k (by simpa using h) (fun j hj=>by have:=hn (j+1) bA;simpa using this)]
theorem uZ:∀ i:Nat,i≤l.length→cntF l i=lL (l.take i)
 | 0,_=>rfl
 | i+1,h=>by
  have hi:i < l.length:=by omega
  unfold cntF;rw[uZ i bA,List.take_succ_eq_append_getElem hi];unfold lL;rw[List.filter_append,List.length_append,List.getElem?_eq_getElem hi]
  by_cases c:l[i]=47
  ·rw[if_pos (by rw[c]),c];rfl
  rw[if_neg (by simpa using c),List.filter_cons,if_neg (by simpa using c)];rfl
theorem aEe {m:List UInt8} (h:∀ j:Nat,m[j]?≠some 47):lL m=0:=by
 unfold lL;rw[List.length_eq_zero_iff,List.filter_eq_nil_iff];intro c hc e;obtain ⟨j,hj⟩:=List.mem_iff_getElem?.1 hc;rw[beq_iff_eq] at e;rw[e] at hj;exact h j hj
theorem aCy {q:Nat} {pre n:List UInt8} (S:nA l pre n) (hq:pre.length=q+1) (h0:l[0]? = some 47):lL (l.drop 1)=cntF l q∧(cntF l q=0↔q=0):=by
 have hlen:l.length=q+1+n.length:=by rw[S.eq,List.length_append,hq]
 have e1:lL l=cntF l (q+1):=by
  rw[uZ _ bA];have e2:l=l.take (q+1)++n:=by rw[S.eq,← hq,List.take_left]
  have e3:lL l=lL (l.take (q+1))+lL n:=by
   conv=>lhs;rw[e2]
   unfold lL;rw[List.filter_append,List.length_append]
  rw[e3,aEe S.no];omega
 obtain ⟨x,hx⟩:=S.slash
 have h47:l[q]? = some 47:=by
  have hxl:x.length=q:=by have:=congrArg List.length hx;simp at this;omega
  rw[S.eq,hx,List.append_assoc,List.getElem?_append_right bA,hxl,Nat.sub_self];rfl
 have e4:cntF l (q+1)=cntF l q+1:=by rw[show cntF l (q+1)=cntF l q+(if l[q]? = some 47 then 1 else 0) from rfl,if_pos h47]
 cases l with
 | nil=>cases h0
 | cons a m =>
  have ha:a=47:=by simpa using h0
  have e5:lL (a::m)=1+lL m:=by
   unfold lL;rw[List.filter_cons,if_pos (by rw[ha];rfl),List.length_cons];omega
  refine ⟨?_,?_⟩
  ·show lL m=_;omega
  constructor
  ·intro h
   by_cases c:q=0
   ·exact c
   exfalso;rw[uZ q bA] at h
   obtain ⟨k,rfl⟩:∃ k,q=k+1:=⟨q - 1,aQ⟩
   rw[List.take_succ_cons] at h;unfold lL at h;rw[List.filter_cons,if_pos (by rw[ha];rfl)] at h;cases h
  rintro rfl;rfl
end
structure aIb (p:eJ) (st:fD) (r:RV):Prop where
 ids:r.ids=iV p
 unk:r.unk=kB p
 ix:zK p p.lang p.fmt p.kind p.cust p.pfmt p.pkind p.play p.plangs (fmt0 st p.comp r.ext) r
 lay:fH p p.lay=r.lay1
 dis:p.dis=r.dis
 ext:fH p 0=r.ext
structure PW (st:fD) (T:ByteArray) (q:Nat) (n:List UInt8) (p:eJ) (r:RV) (e:Nat) (sc:Nat) (t:Int):Prop where
 split:∃ pre,nA (L T) pre n∧pre.length=q+1
 head:(L T)[0]? = some 47
 h47:(L T)[q]? = some 47
 no:∀ i:Nat,¬ ((L T)[i]? = some 47∧(L T)[i+1]? = some 47)
 s:p.s=T
 cHigh:p.cHigh=(q:Int)+1
 cLow:p.cLow=tZ (L T) q (-1)
 sec:p.sec=if t=3∧sc=2 then 0 else xV (L T) q (if 0 < q then (q:Int) else -1)
 sc:sc=1+cntF (L T) q
 nLow:p.nLow=(q:Int)+1
 nHigh:p.nHigh=((q+1+e:Nat):Int)
 le:e≤n.length
 rend:mM r.marks (n.length:Int)=(e:Int)
 words:(p.known=[]∧fB n=[]∧r=jK∧e=n.length∧(p.lang = -1∧p.fmt = -1∧p.kind = -1∧p.cust = -1∧p.pfmt = -1∧p.pkind = -1∧p.play = -1∧p.lay = -1∧p.plangs=[]∧p.unknown=[]∧p.dis=false)) ∨
  (p.known≠[]∧fB n≠[]∧aIb p st r∧0 < e∧r.ext≠⟨#[]⟩∧∃ c:Nat,p.known[0]? = some (((q+1+c+1:Nat):Int),(T.size:Int))∧c < n.length∧n[c]? = some 46∧e≤c)
def aE3 (st:fD) (comp T:ByteArray) (n:List UInt8) (r:RV) (e:Nat):Int:=mL st comp (L T) (n.take e) (!r.ids.isEmpty) r.ext r.baseof
theorem aH8 {st:fD} (SE:rJ st) (comp s:ByteArray) (K:oJ (eV comp) ((hE (L s)).drop (behind (hE (L s))))) (hno:∀ i:Nat,¬ ((L s)[i]? = some 47∧(L s)[i+1]? = some 47)) :
 ∃ (T:ByteArray) (q:Nat) (n:List UInt8) (e sc:Nat),T=⟨(hE (L s)).toArray⟩∧n=(L T).drop (behind (L T)) ∧
  PW st T q n (fL (eI st) comp s) (iR st comp (gC (L T) gY) (lastB T) (fB n)) e sc (aE3 st comp T n (iR st comp (gC (L T) gY) (lastB T) (fB n)) e) ∧
  (fL (eI st) comp s).typ=aE3 st comp T n (iR st comp (gC (L T) gY) (lastB T) (fB n)) e∧(fL (eI st) comp s).comp=comp∧(fL (eI st) comp s).trim=false:=by
 obtain ⟨T,q,pre,n,d,hl,S,hpl,h47,hm,hI,hd,hsc⟩:=aDe (eI st) comp s;have hn:=S.behind;have hTe:T=⟨(hE (L s)).toArray⟩:=L_inj (hl.trans (kV _).symm);rw[← hl,hn.1,← hn.2] at K;have hnm:L (lastB T)=n:=by unfold lastB;rw[kV,hn.1,← hn.2]
 have h0:(L T)[0]? = some 47:=by rw[hl,← List.head?_eq_getElem?];exact mText_head _
 have hnoT:∀ i:Nat,¬ ((L T)[i]? = some 47∧(L T)[i+1]? = some 47):=by rw[hl];exact aA6 hno
 have hsz:T.size=q+1+n.length:=by rw[← eK,S.eq,List.length_append,hpl]
 obtain ⟨p0,hp0⟩:∃ p0,iU { fT with comp:=comp } T=p0:=⟨_,rfl⟩
 have hp0' : p0 = { fT with comp:=comp,s:=T,typ:=if gC (L T) gY then 7 else 0 }:=by rw[← hp0];rfl
 rw[hp0] at hd;have hws:=wD (E:=eI st) (comp:=comp) (p:=p0) (q:=q) (n:=n)
 obtain ⟨r,hr⟩:∃ r,iR st comp (gC (L T) gY) (lastB T) (fB n)=r:=⟨_,rfl⟩
 obtain ⟨P,hP⟩:∃ P,mG (eI st) comp p0 q n=P:=⟨_,rfl⟩
 rw[hP] at hws hd;have hPs:P.s=T:=by rw[hws.s,hp0']
 have hPt:P.typ=if gC (L T) gY then 7 else 0:=by rw[hws.typ,hp0']
 have hPc:P.comp=comp:=by rw[hws.comp,hp0']
 have hPr:P.trim=false:=by rw[hws.trim,hp0'];rfl
 -- what the words leave
 obtain ⟨e,he1,he2,he3,hW,hb,hst⟩:∃ e:Nat,P.nEnd=(if fB n=[] then -1 else ((q+1+e:Nat):Int))∧e≤n.length∧mM r.marks (n.length:Int)=(e:Int) ∧
  ((P.known=[]∧fB n=[]∧r=jK∧e=n.length∧P=p0)∨(P.known≠[]∧fB n≠[]∧Rel st comp (gC (L T) gY) T P r∧0 < e∧r.ext≠⟨#[]⟩∧∃ c:Nat,P.known[0]? = some (((q+1+c+1:Nat):Int),(T.size:Int))∧c < n.length∧n[c]? = some 46∧e≤c)) ∧
  (r.baseof=(P.base != -1))∧(gC (L T) gY=true→∀ x,P.known[P.lay.toNat]? = some x→P.lay≠-1→(q:Int)+1 < x.1):=by
  obtain ⟨w1,w2⟩:=aCt (E:=eI st) (comp:=comp) S hpl K (p:=p0) (by rw[hp0']) (by rw[hp0'];rfl) (by rw[hp0'];rfl) (by rw[hp0'];rfl)
  by_cases hc:fB n=[]
  ·have hPp:P=p0:=by rw[← hP];exact w1 hc
   have hrz:r=jK:=by rw[← hr];unfold iR;rw[if_pos hc]
   have hk0:P.known=[]:=by rw[hPp,hp0'];rfl
   refine ⟨n.length,by rw[if_pos hc,hPp,hp0'];rfl,Nat.le_refl _,by rw[hrz];rfl,.inl ⟨hk0,hc,hrz,rfl,hPp⟩,by rw[hrz,hPp,hp0'];rfl,fun _ x hx _=>by rw[hk0] at hx;cases hx⟩
  obtain ⟨R,r1,⟨c,r2,r2'⟩,r3,r4⟩:=aF0 (st:=st) (sc:=gC (L T) gY) S hpl hnm K SE hp0' hc;rw[hP,hr] at R r1;rw[hP] at r4;rw[hr] at r2' r3;obtain ⟨hup,hlt⟩:=uG S
  have hcpos:0 < c:=by
   have hf:=K.first
   cases hs:fB n with
   | nil=>exact absurd hs hc
   | cons a t =>
    rw[hs] at hf r2 hup;have ha:a≠0:=fun h=>hf (by rw[h];rfl);rcases List.mem_cons.1 r2 with h | h
    ·omega
    have:=(List.pairwise_cons.1 hup).1 c h;omega
  obtain ⟨c0,hc0⟩:∃ c,(fB n).getLast? = some c:=by
   cases h:(fB n).getLast? with
   | none=>exact absurd (List.getLast?_eq_none_iff.1 h) hc
   | some c=>exact ⟨c,rfl⟩
  have hcle:c≤c0:=by
   obtain ⟨fr,hfr⟩:=List.getLast?_eq_some_iff.1 hc0;rw[hfr] at r2 hup;rcases List.mem_append.1 r2 with h | h
   ·exact Nat.le_of_lt ((List.pairwise_append.1 hup).2.2 c h c0 bJ)
   rw[List.mem_singleton] at h;omega
  have hH:=w2 c0 hc0;rw[hP] at hH;refine ⟨c,by rw[if_neg hc,r1,r2'];omega,Nat.le_of_lt (hlt c r2),r2',.inr ⟨R.ne,hc,R,hcpos,r3,c0,hH.at_,hlt c0 (List.mem_of_getLast? hc0),(vS n _ _ c0 (List.mem_of_getLast? hc0)).2,hcle⟩,R.base,r4⟩
 have hds:d.p.s=T:=by rw[hd];exact hPs
 have hN:(gG d.p).nLow=(q:Int)+1∧(gG d.p).nHigh=((q+1+e:Nat):Int):=by
  refine ⟨by show d.p.cHigh=_;rw[hd],?_⟩;show (if d.p.cHigh≤d.p.nEnd then d.p.nEnd else (d.p.s.size:Int))=_;rw[hds,hd];show (if (q:Int)+1≤P.nEnd then P.nEnd else (T.size:Int))=_;rw[he1];rcases hW with ⟨_,h,_,h2,_⟩ | ⟨_,h,_⟩
  ·rw[if_pos h,if_neg bA,h2,hsz]
  rw[if_neg h,if_pos bA]
 have hnmt:L (sub (gG d.p).s (gG d.p).nLow (gG d.p).nHigh)=n.take e:=by
  rw[hN.1,hN.2,show (q:Int)+1=((q+1:Nat):Int) by omega,jD,eS];show ((L d.p.s).drop (q+1)).take _=_;rw[hds,S.eq,← hpl,List.drop_left];congr 1;omega
 have hids:r.ids=[]↔d.p.known=[]:=by
  rw[hd];show _↔P.known=[];rcases hW with ⟨h,_,h2,_⟩ | ⟨h,_,R,_⟩
  ·rw[h,h2];simp[jK]
  exact ⟨fun h3=>absurd h3 R.idsNe,fun h3=>absurd h3 h⟩
 have hty:=aFt (st:=st) (comp:=comp) (T:=T) (d:=d) (r:=r) (nm:=n.take e) hds (by rw[hd];exact hPr) (by rw[hd];exact hPc) (by rw[hd];exact hPt) hids
  (by
   intro h;rw[hd] at h ⊢;rcases hW with ⟨h1,_⟩ | ⟨_,_,R,_⟩
   ·exact absurd h1 h
   exact R.ext.str)
  (by rw[hd];exact hb)
  (by
   intro h;rw[hd] at h ⊢;show P.base = -1;rcases hW with ⟨_,_,_,_,h1⟩ | ⟨h1,_⟩
   ·rw[h1,hp0'];rfl
   exact absurd h h1)
  hnmt
  (by
   rw[hN.1,hN.2];constructor
   ·intro h h2;have:=congrArg List.length h2;rw[List.length_take,List.length_nil] at this;omega
   intro h;have:0 < (n.take e).length:=List.length_pos_iff.2 h;rw[List.length_take] at this
   omega)
  (by
   intro hs hlay;rw[hd] at hlay ⊢;show (P.known.getD P.lay.toNat (0,0)).1≠(q:Int)+1;rcases hW with ⟨_,_,_,_,h1⟩ | ⟨_,_,R,_⟩
   ·exfalso;refine hlay ?_;show P.lay = -1;rw[h1,hp0'];rfl
   rcases R.layPos with h | h
   ·exact absurd h hlay
   have hlt:P.lay.toNat < P.known.length:=by omega
   rw[List.getD_eq_getElem?_getD,List.getElem?_eq_getElem hlt,Option.getD_some];have:=hst hs _ (List.getElem?_eq_getElem hlt) hlay
   omega)
 refine ⟨T,q,n,e,d.sc,hTe,by rw[hn.1,← hn.2],?_⟩;rw[hr,hm,hty];refine ⟨⟨⟨pre,S,hpl⟩,h0,h47,hnoT,hds,by show d.p.cHigh=_;rw[hd],by show d.p.cLow=_;rw[hd],?_,hsc,hN.1,hN.2,he2,he3,?_⟩,rfl,by show d.p.comp=comp;rw[hd];exact hPc,by show d.p.trim=false;rw[hd];exact hPr⟩
 ·show (if _∧_ then (0:Int) else d.p.sec)=_;rw[show d.p.sec=xV (L T) q (if 0 < q then (q:Int) else -1) by rw[hd]];rfl
 obtain ⟨F,hF⟩:∃ F:eJ,{ gG d.p with typ:=mL st comp (L T) (n.take e) (!r.ids.isEmpty) r.ext r.baseof,sec:=if mL st comp (L T) (n.take e) (!r.ids.isEmpty) r.ext r.baseof=3∧d.sc=2 then 0 else d.p.sec }=F:=⟨_,rfl⟩
 have hFk:F.known=P.known:=by rw[← hF];show d.p.known=_;rw[hd]
 have hFs:F.s=P.s:=by rw[← hF];show d.p.s=_;rw[hd]
 have hFl:F.lay=P.lay:=by rw[← hF];show d.p.lay=_;rw[hd]
 have hFu:F.unknown=P.unknown:=by rw[← hF];show d.p.unknown=_;rw[hd]
 have hFp:F.plangs=P.plangs:=by rw[← hF];show d.p.plangs=_;rw[hd]
 have hFa:F.lang=P.lang∧F.fmt=P.fmt∧F.kind=P.kind∧F.cust=P.cust∧F.pfmt=P.pfmt∧F.pkind=P.pkind∧F.play=P.play∧F.dis=P.dis∧F.comp=P.comp:=by
  rw[← hF];show d.p.lang=_∧d.p.fmt=_∧d.p.kind=_∧d.p.cust=_∧d.p.pfmt=_∧d.p.pkind=_∧d.p.play=_∧d.p.dis=_∧d.p.comp=_;rw[hd];exact ⟨rfl,rfl,rfl,rfl,rfl,rfl,rfl,rfl,rfl⟩
 obtain ⟨a1,a2,a3,a4,a5,a6,a7,a8,a9⟩:=hFa;rw[hF]
 have hstr:∀ i,fH F i=fH P i:=by
  intro i;unfold fH;rw[hFk,hFs]
 rcases hW with ⟨h1,h2,h3,h4,h5⟩ | ⟨h1,h2,R,h3,h4,c,h5,h6⟩
 ·left;rw[hFk,a1,a2,a3,a4,a5,a6,a7,hFl,hFp,hFu,a8];refine ⟨h1,h2,h3,h4,?_⟩;rw[h5,hp0'];exact ⟨rfl,rfl,rfl,rfl,rfl,rfl,rfl,rfl,rfl,rfl,rfl⟩
 right;rw[hFk]
 have G:Grown P F:=⟨hFs,.inr (.inr ⟨hFk,hFl⟩)⟩
 have hix:=R.ix.grown G;refine ⟨h1,h2,⟨?_,?_,?_,?_,by rw[a8];exact R.dis,by rw[hstr];exact R.ext.str⟩,h3,h4,c,h5,h6⟩
 ·rw[R.ids];unfold iV;rw[hFk,hFs]
 ·rw[R.unk];unfold kB;rw[hFu,hFs]
 ·rw[a1,a2,a3,a4,a5,a6,a7,hFp,a9,hPc];exact hix
 rw[hstr,hFl];rcases R.lay with ⟨h,_,h'⟩ | ⟨_,h,x,hx,h'⟩
 ·rw[h,h'];rfl
 unfold fH;rw[if_neg bA,hx];exact h'
def wV (st:fD) (comp T:ByteArray) (n:List UInt8) (r:RV) (e:Nat) (t:Int):WV :=
 { comp:=comp,path:=T,name:=lastB T,nEnd:=e,ids:=r.ids,unk:=r.unk,langs:=r.langs,ext:=r.ext,fmt:=if eV comp=true∧chooseB r.fmt r.fmt1=⟨#[]⟩∧fB n≠[]∧iE st r.ext=true then r.ext else chooseB r.fmt r.fmt1,kind:=chooseB r.kind r.kind1,lay:=chooseB r.lay r.lay1,lang:=(match r.langs with | []=>r.lang1 | l::_=>l),cust:=r.cust,dis:=r.dis,typ:=t }
theorem aCd {b:Bool} {x:ByteArray} (h:(L x).head?≠some 47):nrm b x=x:=by
 unfold nrm;split
 ·refine L_inj ?_;rw[kV];unfold Lib.trimPrefix Lib.hasPrefix;rw[if_neg];intro hp;rw[List.isPrefixOf_iff_prefix] at hp;obtain ⟨t,ht⟩:=hp;exact h (by rw[← ht];rfl)
 rfl
theorem aFc {p:eJ} {k0:Int×Int} (h:p.known=[k0]) (b:Bool):jH p true b=nrm p.trim p.s:=by
 unfold jH;rw[h];simp
theorem yE {p:eJ} {k0 k1:Int×Int} {rest:List (Int×Int)} (h:p.known=k0::k1::rest) {b:Bool}:jH p true b=nrm p.trim (sub p.s 0 (lS p b)++sub p.s (k0.1 - 1) k0.2):=by
 unfold jH;rw[h];simp
theorem aHi (b:Bool):nrm b ⟨#[]⟩=⟨#[]⟩:=aCd (by rw[show L (⟨#[]⟩:ByteArray)=[] from rfl];decide)
theorem aBl {w:ByteArray} (h:hO (L w)=true):(⟨(Lib.trimSuffix (Lib.trimPrefix (L w) [95]) [95]).toArray⟩:ByteArray)=fS w:=by
 refine L_inj ?_;unfold hO at h;simp only[Bool.and_eq_true,decide_eq_true_eq,beq_iff_eq] at h;obtain ⟨h1,h2,h3⟩:=h;have hz:=eK w;rw[kV];unfold fS;rw[eS]
 cases hl:L w with
 | nil=>rw[hl] at h1;simp at h1
 | cons a m =>
  rw[hl] at h1 h2 h3 hz;simp only[List.getElem?_cons_zero,Option.some.injEq] at h2;subst h2
  have e1:Lib.trimPrefix (95::m) [95]=m:=by
   unfold Lib.trimPrefix Lib.hasPrefix;rw[if_pos (by rw[List.isPrefixOf_iff_prefix];exact ⟨m,rfl⟩)];rfl
  have hm:m≠[]:=by rintro rfl;simp at h1
  have e2:m.getLast? = some 95:=by
   rw[List.getLast?_eq_getElem?]
   have:(95::m)[(95::m).length - 1]? = m[m.length - 1]?:=by
    rw[show (95::m).length - 1=(m.length - 1)+1 by have:=List.length_pos_iff.2 hm;simp;omega,List.getElem?_cons_succ]
   rw[← this];exact h3
  rw[e1];unfold Lib.trimSuffix Lib.hasSuffix;rw[if_pos]
  ·show m.take (m.length - 1)=((95::m).drop 1).take (w.size - 1 - 1);rw[show (95::m).drop 1=m from rfl];congr 1;rw[← hz];simp
  rw[List.isSuffixOf_iff_suffix];rw[List.getLast?_eq_some_iff] at e2;obtain ⟨t,ht⟩:=e2;exact ⟨t,ht.symm⟩
section
variable {st:fD} {T:ByteArray} {q:Nat} {n:List UInt8} {p:eJ} {r:RV} {e sc:Nat} {t:Int} (P:PW st T q n p r e sc t)
include P
theorem PW.turn {p' : eJ} (h:∃ ty tr,p' = { p with typ:=ty,trim:=tr }):PW st T q n p' r e sc t:=by
 obtain ⟨ty,tr,rfl⟩:=h
 have G:Grown p { p with typ:=ty,trim:=tr }:=⟨rfl,.inr (.inr ⟨rfl,rfl⟩)⟩
 refine ⟨P.split,P.head,P.h47,P.no,P.s,P.cHigh,P.cLow,P.sec,P.sc,P.nLow,P.nHigh,P.le,P.rend,?_⟩;rcases P.words with h | ⟨h1,h2,R,h3⟩
 ·exact .inl h
 exact .inr ⟨h1,h2,⟨R.ids,R.unk,R.ix.grown G,R.lay,R.dis,R.ext⟩,h3⟩
theorem PW.size:T.size=q+1+n.length:=by
 obtain ⟨pre,S,hp⟩:=P.split;rw[← eK,S.eq,List.length_append,hp]
theorem PW.ns (j:Nat) (h:q < j):(L T)[j]?≠some 47:=by
 obtain ⟨pre,S,hp⟩:=P.split;rw[S.eq,List.getElem?_append_right bA];exact S.no _
theorem PW.sl:slB (L T) T.size=some q:=uJ P.h47 _ (by have:=P.size;omega) (fun j h _=>P.ns j h)
theorem PW.nameL:L (lastB T)=n:=by
 obtain ⟨pre,S,hp⟩:=P.split;unfold lastB;rw[kV,S.behind.1,← S.behind.2]
theorem PW.nameZ:(lastB T).size=n.length:=by rw[← eK,P.nameL]
theorem PW.text (a b:Nat):T.extract (q+1+a) (q+1+b)=(lastB T).extract a b:=by
 obtain ⟨pre,S,hp⟩:=P.split;exact sU S hp P.nameL a b
theorem PW.name:wJ p=lastB T:=by
 obtain ⟨pre,S,hp⟩:=P.split;refine L_inj ?_;unfold wJ;rw[P.cHigh,P.s,show (q:Int)+1=((q+1:Nat):Int) by omega,aH2,P.nameL,← hp,S.eq,List.drop_left]
theorem PW.nameNoId:jA p=(lastB T).extract 0 e:=by
 unfold jA;rw[P.nLow,P.nHigh,P.s,show (q:Int)+1=((q+1:Nat):Int) by omega,jD];exact P.text 0 e
theorem PW.dir:pK p=nrm p.trim (kK T):=by
 have h:=P.sl;unfold pK kK;rw[h]
 cases q with
 | zero=>rw[if_pos (by rw[P.cHigh];rfl)]
 | succ a =>
  rw[if_neg (by rw[P.cHigh];omega),P.cHigh,P.s,show ((a+1:Nat):Int)+1 - 1=((a+1:Nat):Int) by omega];rfl
theorem PW.low {a:Nat} (h:q=a+1):∃ j:Nat,slB (L T) (a+1)=some j∧p.cLow=(j:Int)+1∧j < a∧(L T)[j]? = some 47∧∀ i,j < i→i < a+1→(L T)[i]?≠some 47:=by
 subst h;obtain ⟨j,hj⟩:=aCn P.head (a+1) bA;obtain ⟨h1,h2,h3⟩:=aCo _ hj;refine ⟨j,hj,?_,?_,h1,h3⟩
 ·rw[P.cLow,aDx,hj]
 by_cases c:j=a
 ·subst c;exact absurd ⟨h1,P.h47⟩ (P.no j)
 omega
theorem PW.low0 (h:q=0):p.cLow = -1:=by subst h;rw[P.cLow];rfl
theorem PW.lastOf {a j:Nat} (h:q=a+1) (h1:(L T)[j]? = some 47) (h2:j < a) (h3:∀ i,j < i→i < a+1→(L T)[i]?≠some 47):lastB (T.extract 0 (a+1))=T.extract (j+1) (a+1):=by
 have hlen:a+1 < (L T).length:=by rw[eK,P.size];omega
 refine L_inj ?_;have e1:L (T.extract 0 (a+1))=(L T).take (a+1):=by rw[eS];rfl
 have S:nA ((L T).take (a+1)) ((L T).take (j+1)) (((L T).take (a+1)).drop (j+1)):=by
  refine ⟨?_,⟨(L T).take j,?_⟩,fun k=>?_⟩
  ·have:=(List.take_append_drop (j+1) ((L T).take (a+1))).symm;rwa[List.take_take,Nat.min_eq_left bA] at this
  ·obtain ⟨g1,g2⟩:=List.getElem?_eq_some_iff.1 h1;rw[List.take_succ_eq_append_getElem g1,g2]
  rw[List.getElem?_drop,List.getElem?_take];split
  ·exact h3 _ bA bA
  simp
 unfold lastB;rw[kV,e1,S.behind.1,eS,List.drop_take];congr 2
 all_goals rw[List.length_take];omega
theorem PW.cont:mA p=mS T:=by
 have h:=P.sl;unfold mA mS;rw[h]
 cases q with
 | zero=>rw[if_pos (P.low0 rfl)];rfl
 | succ a =>
  obtain ⟨j,hj,h1,h2,h3,h4⟩:=P.low rfl;rw[if_neg bA,h1,P.cHigh,P.s,show ((a+1:Nat):Int)+1 - 1=((a+1:Nat):Int) by omega,show (j:Int)+1=((j+1:Nat):Int) by omega,jD];simp only[];rw[P.lastOf rfl h3 h2 h4];refine aCd ?_;rw[eS,List.head?_take,if_neg bA,List.head?_drop];exact h4 _ bA bA
theorem PW.contNe {a:Nat} (h:q=a+1):mS T≠⟨#[]⟩:=by
 subst h;obtain ⟨j,hj,h1,h2,h3,h4⟩:=P.low rfl;unfold mS;rw[P.sl];simp only[];rw[P.lastOf rfl h3 h2 h4];intro hh;have h9:=congrArg ByteArray.size hh;rw[← eK,eS,List.length_take,List.length_drop,eK,P.size] at h9;have h0:(⟨#[]⟩:ByteArray).size=0:=rfl;omega
theorem PW.contDir {comp:ByteArray}:lO p=nrm p.trim (qL (wV st comp T n r e p.typ)):=by
 unfold lO qL;show _=nrm p.trim (if lR p.typ=true∧mS T≠⟨#[]⟩ then (kK T).extract 0 ((slB (L (kK T)) (kK T).size).getD 0) else kK T)
 by_cases h0:q=0
 ·have hc:mS T=⟨#[]⟩:=by
   unfold mS;rw[P.sl,h0]
  rw[if_pos (.inl (P.low0 h0)),if_neg (fun h=>h.2 hc)];exact P.dir
 obtain ⟨a,ha⟩:∃ a,q=a+1:=⟨q - 1,aQ⟩
 obtain ⟨j,hj,h1,h2,h3,h4⟩:=P.low ha;have hne:=P.contNe ha
 by_cases hb:3≤p.typ∧p.typ≤5
 ·rw[if_neg (by rintro (h | h) <;> first | omega | exact h hb),if_pos ⟨by unfold lR;exact decide_eq_true hb,hne⟩,h1,P.s,show (j:Int)+1 - 1=(j:Int) by omega]
  have hd:kK T=T.extract 0 (a+1):=by
   unfold kK;rw[P.sl,ha]
  have hz:(T.extract 0 (a+1)).size=a+1:=by
   rw[← eK,eS,List.length_take,List.length_drop,eK,P.size];omega
  have hs:slB (L (kK T)) (kK T).size=some j:=by
   rw[hd,hz];refine uJ ?_ _ bA (fun i g1 g2=>?_)
   ·rw[eS,List.drop_zero,List.getElem?_take,if_pos bA];exact h3
   rw[eS,List.drop_zero,List.getElem?_take,if_pos bA];exact h4 i g1 bA
  rw[hs,Option.getD_some,hd];congr 1;refine L_inj ?_;rw[show (0:Int)=((0:Nat):Int) from rfl,jD,eS,eS,eS,List.drop_zero,List.drop_zero,List.take_take];congr 1;omega
 rw[if_pos (.inr hb),if_neg (by rintro ⟨h,_⟩;unfold lR at h;exact hb (of_decide_eq_true h))];exact P.dir
theorem PW.section_:kS p=uH T t:=by
 obtain ⟨pre,S,hp⟩:=P.split;obtain ⟨c1,c2⟩:=aCy S hp P.head;unfold kS uH;rw[c1]
 by_cases h0:q=0
 ·have a1:cntF (L T) q=0∨(cntF (L T) q=1∧t=3):=.inl (c2.2 h0)
  have a2:p.sec≤0:=by
   rw[P.sec,h0,if_neg (by omega:¬ 0 < 0)];split
   ·exact Int.le_refl _
   show (-1:Int)≤0;decide
  rw[if_pos a2,if_pos a1];rfl
 have hne:cntF (L T) q≠0:=fun h=>h0 (c2.1 h);obtain ⟨f,f1,f2,f3,f4,f5⟩:=zX (l:=L T) q q (Nat.le_refl _) bA P.h47 (fun j a b c=>by omega)
 by_cases h3:t=3∧sc=2
 ·have a1:cntF (L T) q=0∨(cntF (L T) q=1∧t=3):=.inr ⟨by have:=P.sc;omega,h3.1⟩;have a2:p.sec≤0:=by rw[P.sec,if_pos h3];exact Int.le_refl _
  rw[if_pos a2,if_pos a1];rfl
 have hs:p.sec=(f:Int):=by rw[P.sec,if_neg h3,if_pos bA,f1]
 have a1:¬ (cntF (L T) q=0∨(cntF (L T) q=1∧t=3)):=by
  rintro (h | ⟨h,h'⟩)
  ·exact hne h
  exact h3 ⟨h',by have:=P.sc;omega⟩
 have a2:¬ (p.sec≤0):=by rw[hs];omega
 rw[if_neg a2,if_neg a1,hs,P.s,show (1:Int)=((1:Nat):Int) from rfl,jD]
 have htw:((L T).drop 1).takeWhile (fun c=>c != 47)=((L T).drop 1).take (f - 1):=by
  refine vX _ _ ?_ (fun j hj=>?_)
  ·rw[List.getElem?_drop,show 1+(f - 1)=f by omega];exact f4
  rw[List.getElem?_drop];exact f5 _ bA bA
 rw[htw];have e1:(⟨(((L T).drop 1).take (f - 1)).toArray⟩:ByteArray)=T.extract 1 f:=L_inj (by rw[kV,eS]);rw[e1];refine aCd ?_;rw[eS,List.head?_take];split
 ·simp
 rw[List.head?_drop];intro h;exact P.no 0 ⟨P.head,h⟩
theorem PW.high:lS p false=((q+1+e:Nat):Int):=by
 unfold lS;simp only[Bool.false_eq_true,if_false];rw[P.nHigh,if_neg bA]
theorem PW.cat:T.extract 0 (T.size - (lastB T).size)++(lastB T).extract 0 e=T.extract 0 (q+1+e):=by
 refine L_inj ?_;have hz:=P.size;rw[iP,P.nameZ,← P.text 0 e,eS,eS,eS,hz,show q+1+n.length - n.length=q+1 by omega,List.drop_zero,Nat.sub_zero,Nat.sub_zero,Nat.add_zero,show q+1+e - (q+1)=e by omega];exact (List.take_add ..).symm
theorem PW.idsNe (h:p.known≠[]):r.ids≠[]:=by
 rcases P.words with ⟨h1,_⟩ | ⟨_,_,R,_⟩
 ·exact absurd h1 h
 rw[R.ids];unfold iV;simpa using h
theorem PW.none (h:p.known=[]):r=jK∧fB n=[]∧e=n.length:=by
 rcases P.words with ⟨_,h1,h2,h3,_⟩ | ⟨h1,_⟩
 ·exact ⟨h2,h1,h3⟩
 exact absurd h h1
theorem PW.point (h:p.known≠[]):∃ (c:Nat) (rest:List (Int×Int)),p.known=(((q+1+c+1:Nat):Int),(T.size:Int))::rest∧c < n.length∧r.ext=T.extract (q+1+c+1) T.size∧r.ext.size=n.length - c - 1∧(L T)[q+1+c]? = some 46∧e≤c:=by
 rcases P.words with ⟨h1,_⟩ | ⟨_,_,R,_,_,c,h1,h2,h46,hec⟩
 ·exact absurd h1 h
 cases hk:p.known with
 | nil=>exact absurd hk h
 | cons x rest =>
  rw[hk] at h1;injection h1 with h1
  subst h1
  have e1:r.ext=T.extract (q+1+c+1) T.size:=by
   rw[← R.ext];unfold fH;rw[if_neg bH,hk,P.s];exact jD _ _ _
  refine ⟨c,rest,rfl,h2,e1,?_,?_,hec⟩;rotate_left
  ·obtain ⟨pre,S,hp⟩:=P.split;rw[S.eq,List.getElem?_append_right bA,show q+1+c - pre.length=c by omega];exact h46
  rw[e1,← eK,eS,List.length_take,List.length_drop,eK,P.size];omega
theorem PW.noId {comp:ByteArray} {ty:Int}:jH p false false=nrm p.trim (pF (wV st comp T n r e ty)):=by
 unfold jH pF sT;show _=nrm p.trim (if r.ids=[] then T else T.extract 0 (T.size - (lastB T).size)++(lastB T).extract 0 e)
 cases hk:p.known with
 | nil =>
  obtain ⟨hr,_⟩:=P.none hk;rw[if_pos (by rw[hr];rfl),P.s]
 | cons k0 rest =>
  rw[if_neg (P.idsNe (by rw[hk];simp)),P.cat];simp only[Bool.false_eq_true,false_and,if_false];rw[P.high,P.s];rfl
theorem PW.noExt {comp:ByteArray} {ty:Int}:nJ p=qK (wV st comp T n r e ty) (lastB T):=by
 unfold nJ qK;show _=if r.ids=[] then lastB T else (lastB T).extract 0 ((lastB T).size - r.ext.size - 1)
 cases hk:p.known with
 | nil =>
  obtain ⟨hr,_⟩:=P.none hk;rw[if_pos (by rw[hr];rfl)];exact P.name
 | cons k0 rest =>
  have hne:p.known≠[]:=by rw[hk];simp
  obtain ⟨c,rest',h1,h2,h3,h4,_⟩:=P.point hne;rw[hk] at h1;injection h1 with h1 _
  rw[if_neg (P.idsNe hne),h1,h4,P.nameZ,P.cHigh,P.s];show sub T ((q:Int)+1) (((q+1+c+1:Nat):Int) - 1)=_;rw[show (q:Int)+1=((q+1+0:Nat):Int) by omega,show ((q+1+c+1:Nat):Int) - 1=((q+1+c:Nat):Int) by omega,jD,P.text 0 c];congr 1;omega
theorem PW.before {comp:ByteArray} {ty:Int}:rR p=nrm p.trim (qK (wV st comp T n r e ty) T):=by
 unfold rR qK;show _=nrm p.trim (if r.ids=[] then T else T.extract 0 (T.size - r.ext.size - 1))
 cases hk:p.known with
 | nil =>
  obtain ⟨hr,_⟩:=P.none hk;rw[if_pos (by rw[hr];rfl),P.s]
 | cons k0 rest =>
  have hne:p.known≠[]:=by rw[hk];simp
  obtain ⟨c,rest',h1,h2,h3,h4,_⟩:=P.point hne;rw[hk] at h1;injection h1 with h1 _
  rw[if_neg (P.idsNe hne),h1,h4,P.s];show nrm p.trim (sub T 0 (((q+1+c+1:Nat):Int) - 1))=_;rw[show ((q+1+c+1:Nat):Int) - 1=((q+1+c:Nat):Int) by omega,show (0:Int)=((0:Nat):Int) from rfl,jD,P.size];congr 2;omega
theorem PW.withExt (h:p.known≠[]):∃ k0 rest,p.known=k0::rest∧sub p.s 0 (lS p false)++sub p.s (k0.1 - 1) k0.2=T.extract 0 (T.size - (lastB T).size)++(lastB T).extract 0 e++⟨#[46]⟩++r.ext:=by
 obtain ⟨c,rest,h1,h2,h3,h4,hdot,_⟩:=P.point h;refine ⟨_,rest,h1,?_⟩;rw[P.cat,P.high,P.s];show sub T 0 ((q+1+e:Nat):Int)++sub T (((q+1+c+1:Nat):Int) - 1) (T.size:Int)=_;rw[show ((q+1+c+1:Nat):Int) - 1=((q+1+c:Nat):Int) by omega,show (0:Int)=((0:Nat):Int) from rfl,jD,jD,h3];refine L_inj ?_;rw[iP,iP,iP,List.append_assoc];congr 1;rw[eS,eS];have hlt:q+1+c < (L T).length:=by rw[eK,P.size];omega
 rw[List.take_of_length_le (by rw[List.length_drop,eK];omega),List.take_of_length_le (by rw[List.length_drop,eK];omega),List.drop_eq_getElem_cons hlt];rw[List.getElem?_eq_getElem hlt] at hdot;injection hdot with hdot
 rw[hdot];rfl
theorem PW.oneKnown:r.ids.length=p.known.length:=by
 rcases P.words with ⟨h1,_,h2,_⟩ | ⟨_,_,R,_⟩
 ·rw[h1,h2];rfl
 rw[R.ids];unfold iV;rw[List.length_map]
theorem PW.pathNe (x:ByteArray) (hx:∃ k,L x=(L T).take k) (b:Bool):L (nrm b x)=[47]→b=false∧L x=[47]:=by
 intro h;obtain ⟨k,hk⟩:=hx
 cases b with
 | false=>exact ⟨rfl,h⟩
 | true =>
  exfalso;unfold nrm at h;rw[if_pos rfl,kV,hk] at h
  cases k with
  | zero=>rw[List.take_zero] at h;cases h
  | succ k =>
   have h0:=P.head
   cases hl:L T with
   | nil=>rw[hl] at h0;cases h0
   | cons a m =>
    rw[hl] at h0 h;simp only[List.getElem?_cons_zero,Option.some.injEq] at h0;subst h0;rw[List.take_succ_cons] at h;unfold Lib.trimPrefix Lib.hasPrefix at h;rw[if_pos (by rw[List.isPrefixOf_iff_prefix];exact ⟨_,rfl⟩)] at h;have h2:(m.take k)=[47]:=h
    have h3:m[0]? = some 47:=by
     have:=congrArg (fun l=>l[0]?) h2;simp only[List.getElem?_cons_zero] at this;rw[List.getElem?_take] at this;split at this
     ·exact this
     cases this
    exact P.no 0 ⟨by rw[hl];rfl,by rw[hl];exact h3⟩
theorem PW.base {comp:ByteArray}:nH p=nrm p.trim (rP (wV st comp T n r e p.typ)):=by
 unfold nH rP;show (if _ then _ else _)=nrm p.trim (if r.ids=[] then (if T=⟨#[47]⟩∧2≤p.typ∧p.typ≤5 then ⟨#[]⟩ else T) else if lR p.typ=true then (if kK T=⟨#[47]⟩ then ⟨#[]⟩ else kK T) else if p.typ=2 then pF (wV st comp T n r e p.typ) else if r.ids.length=1 then T else pF (wV st comp T n r e p.typ)++⟨#[46]⟩++r.ext)
 have hone:∀ x:ByteArray,x=⟨#[47]⟩↔L x=[47]:=fun x=>⟨fun h=>by rw[h];rfl,fun h=>L_inj (by rw[h];rfl)⟩
 have empt:(ByteArray.empty:ByteArray)=nrm p.trim ⟨#[]⟩:=by rw[aHi];rfl
 have take:∀ (x:ByteArray) (k:Nat),x=T.extract 0 k→∃ k,L x=(L T).take k:=by
  rintro x k rfl;exact ⟨k,by rw[eS];rfl⟩
 have whole:∃ k,L T=(L T).take k:=⟨(L T).length,(List.take_of_length_le (Nat.le_refl _)).symm⟩
 -- whatever the base is: where it is not / alone,or it is no page
 have key:∀ (B0 x y:ByteArray),B0=nrm p.trim x→(∃ k,L x=(L T).take k)→(2≤p.typ∧p.typ≤5)→y=(if L x=[47] then ⟨#[]⟩ else x)→(if B0.toList=[47]∧2≤p.typ∧p.typ≤5 then ByteArray.empty else B0)=nrm p.trim y:=by
  rintro B0 x y rfl hx hc rfl;rw[L_toList]
  by_cases h:L x=[47]
  ·rw[if_pos h,← empt]
   by_cases h2:L (nrm p.trim x)=[47]
   ·rw[if_pos ⟨h2,hc⟩]
   rw[if_neg (fun hh=>h2 hh.1)]
   cases hb:p.trim with
   | false=>rw[hb] at h2;exact absurd h h2
   | true =>
    refine L_inj ?_;unfold nrm;rw[if_pos rfl,kV,h];rfl
  rw[if_neg h,if_neg (fun hh=>h (P.pathNe x hx _ hh.1).2)]
 cases hk:p.known with
 | nil =>
  obtain ⟨hr,_⟩:=P.none hk
  have hb:∀ a b,jH p a b=nrm p.trim T:=by
   intro a b;unfold jH;rw[hk,P.s]
  have a1:r.ids=[]:=by rw[hr];rfl
  rw[if_pos a1,hb]
  by_cases hc:2≤p.typ∧p.typ≤5
  ·refine key _ T _ rfl whole hc ?_
   by_cases h:L T=[47]
   ·rw[if_pos h,if_pos ⟨(hone T).2 h,hc⟩]
   rw[if_neg h,if_neg (fun hh=>h ((hone T).1 hh.1))]
  rw[if_neg (fun h=>hc h.2:¬ ((nrm p.trim T).toList=[47]∧2≤p.typ∧p.typ≤5)),if_neg (fun h=>hc h.2:¬ (T=⟨#[47]⟩∧2≤p.typ∧p.typ≤5))]
 | cons k0 rest =>
  have hne:p.known≠[]:=by rw[hk];simp
  have a1:¬ (r.ids=[]):=P.idsNe hne;rw[if_neg a1]
  by_cases hc:2≤p.typ∧p.typ≤5
  ·have e1:(!decide (2≤p.typ∧p.typ≤5))=false:=by rw[decide_eq_true hc];rfl
   rw[e1]
   by_cases hbn:3≤p.typ∧p.typ≤5
   ·have e2:decide (3≤p.typ∧p.typ≤5)=true:=decide_eq_true hbn;rw[e2,if_pos (show lR p.typ=true from e2)]
    have hb:jH p false true=nrm p.trim (T.extract 0 (if q=0 then 1 else q)):=by
     unfold jH;rw[hk];simp only[Bool.false_eq_true,false_and,if_false];unfold lS;simp only[if_true];rw[P.cHigh,P.s,show (q:Int)+1 - 1=(q:Int) by omega]
     by_cases h0:q=0
     ·rw[if_pos bA,if_pos h0];rfl
     rw[if_neg bA,if_neg h0];rfl
    refine key _ (T.extract 0 (if q=0 then 1 else q)) _ hb (take _ _ rfl) hc ?_
    have hd:kK T=if q=0 then ⟨#[47]⟩ else T.extract 0 q:=by
     unfold kK;rw[P.sl]
     cases q with
     | zero=>rfl
     | succ a=>rfl
    by_cases h0:q=0
    ·rw[if_pos h0] at hd;rw[if_pos h0,hd,if_pos rfl,if_pos];have hlt:0 < (L T).length:=by rw[eK,P.size];omega
     rw[eS,List.drop_zero];have hh:=P.head
     cases hl:L T with
     | nil=>rw[hl] at hlt;simp at hlt
     | cons a m =>
      rw[hl] at hh;simp only[List.getElem?_cons_zero,Option.some.injEq] at hh;rw[hh];rfl
    rw[if_neg h0] at hd;rw[if_neg h0,hd]
    have hne2:L (T.extract 0 q)≠[47]:=by
     intro h
     obtain ⟨a,ha⟩:∃ a,q=a+1:=⟨q - 1,aQ⟩
     obtain ⟨j,_,_,h2,_⟩:=P.low ha;have:=congrArg List.length h;rw[eS,List.length_take,List.length_drop,eK,P.size] at this
     simp at this
     omega
    rw[if_neg hne2,if_neg (fun h=>hne2 ((hone _).1 h))]
   have e2:decide (3≤p.typ∧p.typ≤5)=false:=decide_eq_false hbn;rw[e2,if_neg (show ¬ (lR p.typ=true) by unfold lR;rw[e2];decide),if_pos (by omega:p.typ=2)]
   have hw:pF (wV st comp T n r e p.typ)=T.extract 0 (q+1+e):=by
    unfold pF;show (if r.ids=[] then T else sT _++_)=_;rw[if_neg (P.idsNe hne)];exact P.cat
   refine key _ (T.extract 0 (q+1+e)) _ ?_ (take _ _ rfl) hc ?_
   ·rw[P.noId (comp:=comp) (ty:=p.typ),hw]
   have hpos:0 < e:=by
    rcases P.words with ⟨h1,_⟩ | ⟨_,_,_,h,_⟩
    ·exact absurd h1 hne
    exact h
   rw[hw,if_neg];intro h;have:=congrArg List.length h;rw[eS,List.length_take,List.length_drop,eK,P.size] at this;have hle:=P.le
   simp at this
   omega
  have e1:(!decide (2≤p.typ∧p.typ≤5))=true:=by rw[decide_eq_false hc];rfl
  have e2:decide (3≤p.typ∧p.typ≤5)=false:=decide_eq_false (fun h=>hc ⟨aQ,h.2⟩);have b1:¬ ((jH p (!decide (2≤p.typ∧p.typ≤5)) (decide (3≤p.typ∧p.typ≤5))).toList=[47]∧2≤p.typ∧p.typ≤5):=fun h=>hc h.2;have b2:¬ (lR p.typ=true):=by unfold lR;rw[e2];decide
  have b3:¬ (p.typ=2):=fun h=>hc bA;rw[if_neg b1,if_neg b2,if_neg b3,e1,e2,P.oneKnown];obtain ⟨k0',rest',hk',hw⟩:=P.withExt hne;rw[hk] at hk';injection hk' with h1 h2
  subst h1 h2
  cases rest with
  | nil =>
   have b4:p.known.length=1:=by rw[hk];rfl
   rw[if_pos b4,aFc hk,P.s]
  | cons k1 rest =>
   have b4:¬ (p.known.length=1):=by rw[hk];simp
   rw[if_neg b4,yE hk,hw];unfold pF;show _=nrm p.trim ((if r.ids=[] then T else sT _++_)++_++_);rw[if_neg a1];rfl
theorem PW.langIs:pE p=(match r.langs with | []=>r.lang1 | l::_=>l)∧((p.plangs≠[]∨mY p p.lang≠-1)↔(match r.langs with | []=>r.lang1 | l::_=>l)≠⟨#[]⟩)∧((p.plangs≠[]∨mY p p.lang≠-1)→2≤p.known.length):=by
 unfold pE;rcases P.words with ⟨h1,_,hr,_,h2,_,_,_,_,_,_,_,h3,_⟩ | ⟨h1,_,R,_⟩
 ·rw[h3,h2,hr];refine ⟨rfl,⟨?_,fun h=>absurd rfl h⟩,?_⟩
  ·rintro (h | h)
   ·exact absurd rfl h
   exact absurd (by unfold mY;rw[if_pos (.inl bH)]) h
  rintro (h | h)
  ·exact absurd rfl h
  exact absurd (by unfold mY;rw[if_pos (.inl bH)]) h
 have I:=R.ix
 cases hp:p.plangs with
 | nil =>
  have hl:r.langs=[]:=by rw[I.langs,hp];rfl
  rw[hl];refine ⟨I.lang.str,?_,?_⟩
  ·simp only[ne_eq,not_true_eq_false,false_or];rcases I.lang with ⟨h2,h3⟩ | ⟨h2,h3⟩
   ·rw[h2,h3];exact ⟨fun h=>absurd (by unfold mY;rw[if_pos (.inl bH)]) h,fun h=>absurd rfl h⟩
   obtain ⟨g0,_,x,g1,_⟩:=h2;have:=(List.getElem?_eq_some_iff.1 g1).1;refine ⟨fun _=>h3,fun _=>?_⟩;unfold mY;rw[if_neg bA];omega
  rintro (h | h)
  ·exact absurd rfl h
  unfold mY at h;split at h
  ·exact absurd rfl h
  rename_i hh
  have:=I.pos.1;omega
 | cons i rest =>
  have hl:r.langs=fH p i::rest.map (fH p):=by rw[I.langs,hp];rfl
  rw[hl];refine ⟨rfl,⟨fun _=>I.lne _ (by rw[hl];exact List.mem_cons_self ..),fun _=>.inl bJ⟩,fun _=>?_⟩;obtain ⟨g0,_,x,g1,_⟩:=I.pl i (by rw[hp];exact List.mem_cons_self ..);have:=(List.getElem?_eq_some_iff.1 g1).1;have:=I.pos.2 i (by rw[hp];exact List.mem_cons_self ..);omega
theorem PW.noLang {comp:ByteArray} {ty:Int}:rT p=nrm p.trim (wK (wV st comp T n r e ty)):=by
 obtain ⟨h1,h2,h3⟩:=P.langIs;unfold rT wK;show _=nrm p.trim (if (match r.langs with | []=>r.lang1 | l::_=>l)=⟨#[]⟩ then T else T.extract 0 (T.size - (lastB T).size)++(lastB T).extract 0 e++⟨#[46]⟩++r.ext)
 by_cases c:p.plangs≠[]∨mY p p.lang≠-1
 ·have hlen:=h3 c;have hne:p.known≠[]:=by intro h;rw[h] at hlen;simp at hlen
  obtain ⟨k0,rest,hk,hw⟩:=P.withExt hne;have a1:¬ ((match r.langs with | []=>r.lang1 | l::_=>l)=⟨#[]⟩):=h2.1 c;rw[if_pos c,if_neg a1,← hw]
  cases rest with
  | nil=>rw[hk] at hlen;simp at hlen
  | cons k1 rest=>exact yE hk
 rw[if_neg c,if_pos (by
  by_cases h:(match r.langs with | []=>r.lang1 | l::_=>l)=⟨#[]⟩
  ·exact h
  exact absurd (h2.2 h) c),P.s]
theorem PW.extIs:fH p 0=r.ext:=by
 rcases P.words with ⟨h1,_,hr,_⟩ | ⟨_,_,R,_⟩
 ·rw[hr];unfold fH;rw[if_neg bH,h1];rfl
 exact R.ext
theorem PW.fmtIs {comp:ByteArray} {ty:Int} (hc:p.comp=comp):xQ p=(wV st comp T n r e ty).fmt:=by
 show _=if eV comp=true∧chooseB r.fmt r.fmt1=⟨#[]⟩∧fB n≠[]∧iE st r.ext=true then r.ext else chooseB r.fmt r.fmt1
 have hx:=P.extIs;unfold xQ chooseB;rcases P.words with ⟨h1,h2,hr,_,_,h3,_,_,h4,_⟩ | ⟨h1,h2,R,_⟩
 ·rw[if_pos h4,h3,hr,if_neg (fun h=>h.2.2.1 h2)];rfl
 rcases R.ix.pfmt with ⟨a1,a2⟩ | ⟨a1,a2⟩
 ·rw[if_pos a1,a2,if_pos rfl];rcases R.ix.fmt with ⟨b1,b2⟩ | ⟨b1,b2⟩
  ·rw[b1,b2];unfold fmt0;rw[hc]
   by_cases c:(eV comp && iE st r.ext)=true
   ·rw[if_pos c,hx];rw[Bool.and_eq_true] at c;rw[if_pos ⟨c.1,rfl,h2,c.2⟩]
   rw[if_neg c,if_neg (fun h=>c (by rw[Bool.and_eq_true];exact ⟨h.1,h.2.2.2⟩))];rfl
  rw[b2.str,if_neg (fun h=>b1 h.2.1)]
 rw[if_neg (by have:=a1.1;omega),a1.str,if_neg a2,if_neg (fun h=>a2 h.2.1)]
theorem PW.kindIs:yP p=chooseB r.kind r.kind1:=by
 unfold yP chooseB;rcases P.words with ⟨h1,h2,hr,_,_,_,h3,_,_,h4,_⟩ | ⟨h1,h2,R,_⟩
 ·rw[if_pos h4,h3,hr];rfl
 rcases R.ix.pkind with ⟨a1,a2⟩ | ⟨a1,a2⟩
 ·rw[if_pos a1,a2,if_pos rfl];exact R.ix.kind.str
 rw[if_neg (by have:=a1.1;omega),a1.str,if_neg a2]
theorem PW.layIs:qG p=chooseB r.lay r.lay1:=by
 unfold qG chooseB;rcases P.words with ⟨h1,h2,hr,_,_,_,_,_,_,_,h4,h3,_⟩ | ⟨h1,h2,R,_⟩
 ·rw[if_pos h4,h3,hr];rfl
 rcases R.ix.play with ⟨a1,a2⟩ | ⟨a1,a2⟩
 ·rw[if_pos a1,a2,if_pos rfl];exact R.lay
 rw[if_neg (by have:=a1.1;omega),a1.str,if_neg a2]
theorem PW.custIs:oG p=r.cust:=by
 unfold oG;have h0:(⟨(Lib.trimSuffix (Lib.trimPrefix (L (fH p (-1))) [95]) [95]).toArray⟩:ByteArray)=⟨#[]⟩:=rfl;rcases P.words with ⟨h1,h2,hr,_,_,_,_,h3,_⟩ | ⟨h1,h2,R,_⟩
 ·rw[h3,hr];rfl
 rcases R.ix.cust with ⟨a1,a2⟩ | ⟨w,a1,a2,a3⟩
 ·rw[a1,a2];rfl
 rw[a1.str,a3];exact aBl a2
theorem PW.lists:iV p=r.ids∧kB p=r.unk∧iT p=r.langs∧p.dis=r.dis:=by
 rcases P.words with ⟨h1,h2,hr,_,_,_,_,_,_,_,_,_,h3,h4,h5⟩ | ⟨h1,h2,R,_⟩
 ·unfold iV kB iT;rw[h1,h3,h4,h5,hr];exact ⟨rfl,rfl,rfl,rfl⟩
 exact ⟨R.ids.symm,R.unk.symm,R.ix.langs.symm,R.dis⟩
end
def vT (w:WV) (t:Int) (b:Bool):ToldV :=
 { aBc w with
  section_:=uH w.path t
  containerDir:=nrm b (qL w)
  dir:=nrm b (kK w.path)
  path:=nrm b w.path
  pathNoLang:=nrm b (wK w)
  pathNoId:=nrm b (pF w)
  pathBefore:=nrm b (qK w w.path)
  base:=nrm b (rP w)
  idBase:=nrm b (if eV w.comp=true then w.path else rP w) }
theorem aE0 (w:WV):vT w w.typ false=aBc w:=rfl
theorem aHp {st:fD} {T:ByteArray} {q:Nat} {n:List UInt8} {p:eJ} {r:RV} {e sc:Nat} {t:Int} (P:PW st T q n p r e sc t) (comp:ByteArray) (hc:p.comp=comp) :
 gQ p=vT (wV st comp T n r e p.typ) t p.trim:=by
 obtain ⟨l1,l2,l3,l4⟩:=P.lists
 have hb:rS p=nrm p.trim (if eV comp=true then T else rP (wV st comp T n r e p.typ)):=by
  unfold rS eV;rw[hc]
  by_cases c:comp.toList=[108,97,121,111,117,116,115]
  ·rw[if_pos c,if_pos (beq_iff_eq.2 c),P.s]
  rw[if_neg c,if_neg (fun h=>c (beq_iff_eq.1 h))];exact P.base
 have hbn:nI p=if lR p.typ=true then mS T else (lastB T).extract 0 e:=by
  unfold nI lR
  by_cases c:3≤p.typ∧p.typ≤5
  ·rw[if_pos c,if_pos (decide_eq_true c)];exact P.cont
  rw[if_neg c,if_neg (by rw[decide_eq_false c];decide)];exact P.nameNoId
 unfold gQ;rw[hc,P.cont,P.contDir (comp:=comp),P.section_,P.name,P.noExt (comp:=comp) (ty:=p.typ),hbn,P.nameNoId,P.dir,P.s,P.noLang (comp:=comp) (ty:=p.typ),P.noId (comp:=comp) (ty:=p.typ),P.before (comp:=comp) (ty:=p.typ),P.base (comp:=comp),hb,P.extIs,P.fmtIs (ty:=p.typ) hc,P.kindIs,P.layIs,P.langIs.1,P.custIs,l1,l2,l3,l4];rfl
theorem aHz {st:fD} {comp T:ByteArray} {q:Nat} {n:List UInt8} {p:eJ} {e sc:Nat} {t:Int}
 (P:PW st T q n p (iR st comp (gC (L T) gY) (lastB T) (fB n)) e sc t):wOf st comp T=wV st comp T n (iR st comp (gC (L T) gY) (lastB T) (fB n)) e (aE3 st comp T n (iR st comp (gC (L T) gY) (lastB T) (fB n)) e):=by
 have hn:=P.nameL
 have he:(mM (iR st comp (gC (L T) gY) (lastB T) (fB n)).marks ((lastB T).size:Int)).toNat=e:=by
  rw[P.nameZ,P.rend];exact Int.toNat_natCast e
 have ht:L ((lastB T).extract 0 e)=n.take e:=by rw[eS,hn];rfl
 unfold wOf wV aE3;simp only[];rw[hn,he,ht];rfl
theorem aFz {st:fD} (SE:rJ st) (comp s:ByteArray) (K:oJ (eV comp) ((hE (L s)).drop (behind (hE (L s))))) (hno:∀ i:Nat,¬ ((L s)[i]? = some 47∧(L s)[i+1]? = some 47)) (t:Int) (b:Bool) :
 gQ { fL (eI st) comp s with typ:=t,trim:=b }=vT { wOf st comp ⟨(hE (L s)).toArray⟩ with typ:=t } (wOf st comp ⟨(hE (L s)).toArray⟩).typ b∧(fL (eI st) comp s).typ=(wOf st comp ⟨(hE (L s)).toArray⟩).typ∧(fL (eI st) comp s).trim=false:=by
 obtain ⟨T,q,n,e,sc,hT,hn,P,ht,hc,htr⟩:=aH8 SE comp s K hno;have hw:=aHz P;have P2:=P.turn (p':={ fL (eI st) comp s with typ:=t,trim:=b }) ⟨t,b,rfl⟩;have h:=aHp P2 comp hc;rw[← hT,hw];exact ⟨h,ht,htr⟩
theorem aIa {st:fD} {comp s:ByteArray} (K:nZ st comp s):rJ st where
 lang:=by
  intro w h hw;subst hw
  have key:∀ l:List ByteArray,(∀ x∈l,lQ x)→listed l ⟨#[]⟩=true→False:=by
   intro l hl h;unfold listed at h;rw[List.any_eq_true] at h;obtain ⟨x,hx,he⟩:=h;rw[beq_iff_eq,L_toList,L_toList] at he;have h1:=(hl x hx).pos;rw[L_inj he] at h1;exact absurd h1 bH
  rw[Bool.or_eq_true] at h;rcases h with h | h
  ·exact key _ K.site.langs h
  exact key _ K.site.dis h
 fmt:=by
  intro w h hw;subst hw;unfold iE at h;rw[List.any_eq_true] at h;obtain ⟨x,hx,he⟩:=h;rw[beq_iff_eq,L_toList,L_toList] at he;have h1:=(K.site.fmts (mkF x) (List.mem_map_of_mem hx)).1.pos;have h2:(mkF x).f0=⟨#[]⟩:=L_inj he;rw[h2] at h1;exact absurd h1 bH
theorem aGx {st:fD} {comp s:ByteArray} (K:nZ st comp s) (t:Int) (b:Bool) :
 gQ { fL (eI st) comp (norm s) with typ:=t,trim:=b }=vT { wOf st comp (pathOf s false) with typ:=t } (wOf st comp (pathOf s false)).typ b∧(fL (eI st) comp (norm s)).typ=(wOf st comp (pathOf s false)).typ∧(fL (eI st) comp (norm s)).trim=false:=by
 have W:=K.low;unfold pathOf at W;simp only[Bool.false_eq_true,if_false] at W;rw[kV] at W;exact aFz (aIa K) comp (norm s) W (aCc K.slashes) t b
end Go.Proofs.YtcdgldnphhidlaaGreatDoor.Path
namespace Go.Proofs.YtcdgldnphhidlaaGreatDoor.Ext
open Go.RowKit Go.ZW.PrintWords Go.Proofs.YtcdgldnphhidlaaGreatDoor.Base
def ptR:List UInt8→Bool
 | []=>false
 | c::r=>if c=46 then true else if c=47 then false else ptR r
def ext (l:List UInt8):Bool:=ptR l.reverse
end Go.Proofs.YtcdgldnphhidlaaGreatDoor.Ext
namespace Go.Proofs.YtcdgldnphhidlaaGreatDoor.Path
open Go.RowKit Go.ZW.PrintWords Go.Proofs.YtcdgldnphhidlaaGreatDoor.Base Go.Proofs.YtcdgldnphhidlaaGreatDoor.Lower
theorem aHf (c:UInt8):gZ (gZ c)=gZ c:=by
 by_cases h:65≤c.toNat∧c.toNat≤90
 ·have e1:gZ c=c+32:=by unfold gZ;rw[if_pos h]
  have e2:(c+32).toNat=c.toNat+32:=by
   rw[UInt8.toNat_add,show (32:UInt8).toNat=32 from rfl];omega
  rw[e1];unfold gZ;rw[if_neg (by rw[e2];omega)]
 have e1:gZ c=c:=by unfold gZ;rw[if_neg h]
 rw[e1,e1]
def eJ.as (c:ByteArray) (p:eJ):eJ:={ p with comp:=c }
section
variable {E:Env} {c k:ByteArray} (h1:eV c=eV k) (h2:iQ c=iQ k)
include h1 h2 in
include h1 h2 in
def DoV.as (c:ByteArray) (d:DoV):DoV:={ d with p:=d.p.as c }
include h1 h2 in
include h1 h2 in
include h1 in
include h1 h2 in
end
end Go.Proofs.YtcdgldnphhidlaaGreatDoor.Path
