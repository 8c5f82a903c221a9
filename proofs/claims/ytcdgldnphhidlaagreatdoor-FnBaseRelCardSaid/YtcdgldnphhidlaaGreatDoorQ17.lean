/- Texts that the law leans on: Spec4, Ans1, Ans3, Read, Identify, Wrapper. Condition: as told at each. -/
import Derived.Deep.QuietTactic
import Derived.BigQuiet
import Derived.Test.YtcdgldnphhidlaaGreatDoorQa
import Derived.Test.YtcdgldnphhidlaaGreatDoorQ16
set_option linter.unusedVariables false
set_option linter.unusedSimpArgs false
set_option maxRecDepth 100000
set_option maxHeartbeats 16000000
namespace Go.Proofs.YtcdgldnphhidlaaGreatDoor.Path
open Go.RowKit Go.ZW.PrintWords Go.Proofs.YtcdgldnphhidlaaGreatDoor.Base Go.Proofs.YtcdgldnphhidlaaGreatDoor.Total Go.Proofs.YtcdgldnphhidlaaGreatDoor.Lower
def vA (l:List UInt8):Nat→Int→Int
 | 0,c=>c
 | i+1,c=>vA l i (if l[i]? = some 47∧c = -1 then (i:Int)+1 else c)
def zL (l:List UInt8):Nat→Int→Int
 | 0,s=>s
 | i+1,s=>zL l i (if l[i]? = some 47∧0 < i then (i:Int) else s)
def cntF (l:List UInt8):Nat→Nat
 | 0=>0
 | i+1=>cntF l i+(if l[i]? = some 47 then 1 else 0)
theorem wL {E:Env} {comp:ByteArray} {sk:List Nat} {nd:Int} {l:List UInt8}:∀ (i:Nat) (d:DoV),d.p.cHigh≠-1→d.p.s.data.toList=l →
 (jG E comp sk nd i d).p = { d.p with cLow:=vA l i d.p.cLow,sec:=zL l i d.p.sec }∧(jG E comp sk nd i d).sc=d.sc+cntF l i
 | 0,d,_,_=>⟨rfl,rfl⟩
 | i+1,d,h,hl=>by
  have key:(iW E comp sk nd i d).p = { d.p with cLow:=if l[i]? = some 47∧d.p.cLow = -1 then (i:Int)+1 else d.p.cLow,sec:=if l[i]? = some 47∧0 < i then (i:Int) else d.p.sec }∧(iW E comp sk nd i d).sc=d.sc+(if l[i]? = some 47 then 1 else 0):=by
   unfold iW;rw[zI h,hl]
   by_cases c1:l[i]? = some 46
   ·have c2:¬ l[i]? = some 47:=by rw[c1];decide
    have n1:¬ (l[i]? = some 47∧d.p.cLow = -1):=fun h=>c2 h.1;have n2:¬ (l[i]? = some 47∧0 < i):=fun h=>c2 h.1;rw[if_pos c1,if_neg n1,if_neg n2,if_neg c2];split <;> exact ⟨rfl,rfl⟩
   rw[if_neg c1]
   by_cases c2:l[i]? = some 47
   ·rw[if_pos c2,if_neg h,if_pos c2];refine ⟨?_,rfl⟩;simp only
    by_cases c3:d.p.cLow = -1
    ·have m1:l[i]? = some 47∧d.p.cLow = -1:=⟨c2,c3⟩
     by_cases c4:0 < i
     ·have m2:l[i]? = some 47∧0 < i:=⟨c2,c4⟩
      rw[if_pos c3,if_pos c4,if_pos m1,if_pos m2]
     have m2:¬ (l[i]? = some 47∧0 < i):=fun h=>c4 h.2;rw[if_pos c3,if_neg c4,if_pos m1,if_neg m2]
    have m1:¬ (l[i]? = some 47∧d.p.cLow = -1):=fun h=>c3 h.2
    by_cases c4:0 < i
    ·have m2:l[i]? = some 47∧0 < i:=⟨c2,c4⟩
     rw[if_neg c3,if_pos c4,if_neg m1,if_pos m2]
    have m2:¬ (l[i]? = some 47∧0 < i):=fun h=>c4 h.2;rw[if_neg c3,if_neg c4,if_neg m1,if_neg m2]
   have n1:¬ (l[i]? = some 47∧d.p.cLow = -1):=fun h=>c2 h.1;have n2:¬ (l[i]? = some 47∧0 < i):=fun h=>c2 h.1;rw[if_neg c2,if_neg n1,if_neg n2,if_neg c2];exact ⟨rfl,rfl⟩
  obtain ⟨k1,k2⟩:=key;have e:=wL (E:=E) (comp:=comp) (sk:=sk) (nd:=nd) (l:=l) i (iW E comp sk nd i d) (by rw[k1];exact h) (by rw[k1];exact hl);show (jG E comp sk nd i (iW E comp sk nd i d)).p=_∧(jG E comp sk nd i (iW E comp sk nd i d)).sc=_;rw[e.1,e.2,k1,k2];refine ⟨rfl,?_⟩;show d.sc+(if l[i]? = some 47 then 1 else 0)+cntF l i=d.sc+(cntF l i+if l[i]? = some 47 then 1 else 0);omega
theorem aC4 {E:Env} {comp:ByteArray} {nd:Int}:∀ (cs:List Nat) (d:DoV),(cs.foldl (mR E comp nd) d).sc=d.sc
 | [],_=>rfl
 | c::cs,d=>aC4 cs (mR E comp nd d c)
theorem xS {E:Env} {comp:ByteArray} {p:eH} {q:Nat} {n:List UInt8}:Same p (mL E comp p q n):=by
 have hD:Same p (oK E comp p (q+1) n).p:=tV ((eS n).reverse.map (q+1 + ·)) ⟨p,0,0⟩;unfold mL;split
 ·exact hD.trans (rJ _ _ _ _ _ _ _)
 exact hD
theorem aFb (E:Env) (comp s:ByteArray):∃ (T:ByteArray) (q:Nat) (pre n:List UInt8) (d:DoV),L T=gQ (L s)∧nI (L T) pre n∧pre.length=q+1∧(L T)[q]? = some 47∧gB E comp s=uA E comp d∧In2 T comp 0 d ∧
 d.p = { mL E comp (jA { fR with comp:=comp } T) q n with cHigh:=(q:Int)+1,cLow:=vA (L T) q (-1),sec:=zL (L T) q (if 0 < q then (q:Int) else -1) }∧d.sc=1+cntF (L T) q:=by
 obtain ⟨T,d,hT,hl,h2,h3,h4,h5⟩:=aFa E comp s;have h0:(L T)[0]? = some 47:=by rw[hl,← List.head?_eq_getElem?];exact mText_head _
 have S:=aEe (L T) ⟨0,h0⟩
 obtain ⟨pre,hpre⟩:∃ x,(L T).take (behind (L T))=x:=⟨_,rfl⟩
 obtain ⟨n,hn⟩:∃ x,(L T).drop (behind (L T))=x:=⟨_,rfl⟩
 rw[hpre,hn] at S;obtain ⟨q,hq⟩:=S.slash;have hpl:pre.length=q.length+1:=by rw[hq];simp
 have h47:(L T)[q.length]? = some 47:=by rw[S.eq,hq,List.append_assoc,List.getElem?_append_right (Nat.le_refl _),Nat.sub_self];rfl
 have hr:=aGu (E:=E) (comp:=comp) (p:=jA { fR with comp:=comp } T) S;rw[hpl] at hr
 obtain ⟨D,hD⟩:∃ D,oK E comp (jA { fR with comp:=comp } T) (q.length+1) n=D:=⟨_,rfl⟩
 have hD' : ((eS n).reverse.map (q.length+1 + ·)).foldl (mR E comp ((eS n).length:Int)) ⟨jA { fR with comp:=comp } T,0,0⟩=D:=hD;rw[hD'] at hr;have hsame:Same (jA { fR with comp:=comp } T) D.p:=by rw[← hD'];exact tV ((eS n).reverse.map (q.length+1 + ·)) ⟨jA { fR with comp:=comp } T,0,0⟩
 have hsc0:D.sc=0:=by rw[← hD'];exact aC4 ((eS n).reverse.map (q.length+1 + ·)) ⟨jA { fR with comp:=comp } T,0,0⟩
 have hch:D.p.cHigh = -1:=hsame.cHigh;have hst:D.p.s.data.toList[q.length]? = some 47:=by rw[hsame.s];exact h47
 have hws:=xS (E:=E) (comp:=comp) (p:=jA { fR with comp:=comp } T) (q:=q.length) (n:=n)
 obtain ⟨P,hP⟩:∃ P,mL E comp (jA { fR with comp:=comp } T) q.length n=P:=⟨_,rfl⟩
 rw[hP] at hws
 have hP' : (if 0 < D.ld then mId E D.p comp q.length D.ld ((eS n).length:Int) true else D.p)=P:=by
  rw[← hP];unfold mL;rw[hD]
 have hPc:P.cLow = -1:=hws.cLow;have hPs:P.sec = -1:=hws.sec
 have hstep:(iW E comp (mB (jA { fR with comp:=comp } T).s.data.toList) ((eS n).length:Int) q.length D).p = { P with cHigh:=(q.length:Int)+1,sec:=if 0 < q.length then (q.length:Int) else -1 } ∧
  (iW E comp (mB (jA { fR with comp:=comp } T).s.data.toList) ((eS n).length:Int) q.length D).sc=1:=by
  unfold iW;rw[if_neg (by rw[hst];decide),if_pos hst,if_pos hch,hP'];refine ⟨?_,by show D.sc+1=1;rw[hsc0]⟩
  by_cases c:0 < q.length
  ·simp only[if_pos c]
  simp only[if_neg c];rw[← hPs]
 obtain ⟨e1,e2⟩:=hstep;have hrest:=wL (E:=E) (comp:=comp) (sk:=mB (jA { fR with comp:=comp } T).s.data.toList) (nd:=((eS n).length:Int)) (l:=L T) q.length (iW E comp (mB (jA { fR with comp:=comp } T).s.data.toList) ((eS n).length:Int) q.length D) (by rw[e1];show (q.length:Int)+1≠-1;omega) (by rw[e1];show L P.s=L T;rw[hws.s];rfl);have hdd:d=jG E comp (mB (jA { fR with comp:=comp } T).s.data.toList) ((eS n).length:Int) q.length (iW E comp (mB (jA { fR with comp:=comp } T).s.data.toList) ((eS n).length:Int) q.length D):=by rw[h5,hr];rfl
 refine ⟨T,q.length,pre,n,d,hl,S,hpl,h47,h2,h3,?_,?_⟩
 ·rw[hdd,hrest.1,e1,hP];show ({ P with cHigh:=(q.length:Int)+1,cLow:=vA (L T) q.length P.cLow,sec:=_ }:eH)=_;rw[hPc]
 rw[hdd,hrest.2,e2]
section
variable {l:List UInt8}
theorem zN {q:Nat} (h:l[q]? = some 47):∀ m:Nat,q < m→(∀ j,q < j→j < m→l[j]?≠some 47)→slB l m=some q
 | 0,hm,_=>by omega
 | m+1,hm,hn=>by
  unfold slB
  by_cases c:m=q
  ·rw[if_pos (by rw[c];exact h),c]
  rw[if_neg (hn m bA bA)];exact zN h m bA (fun j h1 h2=>hn j h1 bA)
theorem aEd:∀ (m:Nat) {j:Nat},slB l m=some j→l[j]? = some 47∧j < m∧∀ i,j < i→i < m→l[i]?≠some 47
 | 0,j,h=>by cases h
 | m+1,j,h=>by
  unfold slB at h;split at h
  ·rename_i hm
   injection h with h
   subst h;exact ⟨hm,aM,fun i h1 h2=>by omega⟩
  rename_i hm
  obtain ⟨a,b,c⟩:=aEd m h;refine ⟨a,aM,fun i h1 h2=>?_⟩
  by_cases e:i=m
  ·rw[e];exact hm
  exact c i h1 bA
theorem zM (h:l[0]? = some 47):∀ m:Nat,0 < m→∃ j,slB l m=some j
 | 0,hm=>by omega
 | m+1,_=>by
  unfold slB;split
  ·exact ⟨_,rfl⟩
  rename_i hne
  by_cases c:m=0
  ·subst c;exact absurd h hne
  exact zM h m bA
theorem aDq:∀ (i:Nat) (c:Int),c≠-1→vA l i c=c
 | 0,_,_=>rfl
 | i+1,c,h=>by
  unfold vA;rw[if_neg (fun x=>h x.2)];exact aDq i c h
theorem aF0:∀ (i:Nat),vA l i (-1)=match slB l i with | some j=>(j:Int)+1 | none=>-1
 | 0=>rfl
 | i+1=>by
  unfold vA slB
  by_cases c:l[i]? = some 47
  ·rw[if_pos ⟨c,rfl⟩,if_pos c];exact aDq i _ bA
  rw[if_neg (fun x=>c x.1),if_neg c];exact aF0 i
theorem aBg:∀ (i s:Nat),i≤s→1≤s→l[s]? = some 47→(∀ j,i≤j→1≤j→j < s→l[j]?≠some 47)→∃ f:Nat,zL l i (s:Int)=(f:Int)∧1≤f∧f≤s∧l[f]? = some 47∧∀ j,1≤j→j < f→l[j]?≠some 47
 | 0,s,_,h1,h2,h3=>⟨s,rfl,h1,Nat.le_refl _,h2,fun j a b=>h3 j bA a b⟩
 | i+1,s,h0,h1,h2,h3=>by
  unfold zL
  by_cases c:l[i]? = some 47∧0 < i
  ·rw[if_pos c];obtain ⟨f,a1,a2,a3,a4,a5⟩:=aBg i i (Nat.le_refl _) bA c.1 (fun j b1 b2 b3=>by omega);exact ⟨f,a1,a2,aM,a4,a5⟩
  rw[if_neg c];refine aBg i s bA h1 h2 (fun j b1 b2 b3=>?_)
  by_cases e:j=i
  ·subst e;exact fun h=>c ⟨h,aM⟩
  exact h3 j bA b2 b3
theorem tD:∀ (m:List UInt8) (k:Nat),m[k]? = some 47→(∀ j,j < k→m[j]?≠some 47)→(m.takeWhile fun c=>c != 47)=m.take k
 | [],k,h,_=>by simp at h
 | a::m,0,h,_=>by
  simp only[List.getElem?_cons_zero,Option.some.injEq] at h;subst h;rfl
 | a::m,k+1,h,hn=>by
  have h0:=hn 0 bA;simp only[List.getElem?_cons_zero,ne_eq,Option.some.injEq] at h0;rw[List.takeWhile_cons,if_pos (bne_iff_ne.2 h0),List.take_succ_cons,tD m k (by simpa using h) (fun j hj=>by have:=hn (j+1) bA;simpa using this)]
theorem wJ:∀ i:Nat,i≤l.length→cntF l i=kU (l.take i)
 | 0,_=>rfl
 | i+1,h=>by
  have hi:i < l.length:=by omega
  unfold cntF;rw[wJ i bA,List.take_succ_eq_append_getElem hi];unfold kU;rw[List.filter_append,List.length_append,List.getElem?_eq_getElem hi]
  by_cases c:l[i]=47
  ·rw[if_pos (by rw[c]),c];rfl
  rw[if_neg (by simpa using c),List.filter_cons,if_neg (by simpa using c)];rfl
theorem aGe {m:List UInt8} (h:∀ j:Nat,m[j]?≠some 47):kU m=0:=by
 unfold kU;rw[List.length_eq_zero_iff,List.filter_eq_nil_iff];intro c hc e;obtain ⟨j,hj⟩:=List.mem_iff_getElem?.1 hc;rw[beq_iff_eq] at e;rw[e] at hj;exact h j hj
theorem aEt {q:Nat} {pre n:List UInt8} (S:nI l pre n) (hq:pre.length=q+1) (h0:l[0]? = some 47):kU (l.drop 1)=cntF l q∧(cntF l q=0↔q=0):=by
 have hlen:l.length=q+1+n.length:=by rw[S.eq,List.length_append,hq]
 have e1:kU l=cntF l (q+1):=by
  rw[wJ _ bA];have e2:l=l.take (q+1)++n:=by rw[S.eq,← hq,List.take_left]
  have e3:kU l=kU (l.take (q+1))+kU n:=by
   conv=>lhs;rw[e2]
   unfold kU;rw[List.filter_append,List.length_append]
  rw[e3,aGe S.no];omega
 obtain ⟨x,hx⟩:=S.slash
 have h47:l[q]? = some 47:=by
  have hxl:x.length=q:=by have:=congrArg List.length hx;simp at this;omega
  rw[S.eq,hx,List.append_assoc,List.getElem?_append_right bA,hxl,Nat.sub_self];rfl
 have e4:cntF l (q+1)=cntF l q+1:=by rw[show cntF l (q+1)=cntF l q+(if l[q]? = some 47 then 1 else 0) from rfl,if_pos h47]
 cases l with
 | nil=>cases h0
 | cons a m =>
  have ha:a=47:=by simpa using h0
  have e5:kU (a::m)=1+kU m:=by
   unfold kU;rw[List.filter_cons,if_pos (by rw[ha];rfl),List.length_cons];omega
  refine ⟨?_,?_⟩
  ·show kU m=_;omega
  constructor
  ·intro h
   by_cases c:q=0
   ·exact c
   exfalso;rw[wJ q bA] at h
   obtain ⟨k,rfl⟩:∃ k,q=k+1:=⟨q - 1,aM⟩
   rw[List.take_succ_cons] at h;unfold kU at h;rw[List.filter_cons,if_pos (by rw[ha];rfl)] at h;cases h
  rintro rfl;rfl
end
structure aLe (p:eH) (st:eW) (r:RV):Prop where
 ids:r.ids=kB p
 unk:r.unk=lK p
 ix:aAy p p.lang p.fmt p.kind p.cust p.pfmt p.pkind p.play p.plangs (fmt0 st p.comp r.ext) r
 lay:fD p p.lay=r.lay1
 dis:p.dis=r.dis
 ext:fD p 0=r.ext
structure PW (st:eW) (T:ByteArray) (q:Nat) (n:List UInt8) (p:eH) (r:RV) (e:Nat) (sc:Nat) (t:Int):Prop where
 split:∃ pre,nI (L T) pre n∧pre.length=q+1
 head:(L T)[0]? = some 47
 h47:(L T)[q]? = some 47
 no:∀ i:Nat,¬ ((L T)[i]? = some 47∧(L T)[i+1]? = some 47)
 s:p.s=T
 cHigh:p.cHigh=(q:Int)+1
 cLow:p.cLow=vA (L T) q (-1)
 sec:p.sec=if t=3∧sc=2 then 0 else zL (L T) q (if 0 < q then (q:Int) else -1)
 sc:sc=1+cntF (L T) q
 nLow:p.nLow=(q:Int)+1
 nHigh:p.nHigh=((q+1+e:Nat):Int)
 le:e≤n.length
 rend:kW r.marks (n.length:Int)=(e:Int)
 words:(p.known=[]∧eS n=[]∧r=jT∧e=n.length∧(p.lang = -1∧p.fmt = -1∧p.kind = -1∧p.cust = -1∧p.pfmt = -1∧p.pkind = -1∧p.play = -1∧p.lay = -1∧p.plangs=[]∧p.unknown=[]∧p.dis=false)) ∨
  (p.known≠[]∧eS n≠[]∧aLe p st r∧0 < e∧r.ext≠⟨#[]⟩∧∃ c:Nat,p.known[0]? = some (((q+1+c+1:Nat):Int),(T.size:Int))∧c < n.length∧n[c]? = some 46∧e≤c)
def aHd (st:eW) (comp T:ByteArray) (n:List UInt8) (r:RV) (e:Nat):Int:=mS st comp (L T) (n.take e) (!r.ids.isEmpty) r.ext r.baseof
theorem aJu {st:eW} (SE:rV st) (comp s:ByteArray) (K:oQ (eR comp) ((gQ (L s)).drop (behind (gQ (L s))))) (hno:∀ i:Nat,¬ ((L s)[i]? = some 47∧(L s)[i+1]? = some 47)) :
 ∃ (T:ByteArray) (q:Nat) (n:List UInt8) (e sc:Nat),T=⟨(gQ (L s)).toArray⟩∧n=(L T).drop (behind (L T)) ∧
  PW st T q n (gB (eJ st) comp s) (fW st comp (fC (L T) fV) (lastB T) (eS n)) e sc (aHd st comp T n (fW st comp (fC (L T) fV) (lastB T) (eS n)) e) ∧
  (gB (eJ st) comp s).typ=aHd st comp T n (fW st comp (fC (L T) fV) (lastB T) (eS n)) e∧(gB (eJ st) comp s).comp=comp∧(gB (eJ st) comp s).trim=false:=by
 obtain ⟨T,q,pre,n,d,hl,S,hpl,h47,hm,hI,hd,hsc⟩:=aFb (eJ st) comp s;have hn:=S.behind;have hTe:T=⟨(gQ (L s)).toArray⟩:=L_inj (hl.trans (jP _).symm);rw[← hl,hn.1,← hn.2] at K;have hnm:L (lastB T)=n:=by unfold lastB;rw[jP,hn.1,← hn.2]
 have h0:(L T)[0]? = some 47:=by rw[hl,← List.head?_eq_getElem?];exact mText_head _
 have hnoT:∀ i:Nat,¬ ((L T)[i]? = some 47∧(L T)[i+1]? = some 47):=by rw[hl];exact aCg hno
 have hsz:T.size=q+1+n.length:=by rw[← eG,S.eq,List.length_append,hpl]
 obtain ⟨p0,hp0⟩:∃ p0,jA { fR with comp:=comp } T=p0:=⟨_,rfl⟩
 have hp0' : p0 = { fR with comp:=comp,s:=T,typ:=if fC (L T) fV then 7 else 0 }:=by rw[← hp0];rfl
 rw[hp0] at hd;have hws:=xS (E:=eJ st) (comp:=comp) (p:=p0) (q:=q) (n:=n)
 obtain ⟨r,hr⟩:∃ r,fW st comp (fC (L T) fV) (lastB T) (eS n)=r:=⟨_,rfl⟩
 obtain ⟨P,hP⟩:∃ P,mL (eJ st) comp p0 q n=P:=⟨_,rfl⟩
 rw[hP] at hws hd;have hPs:P.s=T:=by rw[hws.s,hp0']
 have hPt:P.typ=if fC (L T) fV then 7 else 0:=by rw[hws.typ,hp0']
 have hPc:P.comp=comp:=by rw[hws.comp,hp0']
 have hPr:P.trim=false:=by rw[hws.trim,hp0'];rfl
 -- what the words leave
 obtain ⟨e,he1,he2,he3,hW,hb,hst⟩:∃ e:Nat,P.nEnd=(if eS n=[] then -1 else ((q+1+e:Nat):Int))∧e≤n.length∧kW r.marks (n.length:Int)=(e:Int) ∧
  ((P.known=[]∧eS n=[]∧r=jT∧e=n.length∧P=p0)∨(P.known≠[]∧eS n≠[]∧Rel st comp (fC (L T) fV) T P r∧0 < e∧r.ext≠⟨#[]⟩∧∃ c:Nat,P.known[0]? = some (((q+1+c+1:Nat):Int),(T.size:Int))∧c < n.length∧n[c]? = some 46∧e≤c)) ∧
  (r.baseof=(P.base != -1))∧(fC (L T) fV=true→∀ x,P.known[P.lay.toNat]? = some x→P.lay≠-1→(q:Int)+1 < x.1):=by
  obtain ⟨w1,w2⟩:=aEk (E:=eJ st) (comp:=comp) S hpl K (p:=p0) (by rw[hp0']) (by rw[hp0'];rfl) (by rw[hp0'];rfl) (by rw[hp0'];rfl)
  by_cases hc:eS n=[]
  ·have hPp:P=p0:=by rw[← hP];exact w1 hc
   have hrz:r=jT:=by rw[← hr];unfold fW;rw[if_pos hc]
   have hk0:P.known=[]:=by rw[hPp,hp0'];rfl
   refine ⟨n.length,by rw[if_pos hc,hPp,hp0'];rfl,Nat.le_refl _,by rw[hrz];rfl,.inl ⟨hk0,hc,hrz,rfl,hPp⟩,by rw[hrz,hPp,hp0'];rfl,fun _ x hx _=>by rw[hk0] at hx;cases hx⟩
  obtain ⟨R,r1,⟨c,r2,r2'⟩,r3,r4⟩:=aIk (st:=st) (sc:=fC (L T) fV) S hpl hnm K SE hp0' hc;rw[hP,hr] at R r1;rw[hP] at r4;rw[hr] at r2' r3;obtain ⟨hup,hlt⟩:=sY S
  have hcpos:0 < c:=by
   have hf:=K.first
   cases hs:eS n with
   | nil=>exact absurd hs hc
   | cons a t =>
    rw[hs] at hf r2 hup;have ha:a≠0:=fun h=>hf (by rw[h];rfl);rcases List.mem_cons.1 r2 with h | h
    ·omega
    have:=(List.pairwise_cons.1 hup).1 c h;omega
  obtain ⟨c0,hc0⟩:∃ c,(eS n).getLast? = some c:=by
   cases h:(eS n).getLast? with
   | none=>exact absurd (List.getLast?_eq_none_iff.1 h) hc
   | some c=>exact ⟨c,rfl⟩
  have hcle:c≤c0:=by
   obtain ⟨fr,hfr⟩:=List.getLast?_eq_some_iff.1 hc0;rw[hfr] at r2 hup;rcases List.mem_append.1 r2 with h | h
   ·exact Nat.le_of_lt ((List.pairwise_append.1 hup).2.2 c h c0 bI)
   rw[List.mem_singleton] at h;omega
  have hH:=w2 c0 hc0;rw[hP] at hH;refine ⟨c,by rw[if_neg hc,r1,r2'];omega,Nat.le_of_lt (hlt c r2),r2',.inr ⟨R.ne,hc,R,hcpos,r3,c0,hH.at_,hlt c0 (List.mem_of_getLast? hc0),(xH n _ _ c0 (List.mem_of_getLast? hc0)).2,hcle⟩,R.base,r4⟩
 have hds:d.p.s=T:=by rw[hd];exact hPs
 have hN:(gJ d.p).nLow=(q:Int)+1∧(gJ d.p).nHigh=((q+1+e:Nat):Int):=by
  refine ⟨by show d.p.cHigh=_;rw[hd],?_⟩;show (if d.p.cHigh≤d.p.nEnd then d.p.nEnd else (d.p.s.size:Int))=_;rw[hds,hd];show (if (q:Int)+1≤P.nEnd then P.nEnd else (T.size:Int))=_;rw[he1];rcases hW with ⟨_,h,_,h2,_⟩ | ⟨_,h,_⟩
  ·rw[if_pos h,if_neg bA,h2,hsz]
  rw[if_neg h,if_pos bA]
 have hnmt:L (sub (gJ d.p).s (gJ d.p).nLow (gJ d.p).nHigh)=n.take e:=by
  rw[hN.1,hN.2,show (q:Int)+1=((q+1:Nat):Int) by omega,jE,eQ];show ((L d.p.s).drop (q+1)).take _=_;rw[hds,S.eq,← hpl,List.drop_left];congr 1;omega
 have hids:r.ids=[]↔d.p.known=[]:=by
  rw[hd];show _↔P.known=[];rcases hW with ⟨h,_,h2,_⟩ | ⟨h,_,R,_⟩
  ·rw[h,h2];simp[jT]
  exact ⟨fun h3=>absurd h3 R.idsNe,fun h3=>absurd h3 h⟩
 have hty:=aIc (st:=st) (comp:=comp) (T:=T) (d:=d) (r:=r) (nm:=n.take e) hds (by rw[hd];exact hPr) (by rw[hd];exact hPc) (by rw[hd];exact hPt) hids
  (by
   intro h;rw[hd] at h ⊢;rcases hW with ⟨h1,_⟩ | ⟨_,_,R,_⟩
   ·exact absurd h1 h
   exact R.ext.str)
  (by rw[hd];exact hb)
  (by
   intro h;rw[hd] at h ⊢;show P.base = -1;rcases hW with ⟨_,_,_,_,h1⟩ | ⟨h1,_⟩
   ·rw[h1,hp0'];rfl
   exact absurd h h1)
  hnmt
  (by
   rw[hN.1,hN.2];constructor
   ·intro h h2;have:=congrArg List.length h2;rw[List.length_take,List.length_nil] at this;omega
   intro h;have:0 < (n.take e).length:=List.length_pos_iff.2 h;rw[List.length_take] at this
   omega)
  (by
   intro hs hlay;rw[hd] at hlay ⊢;show (P.known.getD P.lay.toNat (0,0)).1≠(q:Int)+1;rcases hW with ⟨_,_,_,_,h1⟩ | ⟨_,_,R,_⟩
   ·exfalso;refine hlay ?_;show P.lay = -1;rw[h1,hp0'];rfl
   rcases R.layPos with h | h
   ·exact absurd h hlay
   have hlt:P.lay.toNat < P.known.length:=by omega
   rw[List.getD_eq_getElem?_getD,List.getElem?_eq_getElem hlt,Option.getD_some];have:=hst hs _ (List.getElem?_eq_getElem hlt) hlay
   omega)
 refine ⟨T,q,n,e,d.sc,hTe,by rw[hn.1,← hn.2],?_⟩;rw[hr,hm,hty];refine ⟨⟨⟨pre,S,hpl⟩,h0,h47,hnoT,hds,by show d.p.cHigh=_;rw[hd],by show d.p.cLow=_;rw[hd],?_,hsc,hN.1,hN.2,he2,he3,?_⟩,rfl,by show d.p.comp=comp;rw[hd];exact hPc,by show d.p.trim=false;rw[hd];exact hPr⟩
 ·show (if _∧_ then (0:Int) else d.p.sec)=_;rw[show d.p.sec=zL (L T) q (if 0 < q then (q:Int) else -1) by rw[hd]];rfl
 obtain ⟨F,hF⟩:∃ F:eH,{ gJ d.p with typ:=mS st comp (L T) (n.take e) (!r.ids.isEmpty) r.ext r.baseof,sec:=if mS st comp (L T) (n.take e) (!r.ids.isEmpty) r.ext r.baseof=3∧d.sc=2 then 0 else d.p.sec }=F:=⟨_,rfl⟩
 have hFk:F.known=P.known:=by rw[← hF];show d.p.known=_;rw[hd]
 have hFs:F.s=P.s:=by rw[← hF];show d.p.s=_;rw[hd]
 have hFl:F.lay=P.lay:=by rw[← hF];show d.p.lay=_;rw[hd]
 have hFu:F.unknown=P.unknown:=by rw[← hF];show d.p.unknown=_;rw[hd]
 have hFp:F.plangs=P.plangs:=by rw[← hF];show d.p.plangs=_;rw[hd]
 have hFa:F.lang=P.lang∧F.fmt=P.fmt∧F.kind=P.kind∧F.cust=P.cust∧F.pfmt=P.pfmt∧F.pkind=P.pkind∧F.play=P.play∧F.dis=P.dis∧F.comp=P.comp:=by
  rw[← hF];show d.p.lang=_∧d.p.fmt=_∧d.p.kind=_∧d.p.cust=_∧d.p.pfmt=_∧d.p.pkind=_∧d.p.play=_∧d.p.dis=_∧d.p.comp=_;rw[hd];exact ⟨rfl,rfl,rfl,rfl,rfl,rfl,rfl,rfl,rfl⟩
 obtain ⟨a1,a2,a3,a4,a5,a6,a7,a8,a9⟩:=hFa;rw[hF]
 have hstr:∀ i,fD F i=fD P i:=by
  intro i;unfold fD;rw[hFk,hFs]
 rcases hW with ⟨h1,h2,h3,h4,h5⟩ | ⟨h1,h2,R,h3,h4,c,h5,h6⟩
 ·left;rw[hFk,a1,a2,a3,a4,a5,a6,a7,hFl,hFp,hFu,a8];refine ⟨h1,h2,h3,h4,?_⟩;rw[h5,hp0'];exact ⟨rfl,rfl,rfl,rfl,rfl,rfl,rfl,rfl,rfl,rfl,rfl⟩
 right;rw[hFk]
 have G:Grown P F:=⟨hFs,.inr (.inr ⟨hFk,hFl⟩)⟩
 have hix:=R.ix.grown G;refine ⟨h1,h2,⟨?_,?_,?_,?_,by rw[a8];exact R.dis,by rw[hstr];exact R.ext.str⟩,h3,h4,c,h5,h6⟩
 ·rw[R.ids];unfold kB;rw[hFk,hFs]
 ·rw[R.unk];unfold lK;rw[hFu,hFs]
 ·rw[a1,a2,a3,a4,a5,a6,a7,hFp,a9,hPc];exact hix
 rw[hstr,hFl];rcases R.lay with ⟨h,_,h'⟩ | ⟨_,h,x,hx,h'⟩
 ·rw[h,h'];rfl
 unfold fD;rw[if_neg bA,hx];exact h'
open Go.RowKit Go.ZW.PrintWords Go.Proofs.YtcdgldnphhidlaaGreatDoor.Base Go.Proofs.YtcdgldnphhidlaaGreatDoor.Total Go.Proofs.YtcdgldnphhidlaaGreatDoor.Ext Go.Proofs.YtcdgldnphhidlaaGreatDoor.Lower Go.Proofs.YtcdgldnphhidlaaGreatDoor.PCore
theorem aIs (d:List UInt8) (k:Nat) (h:k < d.length):kU (d.take (k+1))=kU (d.take k)+if d[k]=47 then 1 else 0:=by
 unfold kU;rw[List.take_succ_eq_append_getElem h,List.filter_append,List.length_append];congr 1
 by_cases c:d[k]=47
 ·rw[if_pos c];simp[c]
 rw[if_neg c];simp[c]
theorem vX:∀ l:List UInt8,(∀ x∈l,(x != 47)=true)→(l.takeWhile fun c=>c != 47)=l
 | [],_=>rfl
 | a::r,h=>by
  rw[List.takeWhile_cons,if_pos (h a (List.mem_cons_self ..)),vX r (fun x hx=>h x (List.mem_cons_of_mem _ hx))]
def sS (p:ByteArray):ByteArray:=⟨(((L p).drop 1).takeWhile fun c=>c != 47).toArray⟩
structure aIm (p:ByteArray) (i fr:Nat) (out:List ByteArray):Prop where
 f1:1≤fr
 fi:fr≤i
 len:out.length=kU (((L p).drop 1).take (i - 1))
 none:out=[]→fr=1∧∀ j:Nat,j < i - 1→((L p).drop 1)[j]?≠some 47
 some_:out≠[]→out.head? = some (sS p)
theorem aFt (p:ByteArray) (hp:p.size≤1000000):∀ (n i fr:Nat) (out:List ByteArray),p.size - i=n→1≤i→i≤p.size→aIm p i fr out→PEv (fun r=>r.length=kU ((L p).drop 1)+1∧r.head? = some (sS p)) (fun k=>fE.l0 k p out (fr:Int) (i:Int)):=by
 have hl:=eG p;have hd:((L p).drop 1).length=p.size - 1:=by rw[List.length_drop,hl]
 intro n
 induction n with
 | zero =>
  intro i fr out h1 h2 h3 I;have hi:i=p.size:=by omega
  have f1:=I.f1;have fi:=I.fi
  have ho:out.length≤1000000:=by
   rw[I.len];unfold kU;exact Nat.le_trans (List.length_filter_le _ _) (by rw[List.length_take];omega)
  refine PEv.succ ?_
  have e:(fun k=>fE.l0 (k+1) p out (fr:Int) (i:Int))=fun k=>fE.l0 k p (out++[p.extract fr i]) ((i+1:Nat):Int) ((i+1:Nat):Int):=by
   funext k
   simp only[fE.l0];rw[if_pos bA,if_pos bA,if_pos bA,if_pos bA,if_pos bA,w64 bA bA];rfl
  rw[e];refine PEv.succ ?_
  have e2:(fun k=>fE.l0 (k+1) p (out++[p.extract fr i]) ((i+1:Nat):Int) ((i+1:Nat):Int))=fun _=>some (out++[p.extract fr i]):=by
   funext k
   simp only[fE.l0];rw[if_neg bA]
  rw[e2];refine PEv.now ⟨?_,?_⟩
  ·rw[List.length_append,I.len,List.take_of_length_le bA];rfl
  by_cases c:out=[]
  ·obtain ⟨g1,g2⟩:=I.none c;subst c g1;show some (p.extract 1 i)=_;congr 1;refine L_inj ((eQ ..).trans (Eq.trans ?_ (jP _).symm));rw[List.take_of_length_le bA];refine (vX _ fun x hx=>?_).symm;obtain ⟨j,hj,rfl⟩:=List.mem_iff_getElem.1 hx;have:=g2 j bA;rw[List.getElem?_eq_getElem hj] at this
   simpa using this
  have:=I.some_ c
  cases out with
  | nil=>exact absurd rfl c
  | cons a r=>exact this
 | succ n ih =>
  intro i fr out h1 h2 h3 I;have f1:=I.f1;have fi:=I.fi;have hi:i < (L p).length:=by omega
  have hb:=sP p i hi;have hk:i - 1 < ((L p).drop 1).length:=by omega
  have hg:((L p).drop 1)[i - 1]'hk=(L p)[i]:=by rw[List.getElem_drop];congr 1;omega
  have hc:=aIs ((L p).drop 1) (i - 1) hk;rw[hg,show i - 1+1=i+1 - 1 by omega] at hc
  have ho:out.length≤1000000:=by
   rw[I.len];unfold kU;exact Nat.le_trans (List.length_filter_le _ _) (by rw[List.length_take];omega)
  by_cases c:(L p)[i]=47
  ·rw[if_pos c] at hc
   have hf:out=[]→p.extract fr i=sS p:=by
    intro h;obtain ⟨g1,g2⟩:=I.none h;subst g1;refine L_inj ((eQ ..).trans (Eq.trans ?_ (jP _).symm));rw[tD _ (i - 1) (by rw[List.getElem?_eq_getElem hk,hg,c]) (fun j hj=>g2 j hj)]
   have I2:aIm p (i+1) (i+1) (out++[p.extract fr i]):=by
    refine ⟨aM,Nat.le_refl _,?_,fun h=>by simp at h,fun _=>?_⟩
    ·rw[hc,List.length_append,I.len];rfl
    by_cases c2:out=[]
    ·subst c2;exact congrArg some (hf rfl)
    have:=I.some_ c2
    cases out with
    | nil=>exact absurd rfl c2
    | cons a r=>exact this
   refine PEv.succ ?_
   have e:(fun k=>fE.l0 (k+1) p out (fr:Int) (i:Int))=fun k=>fE.l0 k p (out++[p.extract fr i]) ((i+1:Nat):Int) ((i+1:Nat):Int):=by
    funext k
    simp only[fE.l0];rw[if_pos bA,if_neg bA,if_pos bA,if_pos bA,if_pos (by rw[hb];exact (vQ _ 47 bF).2 c),if_pos bA,if_pos bA,if_pos bA,w64 bA bA];rfl
   rw[e];exact ih (i+1) (i+1) _ bA bA bA I2
  rw[if_neg c] at hc
  have I2:aIm p (i+1) fr out:=by
   refine ⟨f1,aM,by rw[hc];exact I.len,fun h=>⟨(I.none h).1,fun j hj=>?_⟩,I.some_⟩;rcases Nat.lt_or_ge j (i - 1) with h9 | h9
   ·exact (I.none h).2 j h9
   obtain rfl:j=i - 1:=by omega
   rw[List.getElem?_eq_getElem hk,hg];intro h2;injection h2 with h2;exact c h2
  refine PEv.succ ?_
  have e:(fun k=>fE.l0 (k+1) p out (fr:Int) (i:Int))=fun k=>fE.l0 k p out (fr:Int) ((i+1:Nat):Int):=by
   funext k
   simp only[fE.l0];rw[if_pos bA,if_neg bA,if_pos bA,if_pos bA,if_neg (by rw[hb];exact fun h2=>c ((vQ _ 47 bF).1 h2)),w64 bA bA];rfl
  rw[e];exact ih (i+1) fr out bA bA bA I2
theorem aJj (p:ByteArray) (hp:p.size≤1000000) (h0:(L p)[0]? = some 47):PEv (fun r=>r.length=kU ((L p).drop 1)+1∧r.head? = some (sS p)) (fun k=>fE.f k p):=by
 have h1:0 < p.size:=by rw[← eG];exact (List.getElem?_eq_some_iff.1 h0).1
 refine aFt p hp (p.size - 1) 1 1 [] rfl (Nat.le_refl _) bA ⟨Nat.le_refl _,Nat.le_refl _,rfl,fun _=>⟨rfl,fun j hj=>absurd hj bA⟩,fun h=>absurd rfl h⟩
theorem aDe {x:WV} (O:wH x):Ev (fun k=>kH.f k x.comp x.path x.name (x.nEnd:Int) x.ids x.unk x.langs x.ext x.fmt x.kind x.lay x.lang x.cust x.dis x.typ) (rR x.path x.typ):=by
 obtain ⟨r,hr,h1,h2⟩:=aJj x.path O.path O.head
 have hsec:rR x.path x.typ=if (r.length:Int) < 2 then ⟨#[]⟩ else if (r.length:Int)=2 then (if x.typ=3 then ⟨#[]⟩ else sS x.path) else sS x.path:=by
  unfold rR
  by_cases c:kU ((L x.path).drop 1)=0
  ·rw[if_pos (.inl c),if_pos bA]
  rw[if_neg (show ¬ (r.length:Int) < 2 by omega)]
  by_cases c2:kU ((L x.path).drop 1)=1
  ·rw[if_pos (show (r.length:Int)=2 by omega)]
   by_cases c3:x.typ=3
   ·rw[if_pos (.inr ⟨c2,c3⟩),if_pos c3]
   rw[if_neg (fun h=>h.elim c (fun h=>c3 h.2)),if_neg c3];rfl
  rw[if_neg (show ¬ (r.length:Int)=2 by omega),if_neg (fun h=>h.elim c (fun h=>c2 h.1))];rfl
 have hrd:iB ByteArray.empty r 0=sS x.path:=by
  cases r with
  | nil=>cases h2
  | cons a t=>injection h2
 have hpos:0 < (r.length:Int):=by omega
 unfold kH.f;refine Ev.bind hr ?_;rw[hsec,hrd];simp only[if_pos hpos]
 by_cases c1:(r.length:Int) < 2
 ·simp only[if_pos c1];exact Ev.now _
 simp only[if_neg c1]
 by_cases c2:(r.length:Int)=2
 ·simp only[if_pos c2]
  by_cases c3:x.typ=3
  ·simp only[if_pos c3];exact Ev.now _
  simp only[if_neg c3];exact Ev.now _
 simp only[if_neg c2];exact Ev.now _
theorem eV.kd2 {w:World} {A:Option Addr} {c:Nat} {l:List ByteArray} (H:eV w 0 (.slice A l.length c) l) (hl:l.length≤9223372036854775807):l.length≤c∧Kd.C Kd.string w A l.length l:=by
 obtain ⟨A',c',e,h1,h2⟩:=H.kd hl;injection e with e1 e2 e3
 subst e1 e3;exact ⟨h1,h2⟩
theorem aEv (p:ByteArray) (hp:p.size≤1000000) (w:World):Calls Tryz.prog 121 #[.string p] w fun e w'=>e = .returned (.string (iI p))∧Below w.heap.size w w':=by
 obtain ⟨k,hk⟩:=(aDc p hp).rounds
 exact (kY.calls k p _ w hk).mono fun _ _ ⟨h1,h2⟩=>⟨h1,dN⟩
theorem yG (p:ByteArray) (hp:p.size≤1000000) (h0:(L p)[0]? = some 47) (w:World):Calls Tryz.prog 122 #[.string p] w fun e w'=>e = .returned (.string (jN p))∧Below w.heap.size w w':=by
 obtain ⟨k,hk⟩:=(aA7 p hp h0).rounds
 exact (jQ.calls k p _ w hk).mono fun _ _ ⟨h1,h2⟩=>⟨h1,dN⟩
theorem uG (t:Int) (w:World):Calls Tryz.prog 125 #[.int .i64 t] w fun e w'=>e = .returned (.bool (jZ t))∧Below w.heap.size w w' :=
 (iM.calls t _ w (vS t)).mono fun _ _ ⟨h1,h2⟩=>⟨h1,dN⟩
theorem aFr (p:ByteArray) (hp:p.size≤1000000) (w:World):Calls Tryz.prog 89 #[.string p,.int .i64 (p.size:Int)] w fun e w'=>e = .returned (.int .i64 (slI (L p) p.size))∧Below w.heap.size w w':=by
 obtain ⟨k,hk⟩:=(zB p hp).rounds
 exact (eU.calls k p _ _ w hk).mono fun _ _ ⟨h1,h2⟩=>⟨h1,dN⟩
section
variable {w:World} {x:WV} {A0 A1 A2:Option Addr} {c0 c1 c2:Nat} (O:wH x) (S0:eV w 0 (.slice A0 x.ids.length c0) x.ids) (S1:eV w 0 (.slice A1 x.unk.length c1) x.unk) (S2:eV w 0 (.slice A2 x.langs.length c2) x.langs)
include O S0 S1 S2
theorem aAm:Calls Tryz.prog 123 #[.agg #[.string x.comp,.string x.path,.string x.name,.int .i64 (x.nEnd:Int),.slice A0 x.ids.length c0,.slice A1 x.unk.length c1,.slice A2 x.langs.length c2,.string x.ext,.string x.fmt,.string x.kind,.string x.lay,.string x.lang,.string x.cust,.bool x.dis,.int .i64 x.typ]] w fun e w'=>e = .returned (.string (rR x.path x.typ))∧Below w.heap.size w w':=by
 have h0:=S0.kd2 (by have:=O.ids;omega);have h1:=S1.kd2 (by have:=O.unk;omega);have h2:=S2.kd2 (by have:=O.langs;omega);obtain ⟨k,hk⟩:=(aDe O).rounds
 exact (kH.calls k x.comp x.path x.name (x.nEnd:Int) A0 c0 x.ids A1 c1 x.unk A2 c2 x.langs x.ext x.fmt x.kind x.lay x.lang x.cust x.dis x.typ _ w h0.2 h0.1 h1.2 h1.1 h2.2 h2.1 hk).mono fun _ _ ⟨h1,h2⟩=>⟨h1,dN⟩
theorem xB:Calls Tryz.prog 127 #[.agg #[.string x.comp,.string x.path,.string x.name,.int .i64 (x.nEnd:Int),.slice A0 x.ids.length c0,.slice A1 x.unk.length c1,.slice A2 x.langs.length c2,.string x.ext,.string x.fmt,.string x.kind,.string x.lay,.string x.lang,.string x.cust,.bool x.dis,.int .i64 x.typ]] w fun e w'=>e = .returned (.string (lB x))∧Below w.heap.size w w':=by
 have h0:=S0.kd2 (by have:=O.ids;omega);have h1:=S1.kd2 (by have:=O.unk;omega);have h2:=S2.kd2 (by have:=O.langs;omega)
 exact (gH.calls x.comp x.path x.name (x.nEnd:Int) A0 c0 x.ids A1 c1 x.unk A2 c2 x.langs x.ext x.fmt x.kind x.lay x.lang x.cust x.dis x.typ _ w h0.2 h0.1 h1.2 h1.1 h2.2 h2.1 (aBv O)).mono fun _ _ ⟨h1,h2⟩=>⟨h1,dN⟩
theorem aDz:Calls Tryz.prog 126 #[.agg #[.string x.comp,.string x.path,.string x.name,.int .i64 (x.nEnd:Int),.slice A0 x.ids.length c0,.slice A1 x.unk.length c1,.slice A2 x.langs.length c2,.string x.ext,.string x.fmt,.string x.kind,.string x.lay,.string x.lang,.string x.cust,.bool x.dis,.int .i64 x.typ]] w fun e w'=>e = .returned (.string (mQ x))∧Below w.heap.size w w':=by
 have h0:=S0.kd2 (by have:=O.ids;omega);have h1:=S1.kd2 (by have:=O.unk;omega);have h2:=S2.kd2 (by have:=O.langs;omega)
 exact (jR.calls x.comp x.path x.name (x.nEnd:Int) A0 c0 x.ids A1 c1 x.unk A2 c2 x.langs x.ext x.fmt x.kind x.lay x.lang x.cust x.dis x.typ _ w h0.2 h0.1 h1.2 h1.1 h2.2 h2.1 (aFj O)).mono fun _ _ ⟨h1,h2⟩=>⟨h1,dN⟩
theorem aCy:Calls Tryz.prog 128 #[.agg #[.string x.comp,.string x.path,.string x.name,.int .i64 (x.nEnd:Int),.slice A0 x.ids.length c0,.slice A1 x.unk.length c1,.slice A2 x.langs.length c2,.string x.ext,.string x.fmt,.string x.kind,.string x.lay,.string x.lang,.string x.cust,.bool x.dis,.int .i64 x.typ]] w fun e w'=>e = .returned (.string (mG x))∧Below w.heap.size w w':=by
 have h0:=S0.kd2 (by have:=O.ids;omega);have h1:=S1.kd2 (by have:=O.unk;omega);have h2:=S2.kd2 (by have:=O.langs;omega);obtain ⟨k,hk⟩:=(aHs O).rounds
 exact (gS.calls k x.comp x.path x.name (x.nEnd:Int) A0 c0 x.ids A1 c1 x.unk A2 c2 x.langs x.ext x.fmt x.kind x.lay x.lang x.cust x.dis x.typ _ w h0.2 h0.1 h1.2 h1.1 h2.2 h2.1 hk).mono fun _ _ ⟨h1,h2⟩=>⟨h1,dN⟩
theorem tG (s:ByteArray) (hs:s.size≤1000000) (hn:x.name.size≤s.size):Calls Tryz.prog 124 #[.agg #[.string x.comp,.string x.path,.string x.name,.int .i64 (x.nEnd:Int),.slice A0 x.ids.length c0,.slice A1 x.unk.length c1,.slice A2 x.langs.length c2,.string x.ext,.string x.fmt,.string x.kind,.string x.lay,.string x.lang,.string x.cust,.bool x.dis,.int .i64 x.typ],.string s] w fun e w'=>e = .returned (.string (lE x s))∧Below w.heap.size w w':=by
 have h0:=S0.kd2 (by have:=O.ids;omega);have h1:=S1.kd2 (by have:=O.unk;omega);have h2:=S2.kd2 (by have:=O.langs;omega)
 exact (mT.calls x.comp x.path x.name (x.nEnd:Int) A0 c0 x.ids A1 c1 x.unk A2 c2 x.langs x.ext x.fmt x.kind x.lay x.lang x.cust x.dis x.typ s _ w h0.2 h0.1 h1.2 h1.1 h2.2 h2.1 (aEr O s hs hn)).mono fun _ _ ⟨h1,h2⟩=>⟨h1,dN⟩
end
open Go.RowKit Go.ZW.PrintWords Go.Proofs.YtcdgldnphhidlaaGreatDoor.Base
theorem aKd {w:World} {B g n cap:Nat} {e:TypeId} {xs:List Value} (h:w.ownsRow B e 1 (.slice (some ⟨g,0,none⟩) n cap) n xs) (k:Nat) (x:Value) :
 (w.setCell ⟨g,k,none⟩ x).ownsRow B e 1 (.slice (some ⟨g,0,none⟩) n cap) n (xs.set k x):=by
 refine ⟨by rw[List.length_set];exact h.1,?_⟩;rcases h.2 with ⟨h1,_⟩ | ⟨g',cap',cur,h1,h2,h3,h4,h5,h6,h7⟩
 ·cases h1
 injection h1 with h1 _ h8
 injection h1 with h1
 injection h1 with h1
 subst h1 h8;refine .inr ⟨g,cap,cur.setIfInBounds k x,rfl,h2,?_,h4,h5,by rw[Array.size_setIfInBounds];exact h6,?_⟩
 ·unfold World.setCell;simp only[Array.getElem?_modify];rw[if_pos trivial,h3];rfl
 rw[Array.toList_setIfInBounds,List.take_set,h7]
def upd {α:Type} (f:Fin 4→α) (i:Fin 4) (v:α):Fin 4→α:=fun j=>if j=i then v else f j
theorem upd_same {α:Type} (f:Fin 4→α) (i:Fin 4) (v:α):upd f i v i=v:=if_pos rfl
theorem oB {α:Type} (f:Fin 4→α) {i j:Fin 4} (v:α) (h:j≠i):upd f i v j=f j:=if_neg h
def rty (i:Fin 4):TypeId:=if i=3 then 3 else 9
structure oE (w:World) (B b:Nat) (V:Fin 4→Value) (X:Fin 4→List Value):Prop where
 own:∀ i,w.ownsRow B (rty i) 1 (V i) (X i).length (X i)
 nb:∀ i,some b≠(V i).ownBlock
 apart:∀ i j,i≠j→(V i).ownBlock=none∨(V i).ownBlock≠(V j).ownBlock
section
variable {w w' : World} {B b:Nat} {V:Fin 4→Value} {X:Fin 4→List Value}
theorem oE.kept (H:oE w B b V X) (h:∀ k,k < w.heap.size→B≤k→w'.heap[k]? = w.heap[k]?):oE w' B b V X:=by
 refine ⟨fun i=>?_,H.nb,H.apart⟩;have h1:=H.own i;refine ⟨h1.1,?_⟩;rcases h1.2 with hn | ⟨g,cap,cur,h0,hB,hgg,rest⟩
 ·exact .inl hn
 exact .inr ⟨g,cap,cur,h0,hB,(h g (Array.getElem?_eq_some_iff.1 hgg).1 hB).trans hgg,rest⟩
theorem oE.store (H:oE w B b V X) (c:Nat) (v:Value):oE (w.setCell ⟨b,c,none⟩ v) B b V X :=
 ⟨fun i=>ownsRow_setCell_other (H.own i) (a:=⟨b,c,none⟩) (fun e=>H.nb i e.symm) v,H.nb,H.apart⟩
theorem oE.add (H:oE w B b V X) (hb:b < w.heap.size) (i:Fin 4) (x:Value) {v1:Value} (c:Nat) (ho:w'.ownsRow B (rty i) 1 v1 ((X i).length+1) (X i++[x])) (hg:w.grownBy w' (V i).ownBlock)
 (hat:v1.ownBlock=(V i).ownBlock∨∃ k,v1.ownBlock=some k∧w.heap.size≤k):oE (w'.setCell ⟨b,c,none⟩ v1) B b (upd V i v1) (upd X i (X i++[x])):=by
 have hb1:some b≠v1.ownBlock:=by
  rcases hat with h | ⟨k,h,hk⟩
  ·rw[h];exact H.nb i
  rw[h];intro e;injection e with e;omega
 have far:∀ j,j≠i→w'.ownsRow B (rty j) 1 (V j) (X j).length (X j)∧((V j).ownBlock=none∨(V j).ownBlock≠v1.ownBlock):=fun j hj=>qU (H.own j) hg (H.apart j i hj) hat
 have flip:∀ j,j≠i→v1.ownBlock=none∨v1.ownBlock≠(V j).ownBlock:=by
  intro j hj;rcases (far j hj).2 with h | h
  ·cases hv:v1.ownBlock with
   | none=>exact .inl rfl
   | some k=>exact .inr (by rw[h];intro e;cases e)
  exact .inr fun e=>h e.symm
 refine ⟨fun j=>?_,fun j=>?_,fun j k hjk=>?_⟩
 ·by_cases hj:j=i
  ·subst hj;rw[upd_same,upd_same,List.length_append];exact ownsRow_setCell_other ho (a:=⟨b,c,none⟩) (fun e=>hb1 e.symm) v1
  rw[oB _ _ hj,oB _ _ hj];exact ownsRow_setCell_other (far j hj).1 (a:=⟨b,c,none⟩) (fun e=>H.nb j e.symm) v1
 ·by_cases hj:j=i
  ·subst hj;rw[upd_same];exact hb1
  rw[oB _ _ hj];exact H.nb j
 by_cases hj:j=i
 ·subst hj;rw[upd_same,oB _ _ (fun e=>hjk e.symm)];exact flip k (fun e=>hjk e.symm)
 rw[oB _ _ hj]
 by_cases hk:k=i
 ·subst hk;rw[upd_same];exact (far j hj).2
 rw[oB _ _ hk];exact H.apart j k hjk
theorem oE.put (H:oE w B b V X) (i:Fin 4) {g cap:Nat} (hv:V i = .slice (some ⟨g,0,none⟩) (X i).length cap) (k:Nat) (x:Value):oE (w.setCell ⟨g,k,none⟩ x) B b V (upd X i ((X i).set k x)):=by
 have hg:(V i).ownBlock=some g:=by rw[hv];rfl
 refine ⟨fun j=>?_,H.nb,H.apart⟩
 by_cases hj:j=i
 ·subst hj;rw[upd_same,List.length_set];have:=H.own j;rw[hv] at this ⊢;exact aKd this k x
 rw[oB _ _ hj];refine ownsRow_setCell_other (H.own j) (a:=⟨g,k,none⟩) ?_ x;rcases H.apart j i hj with h | h
 ·rw[h];intro e;cases e
 rw[hg] at h;exact h
end
structure iE (w w' : World) (b:Nat) (V V' : Fin 4→Value):Prop where
 os:w'.os=w.os
 tape:w'.tape=w.tape
 output:w'.output=w.output
 size:w.heap.size≤w'.heap.size
 block:∀ k,k < w.heap.size→k≠b→(∀ i,some k≠(V i).ownBlock)→w'.heap[k]? = w.heap[k]?
 at_:∀ i,(V' i).ownBlock=(V i).ownBlock∨∃ k,(V' i).ownBlock=some k∧w.heap.size≤k
section
variable {w w' w'' : World} {B b:Nat} {V V' V'' : Fin 4→Value} {X:Fin 4→List Value}
theorem iE.refl (w:World) (b:Nat) (V:Fin 4→Value):iE w w b V V:=⟨rfl,rfl,rfl,Nat.le_refl _,fun _ _ _ _=>rfl,fun _=>.inl rfl⟩
theorem iE.of_below (h:Below w.heap.size w w'):iE w w' b V V:=⟨h.os,h.tape,h.output,h.size,fun k hk _ _=>h.block k hk,fun _=>.inl rfl⟩
theorem iE.trans (h:iE w w' b V V') (g:iE w' w'' b V' V''):iE w w'' b V V'' :=
 ⟨g.os.trans h.os,g.tape.trans h.tape,g.output.trans h.output,Nat.le_trans h.size g.size,
  fun k hk hb h1=>(g.block k (Nat.lt_of_lt_of_le hk h.size) hb (fun i=>oF (h.at_ i) hk (h1 i))).trans (h.block k hk hb h1),
  fun i=>tL (h.at_ i) (g.at_ i) h.size⟩
theorem iE.below (H:oE w B b V X) (hB:B≤b) (hb:b < w.heap.size) (h:iE w w' b V V'):Below B w w' :=
 ⟨h.os,h.tape,h.output,h.size,fun k hk=>h.block k bA bA (fun i=>lW (H.own i) hk)⟩
end
structure RdK where
 comp:ByteArray
 path:ByteArray
 name:ByteArray
 nEnd:Int
 lang:ByteArray
 typ:Int
 s0:Value
 s1:Value
 s2:Value
 s3:Value
 lay:Bool
 short:Bool
 pts:Int
def qL (K:RdK) (r:RV) (V:Fin 4→Value):List Value :=
 [.string K.comp,.string K.path,.string K.name,.int .i64 K.nEnd,V 0,V 1,V 2,.string r.ext,.string r.fmt,.string r.kind,.string r.lay,.string K.lang,.string r.cust,.bool r.dis,.int .i64 K.typ,K.s0,K.s1,K.s2,K.s3,.bool K.lay,.bool K.short,.int .i64 K.pts,V 3,.string r.lang1,.string r.fmt1,.string r.kind1,.string r.lay1,.bool r.hasLang,.bool r.hasKind,.bool r.baseof,.int .i64 r.layAt]
def rX (r:RV) (i:Fin 4):List Value:=match i with
 | 0=>r.ids.map Value.string
 | 1=>r.unk.map Value.string
 | 2=>r.langs.map Value.string
 | 3=>r.marks.map (Value.int .i64)
structure iF (w:World) (B b:Nat) (K:RdK) (r:RV) (V:Fin 4→Value):Prop where
 base:B≤b
 row:Row w b (qL K r V)
 rows:oE w B b V (rX r)
section
variable {w w' : World} {B b:Nat} {K:RdK} {r:RV} {V V' : Fin 4→Value}
theorem iF.lt (H:iF w B b K r V):b < w.heap.size:=H.row.lt bP
theorem iF.below (H:iF w B b K r V) (hb:Below w.heap.size w w'):iF w' B b K r V:=⟨H.base,H.row.below hb H.lt,H.rows.kept fun k hk _=>hb.block k hk⟩
theorem iF.moved (H:iF w B b K r V) (h:iE w w' b V V'):Below B w w':=h.below H.rows H.base H.lt
theorem iF.put (H:iF w B b K r V) (c:Nat) (v:Value) (K' : RdK) (r' : RV) (hc:(qL K r V).set c v=qL K' r' V) (hx:rX r'=rX r) (hk:c < 31) :
 iF (w.setCell ⟨b,c,none⟩ v) B b K' r' V∧iE w (w.setCell ⟨b,c,none⟩ v) b V V:=by
 have hr:=H.row.set c v (by simpa [qL] using hk);rw[hc] at hr;exact ⟨⟨H.base,hr,hx▸H.rows.store c v⟩,rfl,rfl,rfl,dX,fun j _ hb _=>Below.heap_setCell _ _ _ _ (by simpa using hb),fun _=>.inl rfl⟩
theorem iF.add (H:iF w B b K r V) (i:Fin 4) (x:Value) {v1:Value} (c:Nat) (r' : RV) (ho:w'.ownsRow B (rty i) 1 v1 ((rX r i).length+1) (rX r i++[x])) (hg:w.grownBy w' (V i).ownBlock)
 (hat:v1.ownBlock=(V i).ownBlock∨∃ k,v1.ownBlock=some k∧w.heap.size≤k) (hc:(qL K r V).set c v1=qL K r' (upd V i v1)) (hx:rX r'=upd (rX r) i (rX r i++[x])) (hk:c < 31) :
 iF (w'.setCell ⟨b,c,none⟩ v1) B b K r' (upd V i v1)∧iE w (w'.setCell ⟨b,c,none⟩ v1) b V (upd V i v1):=by
 have hr:=(H.row.grown hg H.lt (H.rows.nb i)).set c v1 (by simpa [qL] using hk);rw[hc] at hr;refine ⟨⟨H.base,hr,hx▸H.rows.add H.lt i x c ho hg hat⟩,hg.os,hg.tape,hg.output,by simpa using hg.size,fun k hk hb h1=>(Below.heap_setCell _ _ _ _ (by simpa using hb)).trans (hg.block k hk (h1 i)),fun j=>?_⟩
 by_cases hj:j=i
 ·subst hj;rw[upd_same];exact hat
 rw[oB _ _ hj];exact .inl rfl
theorem aKw (r:RV) (t:ByteArray):rX { r with ids:=r.ids++[t] }=upd (rX r) 0 (rX r 0++[.string t]):=by
 funext i
 match i with
 | 0=>rw[upd_same];exact List.map_append
 | 1=>rfl
 | 2=>rfl
 | 3=>rfl
theorem aKx (r:RV) (t:ByteArray):rX { r with unk:=r.unk++[t] }=upd (rX r) 1 (rX r 1++[.string t]):=by
 funext i
 match i with
 | 0=>rfl
 | 1=>rw[upd_same];exact List.map_append
 | 2=>rfl
 | 3=>rfl
theorem aJc (r:RV) (t:ByteArray):rX { r with langs:=r.langs++[t] }=upd (rX r) 2 (rX r 2++[.string t]):=by
 funext i
 match i with
 | 0=>rfl
 | 1=>rfl
 | 2=>rw[upd_same];exact List.map_append
 | 3=>rfl
theorem aJd (r:RV) (k:Int):rX { r with marks:=r.marks++[k] }=upd (rX r) 3 (rX r 3++[.int .i64 k]):=by
 funext i
 match i with
 | 0=>rfl
 | 1=>rfl
 | 2=>rfl
 | 3=>rw[upd_same];exact List.map_append
theorem iF.addIds (H:iF w B b K r V) (t:ByteArray) {v1:Value} (ho:w'.ownsRow B 9 1 v1 (r.ids.length+1) (r.ids.map Value.string++[.string t])) (hg:w.grownBy w' (V 0).ownBlock)
 (hat:v1.ownBlock=(V 0).ownBlock∨∃ k,v1.ownBlock=some k∧w.heap.size≤k):iF (w'.setCell ⟨b,4,none⟩ v1) B b K { r with ids:=r.ids++[t] } (upd V 0 v1)∧iE w (w'.setCell ⟨b,4,none⟩ v1) b V (upd V 0 v1) :=
 H.add 0 (.string t) 4 _ (by show w'.ownsRow B 9 1 v1 ((r.ids.map Value.string).length+1) _;rw[List.length_map];exact ho) hg hat rfl (aKw r t) bF
theorem iF.addUnk (H:iF w B b K r V) (t:ByteArray) {v1:Value} (ho:w'.ownsRow B 9 1 v1 (r.unk.length+1) (r.unk.map Value.string++[.string t])) (hg:w.grownBy w' (V 1).ownBlock)
 (hat:v1.ownBlock=(V 1).ownBlock∨∃ k,v1.ownBlock=some k∧w.heap.size≤k):iF (w'.setCell ⟨b,5,none⟩ v1) B b K { r with unk:=r.unk++[t] } (upd V 1 v1)∧iE w (w'.setCell ⟨b,5,none⟩ v1) b V (upd V 1 v1) :=
 H.add 1 (.string t) 5 _ (by show w'.ownsRow B 9 1 v1 ((r.unk.map Value.string).length+1) _;rw[List.length_map];exact ho) hg hat rfl (aKx r t) bF
theorem iF.addLangs (H:iF w B b K r V) (t:ByteArray) {v1:Value} (ho:w'.ownsRow B 9 1 v1 (r.langs.length+1) (r.langs.map Value.string++[.string t])) (hg:w.grownBy w' (V 2).ownBlock)
 (hat:v1.ownBlock=(V 2).ownBlock∨∃ k,v1.ownBlock=some k∧w.heap.size≤k):iF (w'.setCell ⟨b,6,none⟩ v1) B b K { r with langs:=r.langs++[t] } (upd V 2 v1)∧iE w (w'.setCell ⟨b,6,none⟩ v1) b V (upd V 2 v1) :=
 H.add 2 (.string t) 6 _ (by show w'.ownsRow B 9 1 v1 ((r.langs.map Value.string).length+1) _;rw[List.length_map];exact ho) hg hat rfl (aJc r t) bF
theorem iF.addMarks (H:iF w B b K r V) (k:Int) {v1:Value} (ho:w'.ownsRow B 3 1 v1 (r.marks.length+1) (r.marks.map (Value.int .i64)++[.int .i64 k])) (hg:w.grownBy w' (V 3).ownBlock)
 (hat:v1.ownBlock=(V 3).ownBlock∨∃ k,v1.ownBlock=some k∧w.heap.size≤k):iF (w'.setCell ⟨b,22,none⟩ v1) B b K { r with marks:=r.marks++[k] } (upd V 3 v1)∧iE w (w'.setCell ⟨b,22,none⟩ v1) b V (upd V 3 v1) :=
 H.add 3 (.int .i64 k) 22 _ (by show w'.ownsRow B 3 1 v1 ((r.marks.map (Value.int .i64)).length+1) _;rw[List.length_map];exact ho) hg hat rfl (aJd r k) bF
theorem map_set {α:Type} (f:α→Value):∀ (l:List α) (k:Nat) (t:α),(l.set k t).map f=(l.map f).set k (f t)
 | [],_,_=>rfl
 | _::_,0,_=>rfl
 | x::l,k+1,t=>by simp[map_set f l k t]
theorem iF.setId (H:iF w B b K r V) (k:Nat) (hk:k < r.ids.length) (t:ByteArray):∃ g cap,V 0 = .slice (some ⟨g,0,none⟩) r.ids.length cap∧w.cell? ⟨g,k,none⟩=some (.string (r.ids[k]'hk))∧w.frozen? ⟨g,k,none⟩=false ∧
 iF (w.setCell ⟨g,k,none⟩ (.string t)) B b K { r with ids:=r.ids.set k t } V∧iE w (w.setCell ⟨g,k,none⟩ (.string t)) b V V:=by
 have h:=H.rows.own 0;rcases h.2 with ⟨_,h0⟩ | ⟨g,cap,cur,h1,h2,h3,h4,h5,h6,h7⟩
 ·have:(r.ids.map Value.string).length=0:=h0;rw[List.length_map] at this;omega
 have hl:(rX r 0).length=r.ids.length:=List.length_map _
 have hne:g≠b:=by
  have:=H.rows.nb 0;rw[h1] at this;intro e;subst e;exact this rfl
 rw[hl] at h1 h4 h7;have hcs:k < cur.size:=by rw[h6];omega
 have hcv:cur[k]? = some (.string (r.ids[k]'hk)):=by
  have e:(cur.toList.take (r.ids.length * 1))[k]? = (r.ids.map Value.string)[k]?:=by rw[h7];rfl
  rw[List.getElem?_take_of_lt bA,List.getElem?_map,List.getElem?_eq_getElem hk] at e;rw[← Array.getElem?_toList,e];rfl
 have hrows:=H.rows.put 0 (g:=g) (cap:=cap) (by rw[hl];exact h1) k (.string t);refine ⟨g,cap,h1,?_,?_,⟨H.base,H.row.other (a:=⟨g,k,none⟩) hne _,?_⟩,rfl,rfl,rfl,dX,fun j _ _ hj=>Below.heap_setCell _ _ _ _ ?_,fun _=>.inl rfl⟩
 ·unfold World.cell?;simp only[h3];exact hcv
 ·unfold World.frozen?;simp only[h3]
  simp
 ·have e:upd (rX r) 0 ((rX r 0).set k (.string t))=rX { r with ids:=r.ids.set k t }:=by
   funext i
   match i with
   | 0=>rw[upd_same];exact (map_set _ _ _ _).symm
   | 1=>rfl
   | 2=>rfl
   | 3=>rfl
  rw[← e];exact hrows
 have:=hj 0;rw[h1] at this;intro e;subst e;exact this rfl
end
open Go.RowKit Go.WideMaps Go.ZW.PrintWords Go.Proofs.YtcdgldnphhidlaaGreatDoor.Base
theorem kI {P:Program} {ops:Array Oper} {rest:List Oper} {o:Oper} {a:Act} {Q:Exit→Act→World→Prop} {W:World} (hgd:o.guard=none) (base:Nat) (s x:Operand) (t e:TypeId) (z:Value) (size bytes:Nat)
 (ho:o.op = .call { callee:=.builtin .append,args:=#[s,x],argTypes:=#[t,t] })
 (ht:P.underlying t=some (.slice e)) (hinfo:(P.info? e).map (fun i=>(i.zero,i.size,i.bytes))=some (some z,size,bytes)) (hz:z.cells.size=size) (hs0:0 < size) (hb0:0 < bytes)
 (v:Value) (n:Nat) (xs ys:List Value) (hs:a.eval s=v) (hx:a.eval x = .slice (some ⟨W.heap.size,0,none⟩) 1 1) (hys:ys.length=size) (h1:∀ u∈ys,u.oneCell'=true)
 (HO:W.ownsRow base e size v n xs) (hbase:base≤W.heap.size) (hl:(n+1) * bytes≤140737488355328)
 (h:∀ v1 w1,w1.ownsRow base e size v1 (n+1) (xs++ys)→W.grownBy w1 v.ownBlock→(v1.ownBlock=v.ownBlock∨∃ b,v1.ownBlock=some b∧W.heap.size≤b)→wpList P ops Q rest (a.put o.dst v1) w1) :
 wpList P ops Q (o::rest) a (W.alloc (.cells ys.toArray e)):=by
 obtain ⟨i0,hi,hzz⟩:=Option.map_eq_some_iff.1 hinfo;simp only[Prod.mk.injEq] at hzz;obtain ⟨hz0,hz1,hz2⟩:=hzz;have hlen:n+1≤140737488355328:=Nat.le_trans (Nat.le_mul_of_pos_right _ hb0) hl
 refine wpList_append_own_at _ hgd s x t ho base e i0 z size bytes ht hi hz0 hz1 hz2 hz hs0 v n xs hs (HO.alloc _) ⟨W.heap.size,0,none⟩ 1 1 ys hx (by rw[hys];simp)
  (by simpa using World.news_of_block (cs:=ys.toArray) (t:=e) (fr:=(0,0)) (heap_alloc_new W (.cells ys.toArray e))) h1 (by simp only[maxLen];omega) hl (by simp;omega) ?_
 intro v1 w1 hown hg _ hat;refine h v1 w1 hown (World.grownBy.trans (World.grownBy_alloc W _ _) hg) ?_;rcases hat with hat | hat
 ·exact .inl hat
 exact .inr ⟨_,hat,dX⟩
theorem aHy:(Tryz.prog.info? 3).map (fun i=>(i.zero,i.size,i.bytes))=some (some (.int .i64 0),1,8):=by kernel_rfl
theorem pO:(Tryz.prog.info? 9).map (fun i=>(i.zero,i.size,i.bytes))=some (some (.string ⟨#[]⟩),1,16):=by kernel_rfl
section
variable {w:World} {B b:Nat} {K:RdK} {r:RV} {V:Fin 4→Value}
theorem iF.idsRow (H:iF w B b K r V):w.ownsRow B 9 1 (V 0) r.ids.length (r.ids.map Value.string):=by have h:=H.rows.own 0;rwa[show (rX r 0).length=r.ids.length from List.length_map _] at h
theorem iF.unkRow (H:iF w B b K r V):w.ownsRow B 9 1 (V 1) r.unk.length (r.unk.map Value.string):=by have h:=H.rows.own 1;rwa[show (rX r 1).length=r.unk.length from List.length_map _] at h
theorem iF.langsRow (H:iF w B b K r V):w.ownsRow B 9 1 (V 2) r.langs.length (r.langs.map Value.string):=by have h:=H.rows.own 2;rwa[show (rX r 2).length=r.langs.length from List.length_map _] at h
theorem iF.marksRow (H:iF w B b K r V):w.ownsRow B 3 1 (V 3) r.marks.length (r.marks.map (Value.int .i64)):=by have h:=H.rows.own 3;rwa[show (rX r 3).length=r.marks.length from List.length_map _] at h
theorem iF.far (H:iF w B b K r V) {w1:World} {i:Fin 4} (hg:w.grownBy w1 (V i).ownBlock) (c:Nat) (v:Value) (h:(qL K r V)[c]? = some v):w1.cell? ⟨b,c,none⟩=some v∧w1.frozen? ⟨b,c,none⟩=false:=by
 have hR:=H.row.grown hg H.lt (H.rows.nb i);exact ⟨hR.at c v h,hR.free c (List.getElem?_eq_some_iff.1 h).1⟩
theorem jU (H:iF w B b K r V) (text:ByteArray) (k:Int) (n1:r.ids.length≤1000000) (n2:r.marks.length≤1000000) :
 Calls Tryz.prog 129 #[.pointer (some ⟨b,0,none⟩),.string text,.int .i64 k] w fun e w'=>e = .returned (.tuple #[])∧∃ V',iF w' B b K (r.id text k) V'∧iE w w' b V V':=by
 have HH:=cB H;have r4:=H.row.at 4 _ rfl;have o0:=cB H.idsRow;have hB:B≤w.heap.size:=Nat.le_trans H.base (Nat.le_of_lt H.lt)
 obtain ⟨v0,hv0⟩:∃ v,V 0=v:=⟨_,rfl⟩
 rw[hv0] at r4 o0;have HV0:=cB hv0;clear H hv0;go_enter Tryz.func129,Tryz.ntmps129
 go_wp2_with (first | (refine kI rfl B (.tmp 11) (.tmp 13) 22 9 _ 1 16 rfl Tryz.underlying22 pO rfl bF bF v0 r.ids.length (r.ids.map Value.string) [.string text] rfl rfl rfl bL o0.out hB bA ?_) | fail)
 intro v1 w1 ho hg ha;obtain ⟨A1,c1,ev1⟩:=fL ho;subst ev1;rw[← HV0.out] at hg ha;obtain ⟨q4,f4⟩:=HH.out.far hg 4 (V 0) rfl;obtain ⟨hR,hM⟩:=HH.out.addIds text ho hg ha;have HR:=cB hR;have HM:=cB hM;clear r4 o0 ho hg ha hR hM;go_upto_region 1 with fail
 obtain ⟨w2,hw2⟩:∃ w2,w1.setCell ⟨b,4,none⟩ (.slice A1 (r.ids.length+1) c1)=w2:=⟨_,rfl⟩
 rw[hw2] at HR HM ⊢;clear hw2 q4 f4
 obtain ⟨V2,hV2⟩:∃ V2,upd V 0 (.slice A1 (r.ids.length+1) c1)=V2:=⟨_,rfl⟩
 rw[hV2] at HR HM;clear hV2;have r22:=HR.out.row.at 22 _ rfl;have o3:=cB HR.out.marksRow;have hB2:B≤w2.heap.size:=Nat.le_trans HR.out.base (Nat.le_of_lt HR.out.lt)
 obtain ⟨v3,hv3⟩:∃ v,V2 3=v:=⟨_,rfl⟩
 rw[hv3] at r22 o3;have HV3:=cB hv3;clear hv3
 go_wp2_with (first | (refine kI rfl B (.tmp 22) (.tmp 24) 80 3 _ 1 8 rfl Tryz.underlying80 aHy rfl bF bF v3 r.marks.length (r.marks.map (Value.int .i64)) [.int .i64 k] rfl rfl rfl bL o3.out hB2 bA ?_) | fail)
 intro v4 w4 ho hg ha;obtain ⟨A4,c4,ev4⟩:=fL ho;subst ev4;rw[← HV3.out] at hg ha;obtain ⟨q22,f22⟩:=HR.out.far hg 22 (V2 3) rfl;obtain ⟨hR,hM⟩:=HR.out.addMarks k ho hg ha;have HR4:=cB hR;have HM4:=cB (HM.out.trans hM);clear r22 o3 ho hg ha hR hM;go_wp2_with fail
 exact bodyPost_end (v:=.tuple #[]) (by simp[results,Tryz.results129]) rfl ⟨rfl,_,HR4.out,HM4.out⟩
end
open Go.RowKit Go.WideMaps Go.ZW.PrintWords Go.Proofs.YtcdgldnphhidlaaGreatDoor.Base Go.Proofs.YtcdgldnphhidlaaGreatDoor.Lower Go.Proofs.YtcdgldnphhidlaaGreatDoor.PCore
open Go.ZW.PrintLast
section
variable {w0 w:World} {b:Nat} {G:RdK} {r:RV} {V:Fin 4→Value} {st:eW}
theorem cell_far {w w' : World} {b j:Nat} {v:Value} (h:w.cell? ⟨b,j,none⟩=some v) (hb:Below w.heap.size w w'):w'.cell? ⟨b,j,none⟩=some v:=(hb.cell (World.block_lt_of_cell? w ⟨b,j,none⟩ h)).trans h
theorem xX (x pre:ByteArray):(gY x pre).size≤x.size:=by unfold gY;rw[ByteArray.size_extract];omega
theorem aCo (S:nS w0 st G.s0 G.s1 G.s2 G.s3) (O:aAv st) (hB:Below w0.heap.size w0 w) (H:iF w w0.heap.size b G r V) (word x:ByteArray) (k:Int) (hx:x.size≤1000000) (n1:r.ids.length≤1000000) (n2:r.marks.length≤1000000) (n3:r.langs.length≤1000000) :
 Calls Tryz.prog 130 #[.pointer (some ⟨b,0,none⟩),.string word,.string x,.int .i64 k] w fun e w'=>e = .returned (.tuple #[])∧∃ V',iF w' w0.heap.size b G (jM st G.lay r word x k) V'∧iE w w' b V V':=by
 replace H:=cB H;replace hB:=cB hB;have HW0:=cB (Below.refl w.heap.size w);go_enter Tryz.func130,Tryz.ntmps130;refine wp_seq_k (fun J1 hJ1=>?_)
 go_cut [] from 17 to 75 (fun wx=>Aside0 (Below w.heap.size w wx)∧Aside0 (¬ (hJ x fJ=true∧(listed st.langs (low (gY x fJ)) || listed st.dis (low (gY x fJ)))=true)))
 case first =>
  have ct:=qN x fJ hx w
  obtain ⟨v1,hv1⟩:∃ v,gY x fJ=v:=⟨_,rfl⟩
  obtain ⟨t1,ht1⟩:∃ t,hJ x fJ=t:=⟨_,rfl⟩
  have hz1:v1.size≤x.size:=by rw[← hv1];exact xX _ _
  rw[hv1,ht1] at ct;go_wp2_with fail
  refine ct.mono ?_;rintro e w1 ⟨rfl,hb1⟩;have HW1:=cB (eD HW0.out hb1);clear hb1;clear ct
  cases t1 with
  | false =>
   go_wp2_with fail
   go_meet
   case rel=>exact ⟨HW1,⟨by rw[ht1];rintro ⟨h,_⟩;cases h⟩⟩
  | true =>
   have cl:=xM v1 bA w1;go_wp2_with fail
   refine cl.mono ?_;rintro e w2 ⟨rfl,hb2⟩;have HW2:=cB (eD HW1.out hb2);clear hb2;clear cl
   obtain ⟨a1,ha1⟩:∃ a,listed st.langs (low v1)=a:=⟨_,rfl⟩
   obtain ⟨d1,hd1⟩:∃ a,listed st.dis (low v1)=a:=⟨_,rfl⟩
   have HR2:=cB (H.out.below HW2.out);have HM2:=cB (iE.of_below (b:=b) (V:=V) HW2.out);have HB2:=cB (eD hB.out HW2.out);have rc15:=HR2.out.row.at 15 _ rfl;have rc16:=HR2.out.row.at 16 _ rfl;have ca:=oL (S.below HB2.out).l O.l (low v1);rw[ha1] at ca;go_upto_region 3 with fail
   go_cut [40] from 25 to 40 (fun sx wx=>sx = .bool (a1 || d1)∧Aside0 (Below w2.heap.size w2 wx))
   case first =>
    go_wp2_with fail
    refine ca.mono ?_;rintro e w3 ⟨rfl,hb3⟩;have HB3:=cB hb3;have rc16:=cell_far rc16 hb3;have hs3:=S.below (eD HB2.out hb3);clear hb3 ca rc15;cases a1
    ·have cd:=oL hs3.d O.d (low v1);rw[hd1] at cd;go_wp2_with fail
     refine cd.mono ?_;rintro e w4 ⟨rfl,hb4⟩;have HB4:=cB (eD HB3.out hb4);clear hb4 cd;go_wp2_with fail
     go_meet
     case rel=>exact ⟨rfl,HB4⟩
    go_wp2_with fail
    go_meet
    case rel=>exact ⟨rfl,HB3⟩
   obtain ⟨rfl,HB3⟩:=hcut
   obtain ⟨w4,rfl⟩:∃ x,x=wc:=⟨_,rfl⟩
   have HW4:=cB (eD HW2.out HB3.out);clear rc15 rc16 ca HB3
   cases hll:(a1 || d1) with
   | false =>
    go_wp2_with fail
    go_meet
    case rel=>exact ⟨HW4,⟨by rw[hv1,ha1,hd1,hll];rintro ⟨_,h⟩;cases h⟩⟩
   | true =>
    have hres:jM st G.lay r word x k = { r.id v1 k with langs:=r.langs++[v1],dis:=r.dis || !a1 }:=by unfold jM;rw[if_pos ⟨ht1,by rw[hv1,ha1,hd1];exact hll⟩,hv1,ha1]
    have HR4:=cB (H.out.below HW4.out);have HM4:=cB (iE.of_below (b:=b) (V:=V) HW4.out);have HB4:=cB (eD hB.out HW4.out);have ci:=jU HR4.out v1 k (by exact n1) (by exact n2);go_wp2_with fail
    refine ci.mono ?_;rintro e w5 ⟨rfl,V5,hR5,hM5⟩;have HR5:=cB hR5;have HM5:=cB (HM4.out.trans hM5);have HB5:=cB (HB4.out.trans (HR4.out.moved hM5));clear ci hR5 hM5;have rc6:=HR5.out.row.at 6 _ rfl;have og:=cB HR5.out.langsRow;have hBg:w0.heap.size≤w5.heap.size:=Nat.le_trans HR5.out.base (Nat.le_of_lt HR5.out.lt)
    obtain ⟨vg,hvg⟩:∃ v,V5 2=v:=⟨_,rfl⟩
    rw[hvg] at rc6 og;have HVg:=cB hvg;clear hvg;have ng:=n3
    go_wp2_with (first | (refine kI rfl w0.heap.size (.tmp 50) (.tmp 52) 22 9 _ 1 16 rfl Tryz.underlying22 pO rfl bF bF vg r.langs.length (r.langs.map Value.string) [.string v1] rfl rfl rfl bL og.out hBg bA ?_) | fail)
    intro v1 w1 ho hg ha;obtain ⟨Ag,cg,ev1⟩:=fL ho;subst ev1;rw[← HVg.out] at hg ha;obtain ⟨qg,fg⟩:=HR5.out.far hg 6 (V5 2) rfl;obtain ⟨hR,hM⟩:=HR5.out.addLangs v1 ho hg ha;have HR6:=cB hR;have HM6:=cB (HM5.out.trans hM);have HB6:=cB (HB5.out.trans (HR5.out.moved hM));clear rc6 og hBg ng ho hg ha hR hM;go_upto_region 6 with fail
    obtain ⟨w6,hw6⟩:∃ w2,w1.setCell ⟨b,6,none⟩ ((.slice Ag (r.langs.length+1) cg):Value)=w2:=⟨_,rfl⟩
    rw[hw6] at HR6 HM6 HB6 ⊢;clear hw6 qg fg
    obtain ⟨V6,hV6⟩:∃ V2,upd V5 2 ((.slice Ag (r.langs.length+1) cg):Value)=V2:=⟨_,rfl⟩
    rw[hV6] at HR6 HM6;clear hV6;have rc13:=HR6.out.row.at 13 _ rfl;have rc15:=HR6.out.row.at 15 _ rfl;have rf13:=HR6.out.row.free 13 bP;have ca:=oL (S.below HB6.out).l O.l (low v1);rw[ha1] at ca
    cases hdis:r.dis with
    | true =>
     rw[show (r.id v1 k).dis=true from hdis] at rc13;have hres' : jM st G.lay r word x k = { r.id v1 k with langs:=r.langs++[v1],dis:=true }:=by rw[hres,hdis];rfl
     clear hres;have hres:=hres';go_wp2_with fail
     obtain ⟨hR,hM⟩:=HR6.out.put 13 (.bool true) G { r.id v1 k with langs:=r.langs++[v1],dis:=true } rfl rfl bA;have HR8:=cB hR;have HM8:=cB (HM6.out.trans hM);clear hR hM;exact bodyPost_ret (v:=.tuple #[]) (by simp[results,Tryz.results130]) rfl ⟨rfl,_,(hres.symm▸HR8.out),HM8.out⟩
    | false =>
     rw[show (r.id v1 k).dis=false from hdis] at rc13;have hres' : jM st G.lay r word x k = { r.id v1 k with langs:=r.langs++[v1],dis:=!a1 }:=by rw[hres,hdis];rfl
     clear hres;have hres:=hres';go_wp2_with fail
     refine ca.mono ?_;rintro e w7 ⟨rfl,hb7⟩;clear ca rc13 rc15 rf13;have HR7:=cB (HR6.out.below hb7);have HM7:=cB (HM6.out.trans (.of_below hb7));have HB7:=cB (eD HB6.out hb7);clear hb7;have rc13:=HR7.out.row.at 13 _ rfl;have rf13:=HR7.out.row.free 13 bP;go_wp2_with fail
     obtain ⟨hR,hM⟩:=HR7.out.put 13 (.bool (!a1)) G { r.id v1 k with langs:=r.langs++[v1],dis:=!a1 } rfl rfl bA;have HR8:=cB hR;have HM8:=cB (HM7.out.trans hM);clear hR hM;exact bodyPost_ret (v:=.tuple #[]) (by simp[results,Tryz.results130]) rfl ⟨rfl,_,(hres.symm▸HR8.out),HM8.out⟩
 obtain ⟨HW1,HNO⟩:=hcut
 obtain ⟨w1,rfl⟩:∃ x,x=wc:=⟨_,rfl⟩
 refine hJ1 _ _ ?_;clear hJ1;refine wp_seq_k (fun J2 hJ2=>?_)
 go_cut [] from 76 to 138 (fun wx=>Aside0 (Below w.heap.size w wx)∧Aside0 (jM st G.lay r word x k = { r.id word k with cust:=x }))
 case first =>
  have HR1:=cB (H.out.below HW1.out);have HM1:=cB (iE.of_below (b:=b) (V:=V) HW1.out);have HB1:=cB (eD hB.out HW1.out);have rc19:=HR1.out.row.at 19 _ rfl
  cases hlay:G.lay with
  | false =>
   rw[hlay] at rc19;go_wp2_with fail
   go_meet
   case rel=>exact ⟨HW1,⟨by rw[hlay];unfold jM;rw[if_neg HNO.out,if_neg (fun h=>Bool.noConfusion h.1),if_neg (fun h=>Bool.noConfusion h.1),if_neg (fun h=>Bool.noConfusion h.1)]⟩⟩
  | true =>
   rw[hlay] at rc19;go_upto_if 79 with fail
   clear rc19 HR1 HM1 HB1;refine wp_cond_true rfl ?_;refine wp_seq_k (fun J3 hJ3=>?_)
   go_cut [] from 80 to 104 (fun wx=>Aside0 (Below w.heap.size w wx)∧Aside0 (¬ (hJ x gR=true∧gX st (low (gY x gR))=true)))
   case first =>
    have ct:=qN x gR hx w1
    obtain ⟨v2,hv2⟩:∃ v,gY x gR=v:=⟨_,rfl⟩
    obtain ⟨t2,ht2⟩:∃ t,hJ x gR=t:=⟨_,rfl⟩
    have hz2:v2.size≤x.size:=by rw[← hv2];exact xX _ _
    rw[hv2,ht2] at ct;go_wp2_with fail
    refine ct.mono ?_;rintro e w2 ⟨rfl,hb2⟩;have HW2:=cB (eD HW1.out hb2);clear hb2;clear ct
    cases t2 with
    | false =>
     go_wp2_with fail
     go_quiet (fail)
     go_wp2_with fail
     go_meet
     case rel=>exact ⟨⟨eD HW2.out (fA.below ⟨_,rfl⟩)⟩,⟨by rw[ht2];rintro ⟨h,_⟩;cases h⟩⟩
    | true =>
     have HR2:=cB (H.out.below HW2.out);have HM2:=cB (iE.of_below (b:=b) (V:=V) HW2.out);have HB2:=cB (eD hB.out HW2.out);have SB:=(S.below HB2.out).below (w':=w2.drew) ((Below.refl _ _).drew);have rc17:w2.drew.cell? ⟨b,17,none⟩=some G.s2:=HR2.out.row.at 17 _ rfl;go_upto_region 9 with fail
     refine iJ (n:=11) (S:=fun w'=>w'.cell? ⟨b,17,none⟩=some G.s2) (ds:=[]) _ bB rfl rfl (rc17) (fun hHeld=>?_);refine sA1 0 (some 85) sB1 ?_
     refine sA1 1 (some 86) sB1 ?_
     refine sA1 2 (some 87) sB1 ?_
     refine sA1 3 (some 88) sB1 ?_
     refine sA1 4 (some 89) sB1 ?_
     refine sA1 5 (some 90) sB1 ?_
     refine sA1 7 (some 92) sB1 ?_
     refine sC1 6 (some 91) sK1 ?_
     refine sF1 8 (some 93) sG1 (fun K hK=>?_);refine lS Tryz.func69 bB rfl #[.string v2] bH rfl rfl bJ ?_
     with_reducible refine ((xM v2 bA w2.drew)).mono ?_
     rintro e wa ⟨rfl,ha⟩;refine ⟨_,rfl,?_⟩;have rc17a:=cell_far rc17 ha;refine hK.out _ _ (rc17a) (fun hHeld=>?_);clear hK K;refine gM sJ1 ?_
     refine sF1 9 (some 94) sG1 (fun K hK=>?_);refine lS Tryz.func133 bB rfl #[G.s2,.string (low v2)] bH rfl rfl bJ ?_
     with_reducible refine ((aFh (SB.below ha).f O.f (low v2))).mono ?_
     rintro e wb ⟨rfl,hbb⟩;refine ⟨_,rfl,?_⟩;have rc17b:=cell_far rc17a hbb;refine hK.out _ _ (rc17b) (fun hHeld=>?_);clear hK K;refine gM sJ1 ?_
     refine sA1 10 (some 95) sB1 ?_
     refine iV bB ?_;have HW3:=cB (eD HW2.out (eD (eD ((Below.refl _ _).drew) ha) hbb))
     obtain ⟨f2,hf2⟩:∃ f,gX st (low v2)=f:=⟨_,rfl⟩
     rw[hf2];clear rc17 rc17a rc17b ha hbb SB HR2 HM2 HB2
     obtain ⟨w3,rfl⟩:∃ x,x=wb:=⟨_,rfl⟩
     cases f2 with
     | false =>
      go_wp2_with fail
      go_meet
      case rel=>exact ⟨HW3,⟨by rw[hv2,hf2];rintro ⟨_,h⟩;cases h⟩⟩
     | true =>
      have hres:jM st true r word x k = { r.id v2 k with fmt:=v2 }:=by unfold jM;rw[if_neg HNO.out,if_pos ⟨rfl,ht2,by rw[hv2];exact hf2⟩,hv2]
      have HR3:=cB (H.out.below HW3.out);have HM3:=cB (iE.of_below (b:=b) (V:=V) HW3.out);have HB3:=cB (eD hB.out HW3.out);have ci:=jU HR3.out v2 k (by exact n1) (by exact n2);go_wp2_with fail
      refine ci.mono ?_;rintro e w4 ⟨rfl,V4,hR4,hM4⟩;have HR4:=cB hR4;have HM4:=cB (HM3.out.trans hM4);have HB4:=cB (HB3.out.trans (HR3.out.moved hM4));clear ci hR4 hM4;have rc8:=HR4.out.row.at 8 _ rfl;have rf8:=HR4.out.row.free 8 bP;go_wp2_with fail
      obtain ⟨hR,hM⟩:=HR4.out.put 8 (.string v2) G { r.id v2 k with fmt:=v2 } rfl rfl bA;have HR5:=cB hR;have HM5:=cB (HM4.out.trans hM);clear hR hM;exact bodyPost_ret (v:=.tuple #[]) (by simp[results,Tryz.results130]) rfl ⟨rfl,_,(hres.symm▸HR5.out),HM5.out⟩
   obtain ⟨HW1,HNO2⟩:=hcut
   obtain ⟨w1,rfl⟩:∃ x,x=wc:=⟨_,rfl⟩
   refine hJ3 _ _ ?_;clear hJ3;refine wp_seq_k (fun J4 hJ4=>?_)
   go_cut [] from 105 to 124 (fun wx=>Aside0 (Below w.heap.size w wx)∧Aside0 (¬ (hJ x gE=true∧isKind (gY x gE)=true)))
   case first =>
    have ct:=qN x gE hx w1
    obtain ⟨v3,hv3⟩:∃ v,gY x gE=v:=⟨_,rfl⟩
    obtain ⟨t3,ht3⟩:∃ t,hJ x gE=t:=⟨_,rfl⟩
    have hz3:v3.size≤x.size:=by rw[← hv3];exact xX _ _
    rw[hv3,ht3] at ct;go_wp2_with fail
    refine ct.mono ?_;rintro e w2 ⟨rfl,hb2⟩;have HW2:=cB (eD HW1.out hb2);clear hb2;clear ct
    cases t3 with
    | false =>
     go_wp2_with fail
     go_meet
     case rel=>exact ⟨HW2,⟨by rw[ht3];rintro ⟨h,_⟩;cases h⟩⟩
    | true =>
     have ck3:=wT v3 bA w2
     obtain ⟨b3,hb3⟩:∃ f,isKind v3=f:=⟨_,rfl⟩
     rw[hb3] at ck3;go_wp2_with fail
     refine ck3.mono ?_;rintro e w3 ⟨rfl,hb3⟩;have HW3:=cB (eD HW2.out hb3);clear hb3;clear ck3
     cases b3 with
     | false =>
      go_wp2_with fail
      go_meet
      case rel=>exact ⟨HW3,⟨by rw[hv3,hb3];rintro ⟨_,h⟩;cases h⟩⟩
     | true =>
      have hres:jM st true r word x k = { r.id v3 k with kind:=v3 }:=by unfold jM;rw[if_neg HNO.out,if_neg (fun h=>HNO2.out h.2),if_pos ⟨rfl,ht3,by rw[hv3];exact hb3⟩,hv3]
      have HR3:=cB (H.out.below HW3.out);have HM3:=cB (iE.of_below (b:=b) (V:=V) HW3.out);have HB3:=cB (eD hB.out HW3.out);have ci:=jU HR3.out v3 k (by exact n1) (by exact n2);go_wp2_with fail
      refine ci.mono ?_;rintro e w4 ⟨rfl,V4,hR4,hM4⟩;have HR4:=cB hR4;have HM4:=cB (HM3.out.trans hM4);have HB4:=cB (HB3.out.trans (HR3.out.moved hM4));clear ci hR4 hM4;have rc9:=HR4.out.row.at 9 _ rfl;have rf9:=HR4.out.row.free 9 bP;go_wp2_with fail
      obtain ⟨hR,hM⟩:=HR4.out.put 9 (.string v3) G { r.id v3 k with kind:=v3 } rfl rfl bA;have HR5:=cB hR;have HM5:=cB (HM4.out.trans hM);clear hR hM;exact bodyPost_ret (v:=.tuple #[]) (by simp[results,Tryz.results130]) rfl ⟨rfl,_,(hres.symm▸HR5.out),HM5.out⟩
   obtain ⟨HW1,HNO3⟩:=hcut
   obtain ⟨w1,rfl⟩:∃ x,x=wc:=⟨_,rfl⟩
   refine hJ4 _ _ ?_;clear hJ4;have ct:=qN x fS hx w1
   obtain ⟨v4,hv4⟩:∃ v,gY x fS=v:=⟨_,rfl⟩
   obtain ⟨t4,ht4⟩:∃ t,hJ x fS=t:=⟨_,rfl⟩
   have hz4:v4.size≤x.size:=by rw[← hv4];exact xX _ _
   rw[hv4,ht4] at ct;go_wp2_with fail
   refine ct.mono ?_;rintro e w2 ⟨rfl,hb2⟩;have HW2:=cB (eD HW1.out hb2);clear hb2;clear ct
   cases t4 with
   | false =>
    go_wp2_with fail
    go_meet
    case rel=>exact ⟨HW2,⟨by rw[hlay];unfold jM;rw[if_neg HNO.out,if_neg (fun h=>HNO2.out h.2),if_neg (fun h=>HNO3.out h.2),if_neg (by rw[ht4];rintro ⟨_,h⟩;cases h)]⟩⟩
   | true =>
    have hres:jM st true r word x k = { r.id v4 k with lay:=v4 }:=by unfold jM;rw[if_neg HNO.out,if_neg (fun h=>HNO2.out h.2),if_neg (fun h=>HNO3.out h.2),if_pos ⟨rfl,ht4⟩,hv4]
    have HR2:=cB (H.out.below HW2.out);have HM2:=cB (iE.of_below (b:=b) (V:=V) HW2.out);have HB2:=cB (eD hB.out HW2.out);have ci:=jU HR2.out v4 k (by exact n1) (by exact n2);go_wp2_with fail
    refine ci.mono ?_;rintro e w3 ⟨rfl,V3,hR3,hM3⟩;have HR3:=cB hR3;have HM3:=cB (HM2.out.trans hM3);have HB3:=cB (HB2.out.trans (HR2.out.moved hM3));clear ci hR3 hM3;have rc10:=HR3.out.row.at 10 _ rfl;have rf10:=HR3.out.row.free 10 bP;go_wp2_with fail
    obtain ⟨hR,hM⟩:=HR3.out.put 10 (.string v4) G { r.id v4 k with lay:=v4 } rfl rfl bA;have HR4:=cB hR;have HM4:=cB (HM3.out.trans hM);clear hR hM;exact bodyPost_ret (v:=.tuple #[]) (by simp[results,Tryz.results130]) rfl ⟨rfl,_,(hres.symm▸HR4.out),HM4.out⟩
 obtain ⟨HW1,HRES⟩:=hcut
 obtain ⟨w1,rfl⟩:∃ x,x=wc:=⟨_,rfl⟩
 refine hJ2 _ _ ?_;clear hJ2;have hres:=HRES.out;have HR1:=cB (H.out.below HW1.out);have HM1:=cB (iE.of_below (b:=b) (V:=V) HW1.out);have HB1:=cB (eD hB.out HW1.out);have ci:=jU HR1.out word k (by exact n1) (by exact n2);go_wp2_with fail
 refine ci.mono ?_;rintro e w2 ⟨rfl,V2,hR2,hM2⟩;have HR2:=cB hR2;have HM2:=cB (HM1.out.trans hM2);have HB2:=cB (HB1.out.trans (HR1.out.moved hM2));clear ci hR2 hM2;have rc12:=HR2.out.row.at 12 _ rfl;have rf12:=HR2.out.row.free 12 bP;go_wp2_with fail
 obtain ⟨hR,hM⟩:=HR2.out.put 12 (.string x) G { r.id word k with cust:=x } rfl rfl bA;have HR3:=cB hR;have HM3:=cB (HM2.out.trans hM);clear hR hM;exact bodyPost_end (v:=.tuple #[]) (by simp[results,Tryz.results130]) rfl ⟨rfl,_,(hres.symm▸HR3.out),HM3.out⟩
end
end Go.Proofs.YtcdgldnphhidlaaGreatDoor.Path
