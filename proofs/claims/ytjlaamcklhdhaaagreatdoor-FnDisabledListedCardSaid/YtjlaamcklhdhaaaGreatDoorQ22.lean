/- Texts that the law leans on: Sizes, Slashes, Spec4, Spec5, Fns, Pt, Facts, Same. Condition: as told at each. -/
import Derived.Test.YtjlaamcklhdhaaaGreatDoorQ21
set_option linter.unusedVariables false
set_option linter.unusedSimpArgs false
namespace Go.Proofs.YtjlaamcklhdhaaaGreatDoor.Path
open Go.RowKit Go.Proofs.YtjlaamcklhdhaaaGreatDoorW.PrintWords Go.Proofs.YtjlaamcklhdhaaaGreatDoor.Base
theorem cell_step {w w' : World} {b j:Nat} {v:Value} (h:w.cell? ⟨b,j,none⟩=some v) (hb:Below w.heap.size w w'):w'.cell? ⟨b,j,none⟩=some v:=(hb.cell (World.block_lt_of_cell? w ⟨b,j,none⟩ h)).trans h
theorem sz_sub (s:ByteArray) (a b:Int):(sub s a b).size≤s.size:=extract_le _ _ _
theorem sz_frm (s:ByteArray) (a:Int):(frm s a).size≤s.size:=extract_le _ _ _
theorem sz_nrm (t:Bool) (s:ByteArray):(nrm t s).size≤s.size:=by
 unfold nrm;split
 ·rw[← L_length,L_mk,← L_length];unfold Lib.trimPrefix;split
  ·rw[List.length_drop];omega
  ·exact Nat.le_refl _
 ·exact Nat.le_refl _
section
variable {p:PathV} (O:PathIn p)
include O
theorem sz_path:(nrm p.trim p.s).size≤1000000:=Nat.le_trans (sz_nrm _ _) O.sz
theorem sz_name:(mName p).size≤1000000:=Nat.le_trans (sz_frm _ _) O.sz
theorem sz_nameNoId:(mNameNoId p).size≤1000000:=Nat.le_trans (sz_sub _ _ _) O.sz
theorem sz_idStr (i:Int):(mIdStr p i).size≤1000000:=by
 unfold mIdStr;split
 ·exact Nat.zero_le _
 ·split
  ·exact Nat.le_trans (sz_sub _ _ _) O.sz
  ·exact Nat.zero_le _
theorem sz_dir:(mDir p).size≤1000000:=by
 unfold mDir;refine Nat.le_trans (sz_nrm _ _) ?_;split
 ·exact (by decide:(1:Nat)≤1000000)
 ·exact Nat.le_trans (sz_sub _ _ _) O.sz
theorem sz_nameNoExt:(mNameNoExt p).size≤1000000:=by
 unfold mNameNoExt;split
 ·exact Nat.le_trans (sz_frm _ _) O.sz
 ·exact Nat.le_trans (sz_sub _ _ _) O.sz
theorem sz_before:(mBefore p).size≤1000000:=by
 unfold mBefore;split
 ·exact sz_path O
 ·exact Nat.le_trans (sz_nrm _ _) (Nat.le_trans (sz_sub _ _ _) O.sz)
theorem sz_base0 (a b:Bool):(mBase0 p a b).size≤2000000:=by
 have h:=O.sz;unfold mBase0;split
 ·exact Nat.le_trans (sz_path O) (by decide)
 ·split
  ·exact Nat.le_trans (sz_path O) (by decide)
  ·split
   ·refine Nat.le_trans (sz_nrm _ _) ?_;rw[size_append];have h1:=sz_sub p.s 0 (mHigh p b)
    rename_i k0 _ _ _ _
    have h2:=sz_sub p.s (k0.1 - 1) k0.2;omega
   ·exact Nat.le_trans (sz_nrm _ _) (Nat.le_trans (sz_sub _ _ _) (by omega))
theorem sz_base:(mBase p).size≤2000000:=by
 unfold mBase;split
 ·exact Nat.zero_le _
 ·exact sz_base0 O _ _
end
end Go.Proofs.YtjlaamcklhdhaaaGreatDoor.Path
namespace Go.Proofs.YtjlaamcklhdhaaaGreatDoor.Path
open Go.RowKit Go.Proofs.YtjlaamcklhdhaaaGreatDoorW.PrintWords Go.Proofs.YtjlaamcklhdhaaaGreatDoor.Base Go.Proofs.YtjlaamcklhdhaaaGreatDoor.Lower
theorem norm_47 (c:UInt8):hypB (lowB c)=47↔c=47:=by
 have hn:∀ d:UInt8,d=47↔d.toNat=47:=fun d=>⟨fun h=>by rw[h];rfl,fun h=>UInt8.toNat_inj.1 h⟩
 by_cases h1:65≤c.toNat∧c.toNat≤90
 ·have e1:lowB c=c+32:=by unfold lowB;rw[if_pos h1]
  have e2:(c+32).toNat=c.toNat+32:=by
   rw[UInt8.toNat_add,show (32:UInt8).toNat=32 from rfl];omega
  have e3:c+32≠32:=by
   intro h;have:=congrArg UInt8.toNat h;rw[e2,show (32:UInt8).toNat=32 from rfl] at this;omega
  have e4:hypB (c+32)=c+32:=by unfold hypB;rw[if_neg e3]
  rw[e1,e4,hn,hn,e2];omega
 ·have e1:lowB c=c:=by unfold lowB;rw[if_neg h1]
  rw[e1];unfold hypB
  by_cases h2:c=32
  ·rw[if_pos h2,h2];decide
  ·rw[if_neg h2]
theorem mText_slashes {l:List UInt8} (h:∀ i:Nat,¬ (l[i]? = some 47∧l[i+1]? = some 47)):∀ i:Nat,¬ ((mText l)[i]? = some 47∧(mText l)[i+1]? = some 47):=by
 have hlead:∀ i:Nat,¬ ((mLead l)[i]? = some 47∧(mLead l)[i+1]? = some 47):=by
  intro i;unfold mLead;split
  ·rintro ⟨_,h2⟩;simp at h2
  ·split
   ·exact h i
   ·rename_i h0 h1
    rintro ⟨h2,h3⟩
    cases i with
    | zero =>
     rw[List.getElem?_cons_succ,← List.head?_eq_getElem?] at h3;exact h1 h3
    | succ i =>
     rw[List.getElem?_cons_succ] at h2 h3;exact h i ⟨h2,h3⟩
 intro i;unfold mText;simp only;split
 ·rintro ⟨h2,h3⟩
  have e:∀ k:Nat,(mLead l).dropLast[k]? = some 47→(mLead l)[k]? = some 47:=by
   intro k hk;rw[List.getElem?_dropLast] at hk;split at hk
   ·exact hk
   ·cases hk
  exact hlead i ⟨e _ h2,e _ h3⟩
 ·exact hlead i
theorem norm_slashes {s:ByteArray} (h:∀ i:Nat,¬ ((L s)[i]? = some 47∧(L s)[i+1]? = some 47)):∀ i:Nat,¬ ((L (norm s))[i]? = some 47∧(L (norm s))[i+1]? = some 47):=by
 intro i;rw[L_norm,List.getElem?_map,List.getElem?_map,Option.map_eq_some_iff,Option.map_eq_some_iff];rintro ⟨⟨a,h1,h2⟩,⟨b,h3,h4⟩⟩;rw[(norm_47 a).1 h2] at h1;rw[(norm_47 b).1 h4] at h3;exact h i ⟨h1,h3⟩
theorem eqL {a b:ByteArray} (h:L a=L b):(a.toList==b.toList)=true:=by rw[L_toList,L_toList,h];simp
theorem leadL (b:ByteArray):L ((⟨#[47]⟩:ByteArray)++b)=47::L b:=by rw[L_append];rfl
end Go.Proofs.YtjlaamcklhdhaaaGreatDoor.Path
namespace Go.Proofs.YtjlaamcklhdhaaaGreatDoor.Path
open Go.RowKit Go.Proofs.YtjlaamcklhdhaaaGreatDoorW.PrintWords Go.Proofs.YtjlaamcklhdhaaaGreatDoor.Base Go.Proofs.YtjlaamcklhdhaaaGreatDoor.Total Go.Proofs.YtjlaamcklhdhaaaGreatDoor.Lower
def lowF (l:List UInt8):Nat→Int→Int
 | 0,c=>c
 | i+1,c=>lowF l i (if l[i]? = some 47∧c = -1 then (i:Int)+1 else c)
def secF (l:List UInt8):Nat→Int→Int
 | 0,s=>s
 | i+1,s=>secF l i (if l[i]? = some 47∧0 < i then (i:Int) else s)
def cntF (l:List UInt8):Nat→Nat
 | 0=>0
 | i+1=>cntF l i+(if l[i]? = some 47 then 1 else 0)
theorem doLoop_rest2 {E:Env} {comp:ByteArray} {sk:List Nat} {nd:Int} {l:List UInt8}:∀ (i:Nat) (d:DoV),d.p.cHigh≠-1→d.p.s.data.toList=l →
 (doLoop E comp sk nd i d).p = { d.p with cLow:=lowF l i d.p.cLow,sec:=secF l i d.p.sec }∧(doLoop E comp sk nd i d).sc=d.sc+cntF l i
 | 0,d,_,_=>⟨rfl,rfl⟩
 | i+1,d,h,hl=>by
  have key:(doStep E comp sk nd i d).p = { d.p with cLow:=if l[i]? = some 47∧d.p.cLow = -1 then (i:Int)+1 else d.p.cLow,sec:=if l[i]? = some 47∧0 < i then (i:Int) else d.p.sec }∧(doStep E comp sk nd i d).sc=d.sc+(if l[i]? = some 47 then 1 else 0):=by
   unfold doStep;rw[mId_done h,hl]
   by_cases c1:l[i]? = some 46
   ·have c2:¬ l[i]? = some 47:=by rw[c1];decide
    have n1:¬ (l[i]? = some 47∧d.p.cLow = -1):=fun h=>c2 h.1;have n2:¬ (l[i]? = some 47∧0 < i):=fun h=>c2 h.1;rw[if_pos c1,if_neg n1,if_neg n2,if_neg c2];split <;> exact ⟨rfl,rfl⟩
   ·rw[if_neg c1]
    by_cases c2:l[i]? = some 47
    ·rw[if_pos c2,if_neg h,if_pos c2];refine ⟨?_,rfl⟩;simp only
     by_cases c3:d.p.cLow = -1
     ·have m1:l[i]? = some 47∧d.p.cLow = -1:=⟨c2,c3⟩
      by_cases c4:0 < i
      ·have m2:l[i]? = some 47∧0 < i:=⟨c2,c4⟩
       rw[if_pos c3,if_pos c4,if_pos m1,if_pos m2]
      ·have m2:¬ (l[i]? = some 47∧0 < i):=fun h=>c4 h.2;rw[if_pos c3,if_neg c4,if_pos m1,if_neg m2]
     ·have m1:¬ (l[i]? = some 47∧d.p.cLow = -1):=fun h=>c3 h.2
      by_cases c4:0 < i
      ·have m2:l[i]? = some 47∧0 < i:=⟨c2,c4⟩
       rw[if_neg c3,if_pos c4,if_neg m1,if_pos m2]
      ·have m2:¬ (l[i]? = some 47∧0 < i):=fun h=>c4 h.2;rw[if_neg c3,if_neg c4,if_neg m1,if_neg m2]
    ·have n1:¬ (l[i]? = some 47∧d.p.cLow = -1):=fun h=>c2 h.1;have n2:¬ (l[i]? = some 47∧0 < i):=fun h=>c2 h.1;rw[if_neg c2,if_neg n1,if_neg n2,if_neg c2];exact ⟨rfl,rfl⟩
  obtain ⟨k1,k2⟩:=key;have e:=doLoop_rest2 (E:=E) (comp:=comp) (sk:=sk) (nd:=nd) (l:=l) i (doStep E comp sk nd i d) (by rw[k1];exact h) (by rw[k1];exact hl);show (doLoop E comp sk nd i (doStep E comp sk nd i d)).p=_∧(doLoop E comp sk nd i (doStep E comp sk nd i d)).sc=_;rw[e.1,e.2,k1,k2];refine ⟨rfl,?_⟩;show d.sc+(if l[i]? = some 47 then 1 else 0)+cntF l i=d.sc+(cntF l i+if l[i]? = some 47 then 1 else 0);omega
theorem dStep_sc {E:Env} {comp:ByteArray} {nd:Int}:∀ (cs:List Nat) (d:DoV),(cs.foldl (dStep E comp nd) d).sc=d.sc
 | [],_=>rfl
 | c::cs,d=>dStep_sc cs (dStep E comp nd d c)
theorem wordsP_keeps {E:Env} {comp:ByteArray} {p:PathV} {q:Nat} {n:List UInt8}:Same p (wordsP E comp p q n):=by
 have hD:Same p (wordsD E comp p (q+1) n).p:=dStep_keeps ((sCuts n).reverse.map (q+1 + ·)) ⟨p,0,0⟩;unfold wordsP;split
 ·exact hD.trans (mId_keeps _ _ _ _ _ _ _)
 ·exact hD
theorem mPath_whole (E:Env) (comp s:ByteArray):∃ (T:ByteArray) (q:Nat) (pre n:List UInt8) (d:DoV),L T=mText (L s)∧Split (L T) pre n∧pre.length=q+1∧(L T)[q]? = some 47∧mPath E comp s=mEnd E comp d∧In2 T comp 0 d ∧
 d.p = { wordsP E comp (mStart { pathZero with comp:=comp } T) q n with cHigh:=(q:Int)+1,cLow:=lowF (L T) q (-1),sec:=secF (L T) q (if 0 < q then (q:Int) else -1) }∧d.sc=1+cntF (L T) q:=by
 obtain ⟨T,d,hT,hl,h2,h3,h4,h5⟩:=mPath_parts E comp s;have h0:(L T)[0]? = some 47:=by rw[hl,← List.head?_eq_getElem?];exact mText_head _
 have S:=split_of (L T) ⟨0,h0⟩
 obtain ⟨pre,hpre⟩:∃ x,(L T).take (behind (L T))=x:=⟨_,rfl⟩
 obtain ⟨n,hn⟩:∃ x,(L T).drop (behind (L T))=x:=⟨_,rfl⟩
 rw[hpre,hn] at S;obtain ⟨q,hq⟩:=S.slash;have hpl:pre.length=q.length+1:=by rw[hq];simp
 have h47:(L T)[q.length]? = some 47:=by rw[S.eq,hq,List.append_assoc,List.getElem?_append_right (Nat.le_refl _),Nat.sub_self];rfl
 have hr:=mRun_words (E:=E) (comp:=comp) (p:=mStart { pathZero with comp:=comp } T) S;rw[hpl] at hr
 obtain ⟨D,hD⟩:∃ D,wordsD E comp (mStart { pathZero with comp:=comp } T) (q.length+1) n=D:=⟨_,rfl⟩
 have hD' : ((sCuts n).reverse.map (q.length+1 + ·)).foldl (dStep E comp ((sCuts n).length:Int)) ⟨mStart { pathZero with comp:=comp } T,0,0⟩=D:=hD;rw[hD'] at hr;have hsame:Same (mStart { pathZero with comp:=comp } T) D.p:=by rw[← hD'];exact dStep_keeps ((sCuts n).reverse.map (q.length+1 + ·)) ⟨mStart { pathZero with comp:=comp } T,0,0⟩
 have hsc0:D.sc=0:=by rw[← hD'];exact dStep_sc ((sCuts n).reverse.map (q.length+1 + ·)) ⟨mStart { pathZero with comp:=comp } T,0,0⟩
 have hch:D.p.cHigh = -1:=hsame.cHigh;have hst:D.p.s.data.toList[q.length]? = some 47:=by rw[hsame.s];exact h47
 have hws:=wordsP_keeps (E:=E) (comp:=comp) (p:=mStart { pathZero with comp:=comp } T) (q:=q.length) (n:=n)
 obtain ⟨P,hP⟩:∃ P,wordsP E comp (mStart { pathZero with comp:=comp } T) q.length n=P:=⟨_,rfl⟩
 rw[hP] at hws
 have hP' : (if 0 < D.ld then mId E D.p comp q.length D.ld ((sCuts n).length:Int) true else D.p)=P:=by
  rw[← hP];unfold wordsP;rw[hD]
 have hPc:P.cLow = -1:=hws.cLow;have hPs:P.sec = -1:=hws.sec
 have hstep:(doStep E comp (mSkip (mStart { pathZero with comp:=comp } T).s.data.toList) ((sCuts n).length:Int) q.length D).p = { P with cHigh:=(q.length:Int)+1,sec:=if 0 < q.length then (q.length:Int) else -1 } ∧
  (doStep E comp (mSkip (mStart { pathZero with comp:=comp } T).s.data.toList) ((sCuts n).length:Int) q.length D).sc=1:=by
  unfold doStep;rw[if_neg (by rw[hst];decide),if_pos hst,if_pos hch,hP'];refine ⟨?_,by show D.sc+1=1;rw[hsc0]⟩
  by_cases c:0 < q.length
  ·simp only[if_pos c]
  ·simp only[if_neg c];rw[← hPs]
 obtain ⟨e1,e2⟩:=hstep;have hrest:=doLoop_rest2 (E:=E) (comp:=comp) (sk:=mSkip (mStart { pathZero with comp:=comp } T).s.data.toList) (nd:=((sCuts n).length:Int)) (l:=L T) q.length (doStep E comp (mSkip (mStart { pathZero with comp:=comp } T).s.data.toList) ((sCuts n).length:Int) q.length D) (by rw[e1];show (q.length:Int)+1≠-1;omega) (by rw[e1];show L P.s=L T;rw[hws.s];rfl);have hdd:d=doLoop E comp (mSkip (mStart { pathZero with comp:=comp } T).s.data.toList) ((sCuts n).length:Int) q.length (doStep E comp (mSkip (mStart { pathZero with comp:=comp } T).s.data.toList) ((sCuts n).length:Int) q.length D):=by rw[h5,hr];rfl
 refine ⟨T,q.length,pre,n,d,hl,S,hpl,h47,h2,h3,?_,?_⟩
 ·rw[hdd,hrest.1,e1,hP];show ({ P with cHigh:=(q.length:Int)+1,cLow:=lowF (L T) q.length P.cLow,sec:=_ }:PathV)=_;rw[hPc]
 ·rw[hdd,hrest.2,e2]
section
variable {l:List UInt8}
theorem slB_last {q:Nat} (h:l[q]? = some 47):∀ m:Nat,q < m→(∀ j,q < j→j < m→l[j]?≠some 47)→slB l m=some q
 | 0,hm,_=>by omega
 | m+1,hm,hn=>by
  unfold slB
  by_cases c:m=q
  ·rw[if_pos (by rw[c];exact h),c]
  ·rw[if_neg (hn m (by omega) (by omega))];exact slB_last h m (by omega) (fun j h1 h2=>hn j h1 (by omega))
theorem slB_some:∀ (m:Nat) {j:Nat},slB l m=some j→l[j]? = some 47∧j < m∧∀ i,j < i→i < m→l[i]?≠some 47
 | 0,j,h=>by cases h
 | m+1,j,h=>by
  unfold slB at h;split at h
  ·rename_i hm
   injection h with h
   subst h;exact ⟨hm,by omega,fun i h1 h2=>by omega⟩
  ·rename_i hm
   obtain ⟨a,b,c⟩:=slB_some m h;refine ⟨a,by omega,fun i h1 h2=>?_⟩
   by_cases e:i=m
   ·rw[e];exact hm
   ·exact c i h1 (by omega)
theorem slB_head (h:l[0]? = some 47):∀ m:Nat,0 < m→∃ j,slB l m=some j
 | 0,hm=>by omega
 | m+1,_=>by
  unfold slB;split
  ·exact ⟨_,rfl⟩
  ·rename_i hne
   by_cases c:m=0
   ·subst c;exact absurd h hne
   ·exact slB_head h m (by omega)
theorem lowF_set:∀ (i:Nat) (c:Int),c≠-1→lowF l i c=c
 | 0,_,_=>rfl
 | i+1,c,h=>by
  unfold lowF;rw[if_neg (fun x=>h x.2)];exact lowF_set i c h
theorem lowF_is:∀ (i:Nat),lowF l i (-1)=match slB l i with | some j=>(j:Int)+1 | none=>-1
 | 0=>rfl
 | i+1=>by
  unfold lowF slB
  by_cases c:l[i]? = some 47
  ·rw[if_pos ⟨c,rfl⟩,if_pos c];exact lowF_set i _ (by omega)
  ·rw[if_neg (fun x=>c x.1),if_neg c];exact lowF_is i
theorem secF_is:∀ (i s:Nat),i≤s→1≤s→l[s]? = some 47→(∀ j,i≤j→1≤j→j < s→l[j]?≠some 47)→∃ f:Nat,secF l i (s:Int)=(f:Int)∧1≤f∧f≤s∧l[f]? = some 47∧∀ j,1≤j→j < f→l[j]?≠some 47
 | 0,s,_,h1,h2,h3=>⟨s,rfl,h1,Nat.le_refl _,h2,fun j a b=>h3 j (by omega) a b⟩
 | i+1,s,h0,h1,h2,h3=>by
  unfold secF
  by_cases c:l[i]? = some 47∧0 < i
  ·rw[if_pos c];obtain ⟨f,a1,a2,a3,a4,a5⟩:=secF_is i i (Nat.le_refl _) (by omega) c.1 (fun j b1 b2 b3=>by omega);exact ⟨f,a1,a2,by omega,a4,a5⟩
  ·rw[if_neg c];refine secF_is i s (by omega) h1 h2 (fun j b1 b2 b3=>?_)
   by_cases e:j=i
   ·subst e;exact fun h=>c ⟨h,by omega⟩
   ·exact h3 j (by omega) b2 b3
theorem takeWhile_at:∀ (m:List UInt8) (k:Nat),m[k]? = some 47→(∀ j,j < k→m[j]?≠some 47)→(m.takeWhile fun c=>c != 47)=m.take k
 | [],k,h,_=>by simp at h
 | a::m,0,h,_=>by
  simp only[List.getElem?_cons_zero,Option.some.injEq] at h;subst h;rfl
 | a::m,k+1,h,hn=>by
  have h0:=hn 0 (by omega);simp only[List.getElem?_cons_zero,ne_eq,Option.some.injEq] at h0;rw[List.takeWhile_cons,if_pos (bne_iff_ne.2 h0),List.take_succ_cons,takeWhile_at m k (by simpa using h) (fun j hj=>by have:=hn (j+1) (by omega);simpa using this)]
theorem cntF_take:∀ i:Nat,i≤l.length→cntF l i=cnt47 (l.take i)
 | 0,_=>rfl
 | i+1,h=>by
  have hi:i < l.length:=by omega
  unfold cntF;rw[cntF_take i (by omega),List.take_succ_eq_append_getElem hi];unfold cnt47;rw[List.filter_append,List.length_append,List.getElem?_eq_getElem hi]
  by_cases c:l[i]=47
  ·rw[if_pos (by rw[c]),c];rfl
  ·rw[if_neg (by simpa using c),List.filter_cons,if_neg (by simpa using c)];rfl
theorem cnt47_none {m:List UInt8} (h:∀ j:Nat,m[j]?≠some 47):cnt47 m=0:=by
 unfold cnt47;rw[List.length_eq_zero_iff,List.filter_eq_nil_iff];intro c hc e;obtain ⟨j,hj⟩:=List.mem_iff_getElem?.1 hc;rw[beq_iff_eq] at e;rw[e] at hj;exact h j hj
theorem cnt47_split {q:Nat} {pre n:List UInt8} (S:Split l pre n) (hq:pre.length=q+1) (h0:l[0]? = some 47):cnt47 (l.drop 1)=cntF l q∧(cntF l q=0↔q=0):=by
 have hlen:l.length=q+1+n.length:=by rw[S.eq,List.length_append,hq]
 have e1:cnt47 l=cntF l (q+1):=by
  rw[cntF_take _ (by omega)];have e2:l=l.take (q+1)++n:=by rw[S.eq,← hq,List.take_left]
  have e3:cnt47 l=cnt47 (l.take (q+1))+cnt47 n:=by
   conv=>lhs;rw[e2]
   unfold cnt47;rw[List.filter_append,List.length_append]
  rw[e3,cnt47_none S.no];omega
 obtain ⟨x,hx⟩:=S.slash
 have h47:l[q]? = some 47:=by
  have hxl:x.length=q:=by have:=congrArg List.length hx;simp at this;omega
  rw[S.eq,hx,List.append_assoc,List.getElem?_append_right (by omega),hxl,Nat.sub_self];rfl
 have e4:cntF l (q+1)=cntF l q+1:=by rw[show cntF l (q+1)=cntF l q+(if l[q]? = some 47 then 1 else 0) from rfl,if_pos h47]
 cases l with
 | nil=>cases h0
 | cons a m =>
  have ha:a=47:=by simpa using h0
  have e5:cnt47 (a::m)=1+cnt47 m:=by
   unfold cnt47;rw[List.filter_cons,if_pos (by rw[ha];rfl),List.length_cons];omega
  refine ⟨?_,?_⟩
  ·show cnt47 m=_;omega
  ·constructor
   ·intro h
    by_cases c:q=0
    ·exact c
    ·exfalso;rw[cntF_take q (by omega)] at h
     obtain ⟨k,rfl⟩:∃ k,q=k+1:=⟨q - 1,by omega⟩
     rw[List.take_succ_cons] at h;unfold cnt47 at h;rw[List.filter_cons,if_pos (by rw[ha];rfl)] at h;cases h
   ·rintro rfl;rfl
end
structure RelF (p:PathV) (st:SiteV) (r:RV):Prop where
 ids:r.ids=mIds p
 unk:r.unk=mUnk p
 ix:RelI p p.lang p.fmt p.kind p.cust p.pfmt p.pkind p.play p.plangs (fmt0 st p.comp r.ext) r
 lay:mIdStr p p.lay=r.lay1
 dis:p.dis=r.dis
 ext:mIdStr p 0=r.ext
structure PW (st:SiteV) (T:ByteArray) (q:Nat) (n:List UInt8) (p:PathV) (r:RV) (e:Nat) (sc:Nat) (t:Int):Prop where
 split:∃ pre,Split (L T) pre n∧pre.length=q+1
 head:(L T)[0]? = some 47
 h47:(L T)[q]? = some 47
 no:∀ i:Nat,¬ ((L T)[i]? = some 47∧(L T)[i+1]? = some 47)
 s:p.s=T
 cHigh:p.cHigh=(q:Int)+1
 cLow:p.cLow=lowF (L T) q (-1)
 sec:p.sec=if t=3∧sc=2 then 0 else secF (L T) q (if 0 < q then (q:Int) else -1)
 sc:sc=1+cntF (L T) q
 nLow:p.nLow=(q:Int)+1
 nHigh:p.nHigh=((q+1+e:Nat):Int)
 le:e≤n.length
 rend:rEnd r.marks (n.length:Int)=(e:Int)
 words:(p.known=[]∧sCuts n=[]∧r=rZero∧e=n.length∧(p.lang = -1∧p.fmt = -1∧p.kind = -1∧p.cust = -1∧p.pfmt = -1∧p.pkind = -1∧p.play = -1∧p.lay = -1∧p.plangs=[]∧p.unknown=[]∧p.dis=false)) ∨
  (p.known≠[]∧sCuts n≠[]∧RelF p st r∧0 < e∧r.ext≠⟨#[]⟩∧∃ c:Nat,p.known[0]? = some (((q+1+c+1:Nat):Int),(T.size:Int))∧c < n.length∧n[c]? = some 46∧e≤c)
def tyOf (st:SiteV) (comp T:ByteArray) (n:List UInt8) (r:RV) (e:Nat):Int:=rType st comp (L T) (n.take e) (!r.ids.isEmpty) r.ext r.baseof
theorem pathW {st:SiteV} (SE:SiteE st) (comp s:ByteArray) (K:WordsK (isLay comp) ((mText (L s)).drop (behind (mText (L s))))) (hno:∀ i:Nat,¬ ((L s)[i]? = some 47∧(L s)[i+1]? = some 47)) :
 ∃ (T:ByteArray) (q:Nat) (n:List UInt8) (e sc:Nat),T=⟨(mText (L s)).toArray⟩∧n=(L T).drop (behind (L T)) ∧
  PW st T q n (mPath (envOf st) comp s) (rWords st comp (hasSub (L T) tShort) (lastB T) (sCuts n)) e sc (tyOf st comp T n (rWords st comp (hasSub (L T) tShort) (lastB T) (sCuts n)) e) ∧
  (mPath (envOf st) comp s).typ=tyOf st comp T n (rWords st comp (hasSub (L T) tShort) (lastB T) (sCuts n)) e∧(mPath (envOf st) comp s).comp=comp∧(mPath (envOf st) comp s).trim=false:=by
 obtain ⟨T,q,pre,n,d,hl,S,hpl,h47,hm,hI,hd,hsc⟩:=mPath_whole (envOf st) comp s;have hn:=S.behind;have hTe:T=⟨(mText (L s)).toArray⟩:=L_inj (hl.trans (L_mk _).symm);rw[← hl,hn.1,← hn.2] at K;have hnm:L (lastB T)=n:=by unfold lastB;rw[L_mk,hn.1,← hn.2]
 have h0:(L T)[0]? = some 47:=by rw[hl,← List.head?_eq_getElem?];exact mText_head _
 have hnoT:∀ i:Nat,¬ ((L T)[i]? = some 47∧(L T)[i+1]? = some 47):=by rw[hl];exact mText_slashes hno
 have hsz:T.size=q+1+n.length:=by rw[← L_length,S.eq,List.length_append,hpl]
 obtain ⟨p0,hp0⟩:∃ p0,mStart { pathZero with comp:=comp } T=p0:=⟨_,rfl⟩
 have hp0' : p0 = { pathZero with comp:=comp,s:=T,typ:=if hasSub (L T) tShort then 7 else 0 }:=by rw[← hp0];rfl
 rw[hp0] at hd;have hws:=wordsP_keeps (E:=envOf st) (comp:=comp) (p:=p0) (q:=q) (n:=n)
 obtain ⟨r,hr⟩:∃ r,rWords st comp (hasSub (L T) tShort) (lastB T) (sCuts n)=r:=⟨_,rfl⟩
 obtain ⟨P,hP⟩:∃ P,wordsP (envOf st) comp p0 q n=P:=⟨_,rfl⟩
 rw[hP] at hws hd;have hPs:P.s=T:=by rw[hws.s,hp0']
 have hPt:P.typ=if hasSub (L T) tShort then 7 else 0:=by rw[hws.typ,hp0']
 have hPc:P.comp=comp:=by rw[hws.comp,hp0']
 have hPr:P.trim=false:=by rw[hws.trim,hp0'];rfl
 -- what the words leave
 obtain ⟨e,he1,he2,he3,hW,hb,hst⟩:∃ e:Nat,P.nEnd=(if sCuts n=[] then -1 else ((q+1+e:Nat):Int))∧e≤n.length∧rEnd r.marks (n.length:Int)=(e:Int) ∧
  ((P.known=[]∧sCuts n=[]∧r=rZero∧e=n.length∧P=p0)∨(P.known≠[]∧sCuts n≠[]∧Rel st comp (hasSub (L T) tShort) T P r∧0 < e∧r.ext≠⟨#[]⟩∧∃ c:Nat,P.known[0]? = some (((q+1+c+1:Nat):Int),(T.size:Int))∧c < n.length∧n[c]? = some 46∧e≤c)) ∧
  (r.baseof=(P.base != -1))∧(hasSub (L T) tShort=true→∀ x,P.known[P.lay.toNat]? = some x→P.lay≠-1→(q:Int)+1 < x.1):=by
  obtain ⟨w1,w2⟩:=wordsP_first (E:=envOf st) (comp:=comp) S hpl K (p:=p0) (by rw[hp0']) (by rw[hp0'];rfl) (by rw[hp0'];rfl) (by rw[hp0'];rfl)
  by_cases hc:sCuts n=[]
  ·have hPp:P=p0:=by rw[← hP];exact w1 hc
   have hrz:r=rZero:=by rw[← hr];unfold rWords;rw[if_pos hc]
   have hk0:P.known=[]:=by rw[hPp,hp0'];rfl
   refine ⟨n.length,by rw[if_pos hc,hPp,hp0'];rfl,Nat.le_refl _,by rw[hrz];rfl,.inl ⟨hk0,hc,hrz,rfl,hPp⟩,by rw[hrz,hPp,hp0'];rfl,fun _ x hx _=>by rw[hk0] at hx;cases hx⟩
  ·obtain ⟨R,r1,⟨c,r2,r2'⟩,r3,r4⟩:=words_rel (st:=st) (sc:=hasSub (L T) tShort) S hpl hnm K SE hp0' hc;rw[hP,hr] at R r1;rw[hP] at r4;rw[hr] at r2' r3;obtain ⟨hup,hlt⟩:=sCuts_up S
   have hcpos:0 < c:=by
    have hf:=K.first
    cases hs:sCuts n with
    | nil=>exact absurd hs hc
    | cons a t =>
     rw[hs] at hf r2 hup;have ha:a≠0:=fun h=>hf (by rw[h];rfl);rcases List.mem_cons.1 r2 with h | h
     ·omega
     ·have:=(List.pairwise_cons.1 hup).1 c h;omega
   obtain ⟨c0,hc0⟩:∃ c,(sCuts n).getLast? = some c:=by
    cases h:(sCuts n).getLast? with
    | none=>exact absurd (List.getLast?_eq_none_iff.1 h) hc
    | some c=>exact ⟨c,rfl⟩
   have hcle:c≤c0:=by
    obtain ⟨fr,hfr⟩:=List.getLast?_eq_some_iff.1 hc0;rw[hfr] at r2 hup;rcases List.mem_append.1 r2 with h | h
    ·exact Nat.le_of_lt ((List.pairwise_append.1 hup).2.2 c h c0 (by simp))
    ·rw[List.mem_singleton] at h;omega
   have hH:=w2 c0 hc0;rw[hP] at hH;refine ⟨c,by rw[if_neg hc,r1,r2'];omega,Nat.le_of_lt (hlt c r2),r2',.inr ⟨R.ne,hc,R,hcpos,r3,c0,hH.at_,hlt c0 (List.mem_of_getLast? hc0),(sCutF_dot n _ _ c0 (List.mem_of_getLast? hc0)).2,hcle⟩,R.base,r4⟩
 have hds:d.p.s=T:=by rw[hd];exact hPs
 have hN:(mNamed d.p).nLow=(q:Int)+1∧(mNamed d.p).nHigh=((q+1+e:Nat):Int):=by
  refine ⟨by show d.p.cHigh=_;rw[hd],?_⟩;show (if d.p.cHigh≤d.p.nEnd then d.p.nEnd else (d.p.s.size:Int))=_;rw[hds,hd];show (if (q:Int)+1≤P.nEnd then P.nEnd else (T.size:Int))=_;rw[he1];rcases hW with ⟨_,h,_,h2,_⟩ | ⟨_,h,_⟩
  ·rw[if_pos h,if_neg (by omega),h2,hsz]
  ·rw[if_neg h,if_pos (by omega)]
 have hnmt:L (sub (mNamed d.p).s (mNamed d.p).nLow (mNamed d.p).nHigh)=n.take e:=by
  rw[hN.1,hN.2,show (q:Int)+1=((q+1:Nat):Int) by omega,sub_nat,L_extract];show ((L d.p.s).drop (q+1)).take _=_;rw[hds,S.eq,← hpl,List.drop_left];congr 1;omega
 have hids:r.ids=[]↔d.p.known=[]:=by
  rw[hd];show _↔P.known=[];rcases hW with ⟨h,_,h2,_⟩ | ⟨h,_,R,_⟩
  ·rw[h,h2];simp[rZero]
  ·exact ⟨fun h3=>absurd h3 R.idsNe,fun h3=>absurd h3 h⟩
 have hty:=sorts_typ (st:=st) (comp:=comp) (T:=T) (d:=d) (r:=r) (nm:=n.take e) hds (by rw[hd];exact hPr) (by rw[hd];exact hPc) (by rw[hd];exact hPt) hids
  (by
   intro h;rw[hd] at h ⊢;rcases hW with ⟨h1,_⟩ | ⟨_,_,R,_⟩
   ·exact absurd h1 h
   ·exact R.ext.str)
  (by rw[hd];exact hb)
  (by
   intro h;rw[hd] at h ⊢;show P.base = -1;rcases hW with ⟨_,_,_,_,h1⟩ | ⟨h1,_⟩
   ·rw[h1,hp0'];rfl
   ·exact absurd h h1)
  hnmt
  (by
   rw[hN.1,hN.2];constructor
   ·intro h h2;have:=congrArg List.length h2;rw[List.length_take,List.length_nil] at this;omega
   ·intro h;have:0 < (n.take e).length:=List.length_pos_iff.2 h;rw[List.length_take] at this
    omega)
  (by
   intro hs hlay;rw[hd] at hlay ⊢;show (P.known.getD P.lay.toNat (0,0)).1≠(q:Int)+1;rcases hW with ⟨_,_,_,_,h1⟩ | ⟨_,_,R,_⟩
   ·exfalso;refine hlay ?_;show P.lay = -1;rw[h1,hp0'];rfl
   ·rcases R.layPos with h | h
    ·exact absurd h hlay
    ·have hlt:P.lay.toNat < P.known.length:=by omega
     rw[List.getD_eq_getElem?_getD,List.getElem?_eq_getElem hlt,Option.getD_some];have:=hst hs _ (List.getElem?_eq_getElem hlt) hlay
     omega)
 refine ⟨T,q,n,e,d.sc,hTe,by rw[hn.1,← hn.2],?_⟩;rw[hr,hm,hty];refine ⟨⟨⟨pre,S,hpl⟩,h0,h47,hnoT,hds,by show d.p.cHigh=_;rw[hd],by show d.p.cLow=_;rw[hd],?_,hsc,hN.1,hN.2,he2,he3,?_⟩,rfl,by show d.p.comp=comp;rw[hd];exact hPc,by show d.p.trim=false;rw[hd];exact hPr⟩
 ·show (if _∧_ then (0:Int) else d.p.sec)=_;rw[show d.p.sec=secF (L T) q (if 0 < q then (q:Int) else -1) by rw[hd]];rfl
 ·obtain ⟨F,hF⟩:∃ F:PathV,{ mNamed d.p with typ:=rType st comp (L T) (n.take e) (!r.ids.isEmpty) r.ext r.baseof,sec:=if rType st comp (L T) (n.take e) (!r.ids.isEmpty) r.ext r.baseof=3∧d.sc=2 then 0 else d.p.sec }=F:=⟨_,rfl⟩
  have hFk:F.known=P.known:=by rw[← hF];show d.p.known=_;rw[hd]
  have hFs:F.s=P.s:=by rw[← hF];show d.p.s=_;rw[hd]
  have hFl:F.lay=P.lay:=by rw[← hF];show d.p.lay=_;rw[hd]
  have hFu:F.unknown=P.unknown:=by rw[← hF];show d.p.unknown=_;rw[hd]
  have hFp:F.plangs=P.plangs:=by rw[← hF];show d.p.plangs=_;rw[hd]
  have hFa:F.lang=P.lang∧F.fmt=P.fmt∧F.kind=P.kind∧F.cust=P.cust∧F.pfmt=P.pfmt∧F.pkind=P.pkind∧F.play=P.play∧F.dis=P.dis∧F.comp=P.comp:=by
   rw[← hF];show d.p.lang=_∧d.p.fmt=_∧d.p.kind=_∧d.p.cust=_∧d.p.pfmt=_∧d.p.pkind=_∧d.p.play=_∧d.p.dis=_∧d.p.comp=_;rw[hd];exact ⟨rfl,rfl,rfl,rfl,rfl,rfl,rfl,rfl,rfl⟩
  obtain ⟨a1,a2,a3,a4,a5,a6,a7,a8,a9⟩:=hFa;rw[hF]
  have hstr:∀ i,mIdStr F i=mIdStr P i:=by
   intro i;unfold mIdStr;rw[hFk,hFs]
  rcases hW with ⟨h1,h2,h3,h4,h5⟩ | ⟨h1,h2,R,h3,h4,c,h5,h6⟩
  ·left;rw[hFk,a1,a2,a3,a4,a5,a6,a7,hFl,hFp,hFu,a8];refine ⟨h1,h2,h3,h4,?_⟩;rw[h5,hp0'];exact ⟨rfl,rfl,rfl,rfl,rfl,rfl,rfl,rfl,rfl,rfl,rfl⟩
  ·right;rw[hFk]
   have G:Grown P F:=⟨hFs,.inr (.inr ⟨hFk,hFl⟩)⟩
   have hix:=R.ix.grown G;refine ⟨h1,h2,⟨?_,?_,?_,?_,by rw[a8];exact R.dis,by rw[hstr];exact R.ext.str⟩,h3,h4,c,h5,h6⟩
   ·rw[R.ids];unfold mIds;rw[hFk,hFs]
   ·rw[R.unk];unfold mUnk;rw[hFu,hFs]
   ·rw[a1,a2,a3,a4,a5,a6,a7,hFp,a9,hPc];exact hix
   ·rw[hstr,hFl];rcases R.lay with ⟨h,_,h'⟩ | ⟨_,h,x,hx,h'⟩
    ·rw[h,h'];rfl
    ·unfold mIdStr;rw[if_neg (by omega),hx];exact h'
end Go.Proofs.YtjlaamcklhdhaaaGreatDoor.Path
namespace Go.Proofs.YtjlaamcklhdhaaaGreatDoor.Path
open Go.RowKit Go.Proofs.YtjlaamcklhdhaaaGreatDoorW.PrintWords Go.Proofs.YtjlaamcklhdhaaaGreatDoor.Base Go.Proofs.YtjlaamcklhdhaaaGreatDoor.Total Go.Proofs.YtjlaamcklhdhaaaGreatDoor.Lower
def wV (st:SiteV) (comp T:ByteArray) (n:List UInt8) (r:RV) (e:Nat) (t:Int):WV :=
 { comp:=comp,path:=T,name:=lastB T,nEnd:=e,ids:=r.ids,unk:=r.unk,langs:=r.langs,ext:=r.ext, fmt:=if isLay comp=true∧chooseB r.fmt r.fmt1=⟨#[]⟩∧sCuts n≠[]∧fmtNamed st r.ext=true then r.ext else chooseB r.fmt r.fmt1, kind:=chooseB r.kind r.kind1,lay:=chooseB r.lay r.lay1,lang:=(match r.langs with | []=>r.lang1 | l::_=>l),cust:=r.cust,dis:=r.dis, typ:=t }
theorem nrm_id {b:Bool} {x:ByteArray} (h:(L x).head?≠some 47):nrm b x=x:=by
 unfold nrm;split
 ·refine L_inj ?_;rw[L_mk];unfold Lib.trimPrefix Lib.hasPrefix;rw[if_neg];intro hp;rw[List.isPrefixOf_iff_prefix] at hp;obtain ⟨t,ht⟩:=hp;exact h (by rw[← ht];rfl)
 ·rfl
theorem base0_one {p:PathV} {k0:Int×Int} (h:p.known=[k0]) (b:Bool):mBase0 p true b=nrm p.trim p.s:=by
 unfold mBase0;rw[h];simp
theorem base0_more {p:PathV} {k0 k1:Int×Int} {rest:List (Int×Int)} (h:p.known=k0::k1::rest) {b:Bool}:mBase0 p true b=nrm p.trim (sub p.s 0 (mHigh p b)++sub p.s (k0.1 - 1) k0.2):=by
 unfold mBase0;rw[h];simp
theorem nrm_nil (b:Bool):nrm b ⟨#[]⟩=⟨#[]⟩:=nrm_id (by rw[show L (⟨#[]⟩:ByteArray)=[] from rfl];decide)
section
variable {st:SiteV} {T:ByteArray} {q:Nat} {n:List UInt8} {p:PathV} {r:RV} {e sc:Nat} {t:Int} (P:PW st T q n p r e sc t)
include P
theorem PW.turn {p' : PathV} (h:∃ ty tr,p' = { p with typ:=ty,trim:=tr }):PW st T q n p' r e sc t:=by
 obtain ⟨ty,tr,rfl⟩:=h
 have G:Grown p { p with typ:=ty,trim:=tr }:=⟨rfl,.inr (.inr ⟨rfl,rfl⟩)⟩
 refine ⟨P.split,P.head,P.h47,P.no,P.s,P.cHigh,P.cLow,P.sec,P.sc,P.nLow,P.nHigh,P.le,P.rend,?_⟩;rcases P.words with h | ⟨h1,h2,R,h3⟩
 ·exact .inl h
 ·exact .inr ⟨h1,h2,⟨R.ids,R.unk,R.ix.grown G,R.lay,R.dis,R.ext⟩,h3⟩
theorem PW.size:T.size=q+1+n.length:=by
 obtain ⟨pre,S,hp⟩:=P.split;rw[← L_length,S.eq,List.length_append,hp]
theorem PW.ns (j:Nat) (h:q < j):(L T)[j]?≠some 47:=by
 obtain ⟨pre,S,hp⟩:=P.split;rw[S.eq,List.getElem?_append_right (by omega)];exact S.no _
theorem PW.sl:slB (L T) T.size=some q:=slB_last P.h47 _ (by have:=P.size;omega) (fun j h _=>P.ns j h)
theorem PW.nameL:L (lastB T)=n:=by
 obtain ⟨pre,S,hp⟩:=P.split;unfold lastB;rw[L_mk,S.behind.1,← S.behind.2]
theorem PW.nameZ:(lastB T).size=n.length:=by rw[← L_length,P.nameL]
theorem PW.text (a b:Nat):T.extract (q+1+a) (q+1+b)=(lastB T).extract a b:=by
 obtain ⟨pre,S,hp⟩:=P.split;exact word_text S hp P.nameL a b
theorem PW.name:mName p=lastB T:=by
 obtain ⟨pre,S,hp⟩:=P.split;refine L_inj ?_;unfold mName;rw[P.cHigh,P.s,show (q:Int)+1=((q+1:Nat):Int) by omega,L_frm,P.nameL,← hp,S.eq,List.drop_left]
theorem PW.nameNoId:mNameNoId p=(lastB T).extract 0 e:=by
 unfold mNameNoId;rw[P.nLow,P.nHigh,P.s,show (q:Int)+1=((q+1:Nat):Int) by omega,sub_nat];exact P.text 0 e
theorem PW.dir:mDir p=nrm p.trim (sDir T):=by
 have h:=P.sl;unfold mDir sDir;rw[h]
 cases q with
 | zero=>rw[if_pos (by rw[P.cHigh];rfl)]
 | succ a =>
  rw[if_neg (by rw[P.cHigh];omega),P.cHigh,P.s,show ((a+1:Nat):Int)+1 - 1=((a+1:Nat):Int) by omega];rfl
theorem PW.low {a:Nat} (h:q=a+1):∃ j:Nat,slB (L T) (a+1)=some j∧p.cLow=(j:Int)+1∧j < a∧(L T)[j]? = some 47∧∀ i,j < i→i < a+1→(L T)[i]?≠some 47:=by
 subst h;obtain ⟨j,hj⟩:=slB_head P.head (a+1) (by omega);obtain ⟨h1,h2,h3⟩:=slB_some _ hj;refine ⟨j,hj,?_,?_,h1,h3⟩
 ·rw[P.cLow,lowF_is,hj]
 ·by_cases c:j=a
  ·subst c;exact absurd ⟨h1,P.h47⟩ (P.no j)
  ·omega
theorem PW.low0 (h:q=0):p.cLow = -1:=by subst h;rw[P.cLow];rfl
theorem PW.lastOf {a j:Nat} (h:q=a+1) (h1:(L T)[j]? = some 47) (h2:j < a) (h3:∀ i,j < i→i < a+1→(L T)[i]?≠some 47):lastB (T.extract 0 (a+1))=T.extract (j+1) (a+1):=by
 have hlen:a+1 < (L T).length:=by rw[L_length,P.size];omega
 refine L_inj ?_;have e1:L (T.extract 0 (a+1))=(L T).take (a+1):=by rw[L_extract];rfl
 have S:Split ((L T).take (a+1)) ((L T).take (j+1)) (((L T).take (a+1)).drop (j+1)):=by
  refine ⟨?_,⟨(L T).take j,?_⟩,fun k=>?_⟩
  ·have:=(List.take_append_drop (j+1) ((L T).take (a+1))).symm;rwa[List.take_take,Nat.min_eq_left (by omega)] at this
  ·obtain ⟨g1,g2⟩:=List.getElem?_eq_some_iff.1 h1;rw[List.take_succ_eq_append_getElem g1,g2]
  ·rw[List.getElem?_drop,List.getElem?_take];split
   ·exact h3 _ (by omega) (by omega)
   ·simp
 unfold lastB;rw[L_mk,e1,S.behind.1,L_extract,List.drop_take];congr 2
 all_goals rw[List.length_take];omega
theorem PW.cont:mContainer p=sCont T:=by
 have h:=P.sl;unfold mContainer sCont;rw[h]
 cases q with
 | zero=>rw[if_pos (P.low0 rfl)];rfl
 | succ a =>
  obtain ⟨j,hj,h1,h2,h3,h4⟩:=P.low rfl;rw[if_neg (by omega),h1,P.cHigh,P.s,show ((a+1:Nat):Int)+1 - 1=((a+1:Nat):Int) by omega,show (j:Int)+1=((j+1:Nat):Int) by omega,sub_nat];simp only[];rw[P.lastOf rfl h3 h2 h4];refine nrm_id ?_;rw[L_extract,List.head?_take,if_neg (by omega),List.head?_drop];exact h4 _ (by omega) (by omega)
theorem PW.section_:mSection p=sSec T t:=by
 obtain ⟨pre,S,hp⟩:=P.split;obtain ⟨c1,c2⟩:=cnt47_split S hp P.head;unfold mSection sSec;rw[c1]
 by_cases h0:q=0
 ·have a1:cntF (L T) q=0∨(cntF (L T) q=1∧t=3):=.inl (c2.2 h0)
  have a2:p.sec≤0:=by
   rw[P.sec,h0,if_neg (by omega:¬ 0 < 0)];split
   ·exact Int.le_refl _
   ·show (-1:Int)≤0;decide
  rw[if_pos a2,if_pos a1];rfl
 ·have hne:cntF (L T) q≠0:=fun h=>h0 (c2.1 h);obtain ⟨f,f1,f2,f3,f4,f5⟩:=secF_is (l:=L T) q q (Nat.le_refl _) (by omega) P.h47 (fun j a b c=>by omega)
  by_cases h3:t=3∧sc=2
  ·have a1:cntF (L T) q=0∨(cntF (L T) q=1∧t=3):=.inr ⟨by have:=P.sc;omega,h3.1⟩;have a2:p.sec≤0:=by rw[P.sec,if_pos h3];exact Int.le_refl _
   rw[if_pos a2,if_pos a1];rfl
  ·have hs:p.sec=(f:Int):=by rw[P.sec,if_neg h3,if_pos (by omega),f1]
   have a1:¬ (cntF (L T) q=0∨(cntF (L T) q=1∧t=3)):=by
    rintro (h | ⟨h,h'⟩)
    ·exact hne h
    ·exact h3 ⟨h',by have:=P.sc;omega⟩
   have a2:¬ (p.sec≤0):=by rw[hs];omega
   rw[if_neg a2,if_neg a1,hs,P.s,show (1:Int)=((1:Nat):Int) from rfl,sub_nat]
   have htw:((L T).drop 1).takeWhile (fun c=>c != 47)=((L T).drop 1).take (f - 1):=by
    refine takeWhile_at _ _ ?_ (fun j hj=>?_)
    ·rw[List.getElem?_drop,show 1+(f - 1)=f by omega];exact f4
    ·rw[List.getElem?_drop];exact f5 _ (by omega) (by omega)
   rw[htw];have e1:(⟨(((L T).drop 1).take (f - 1)).toArray⟩:ByteArray)=T.extract 1 f:=L_inj (by rw[L_mk,L_extract]);rw[e1];refine nrm_id ?_;rw[L_extract,List.head?_take];split
   ·simp
   ·rw[List.head?_drop];intro h;exact P.no 0 ⟨P.head,h⟩
theorem PW.high:mHigh p false=((q+1+e:Nat):Int):=by
 unfold mHigh;simp only[Bool.false_eq_true,if_false];rw[P.nHigh,if_neg (by omega)]
theorem PW.cat:T.extract 0 (T.size - (lastB T).size)++(lastB T).extract 0 e=T.extract 0 (q+1+e):=by
 refine L_inj ?_;have hz:=P.size;rw[L_append,P.nameZ,← P.text 0 e,L_extract,L_extract,L_extract,hz,show q+1+n.length - n.length=q+1 by omega,List.drop_zero,Nat.sub_zero,Nat.sub_zero,Nat.add_zero,show q+1+e - (q+1)=e by omega];exact (List.take_add ..).symm
theorem PW.idsNe (h:p.known≠[]):r.ids≠[]:=by
 rcases P.words with ⟨h1,_⟩ | ⟨_,_,R,_⟩
 ·exact absurd h1 h
 ·rw[R.ids];unfold mIds;simpa using h
theorem PW.none (h:p.known=[]):r=rZero∧sCuts n=[]∧e=n.length:=by
 rcases P.words with ⟨_,h1,h2,h3,_⟩ | ⟨h1,_⟩
 ·exact ⟨h2,h1,h3⟩
 ·exact absurd h h1
theorem PW.point (h:p.known≠[]):∃ (c:Nat) (rest:List (Int×Int)),p.known=(((q+1+c+1:Nat):Int),(T.size:Int))::rest∧c < n.length∧r.ext=T.extract (q+1+c+1) T.size∧r.ext.size=n.length - c - 1∧(L T)[q+1+c]? = some 46∧e≤c:=by
 rcases P.words with ⟨h1,_⟩ | ⟨_,_,R,_,_,c,h1,h2,h46,hec⟩
 ·exact absurd h1 h
 ·cases hk:p.known with
  | nil=>exact absurd hk h
  | cons x rest =>
   rw[hk] at h1;injection h1 with h1
   subst h1
   have e1:r.ext=T.extract (q+1+c+1) T.size:=by
    rw[← R.ext];unfold mIdStr;rw[if_neg (by decide),hk,P.s];exact sub_nat _ _ _
   refine ⟨c,rest,rfl,h2,e1,?_,?_,hec⟩;rotate_left
   ·obtain ⟨pre,S,hp⟩:=P.split;rw[S.eq,List.getElem?_append_right (by omega),show q+1+c - pre.length=c by omega];exact h46
   rw[e1,← L_length,L_extract,List.length_take,List.length_drop,L_length,P.size];omega
theorem PW.noId {comp:ByteArray} {ty:Int}:mBase0 p false false=nrm p.trim (wNoId (wV st comp T n r e ty)):=by
 unfold mBase0 wNoId wHead;show _=nrm p.trim (if r.ids=[] then T else T.extract 0 (T.size - (lastB T).size)++(lastB T).extract 0 e)
 cases hk:p.known with
 | nil =>
  obtain ⟨hr,_⟩:=P.none hk;rw[if_pos (by rw[hr];rfl),P.s]
 | cons k0 rest =>
  rw[if_neg (P.idsNe (by rw[hk];simp)),P.cat];simp only[Bool.false_eq_true,false_and,if_false];rw[P.high,P.s];rfl
theorem PW.before {comp:ByteArray} {ty:Int}:mBefore p=nrm p.trim (wBefore (wV st comp T n r e ty) T):=by
 unfold mBefore wBefore;show _=nrm p.trim (if r.ids=[] then T else T.extract 0 (T.size - r.ext.size - 1))
 cases hk:p.known with
 | nil =>
  obtain ⟨hr,_⟩:=P.none hk;rw[if_pos (by rw[hr];rfl),P.s]
 | cons k0 rest =>
  have hne:p.known≠[]:=by rw[hk];simp
  obtain ⟨c,rest',h1,h2,h3,h4,_⟩:=P.point hne;rw[hk] at h1;injection h1 with h1 _
  rw[if_neg (P.idsNe hne),h1,h4,P.s];show nrm p.trim (sub T 0 (((q+1+c+1:Nat):Int) - 1))=_;rw[show ((q+1+c+1:Nat):Int) - 1=((q+1+c:Nat):Int) by omega,show (0:Int)=((0:Nat):Int) from rfl,sub_nat,P.size];congr 2;omega
theorem PW.withExt (h:p.known≠[]):∃ k0 rest,p.known=k0::rest∧sub p.s 0 (mHigh p false)++sub p.s (k0.1 - 1) k0.2=T.extract 0 (T.size - (lastB T).size)++(lastB T).extract 0 e++⟨#[46]⟩++r.ext:=by
 obtain ⟨c,rest,h1,h2,h3,h4,hdot,_⟩:=P.point h;refine ⟨_,rest,h1,?_⟩;rw[P.cat,P.high,P.s];show sub T 0 ((q+1+e:Nat):Int)++sub T (((q+1+c+1:Nat):Int) - 1) (T.size:Int)=_;rw[show ((q+1+c+1:Nat):Int) - 1=((q+1+c:Nat):Int) by omega,show (0:Int)=((0:Nat):Int) from rfl,sub_nat,sub_nat,h3];refine L_inj ?_;rw[L_append,L_append,L_append,List.append_assoc];congr 1;rw[L_extract,L_extract];have hlt:q+1+c < (L T).length:=by rw[L_length,P.size];omega
 rw[List.take_of_length_le (by rw[List.length_drop,L_length];omega),List.take_of_length_le (by rw[List.length_drop,L_length];omega),List.drop_eq_getElem_cons hlt];rw[List.getElem?_eq_getElem hlt] at hdot;injection hdot with hdot
 rw[hdot];rfl
theorem PW.oneKnown:r.ids.length=p.known.length:=by
 rcases P.words with ⟨h1,_,h2,_⟩ | ⟨_,_,R,_⟩
 ·rw[h1,h2];rfl
 ·rw[R.ids];unfold mIds;rw[List.length_map]
theorem PW.pathNe (x:ByteArray) (hx:∃ k,L x=(L T).take k) (b:Bool):L (nrm b x)=[47]→b=false∧L x=[47]:=by
 intro h;obtain ⟨k,hk⟩:=hx
 cases b with
 | false=>exact ⟨rfl,h⟩
 | true =>
  exfalso;unfold nrm at h;rw[if_pos rfl,L_mk,hk] at h
  cases k with
  | zero=>rw[List.take_zero] at h;cases h
  | succ k =>
   have h0:=P.head
   cases hl:L T with
   | nil=>rw[hl] at h0;cases h0
   | cons a m =>
    rw[hl] at h0 h;simp only[List.getElem?_cons_zero,Option.some.injEq] at h0;subst h0;rw[List.take_succ_cons] at h;unfold Lib.trimPrefix Lib.hasPrefix at h;rw[if_pos (by rw[List.isPrefixOf_iff_prefix];exact ⟨_,rfl⟩)] at h;have h2:(m.take k)=[47]:=h
    have h3:m[0]? = some 47:=by
     have:=congrArg (fun l=>l[0]?) h2;simp only[List.getElem?_cons_zero] at this;rw[List.getElem?_take] at this;split at this
     ·exact this
     ·cases this
    exact P.no 0 ⟨by rw[hl];rfl,by rw[hl];exact h3⟩
theorem PW.base {comp:ByteArray}:mBase p=nrm p.trim (wBase (wV st comp T n r e p.typ)):=by
 unfold mBase wBase;show (if _ then _ else _)=nrm p.trim (if r.ids=[] then (if T=⟨#[47]⟩∧2≤p.typ∧p.typ≤5 then ⟨#[]⟩ else T) else if isBun p.typ=true then (if sDir T=⟨#[47]⟩ then ⟨#[]⟩ else sDir T) else if p.typ=2 then wNoId (wV st comp T n r e p.typ) else if r.ids.length=1 then T else wNoId (wV st comp T n r e p.typ)++⟨#[46]⟩++r.ext)
 have hone:∀ x:ByteArray,x=⟨#[47]⟩↔L x=[47]:=fun x=>⟨fun h=>by rw[h];rfl,fun h=>L_inj (by rw[h];rfl)⟩
 have empt:(ByteArray.empty:ByteArray)=nrm p.trim ⟨#[]⟩:=by rw[nrm_nil];rfl
 have take:∀ (x:ByteArray) (k:Nat),x=T.extract 0 k→∃ k,L x=(L T).take k:=by
  rintro x k rfl;exact ⟨k,by rw[L_extract];rfl⟩
 have whole:∃ k,L T=(L T).take k:=⟨(L T).length,(List.take_of_length_le (Nat.le_refl _)).symm⟩
 -- whatever the base is: where it is not / alone,or it is no page
 have key:∀ (B0 x y:ByteArray),B0=nrm p.trim x→(∃ k,L x=(L T).take k)→(2≤p.typ∧p.typ≤5)→y=(if L x=[47] then ⟨#[]⟩ else x)→(if B0.toList=[47]∧2≤p.typ∧p.typ≤5 then ByteArray.empty else B0)=nrm p.trim y:=by
  rintro B0 x y rfl hx hc rfl;rw[L_toList]
  by_cases h:L x=[47]
  ·rw[if_pos h,← empt]
   by_cases h2:L (nrm p.trim x)=[47]
   ·rw[if_pos ⟨h2,hc⟩]
   ·rw[if_neg (fun hh=>h2 hh.1)]
    cases hb:p.trim with
    | false=>rw[hb] at h2;exact absurd h h2
    | true =>
     refine L_inj ?_;unfold nrm;rw[if_pos rfl,L_mk,h];rfl
  ·rw[if_neg h,if_neg (fun hh=>h (P.pathNe x hx _ hh.1).2)]
 cases hk:p.known with
 | nil =>
  obtain ⟨hr,_⟩:=P.none hk
  have hb:∀ a b,mBase0 p a b=nrm p.trim T:=by
   intro a b;unfold mBase0;rw[hk,P.s]
  have a1:r.ids=[]:=by rw[hr];rfl
  rw[if_pos a1,hb]
  by_cases hc:2≤p.typ∧p.typ≤5
  ·refine key _ T _ rfl whole hc ?_
   by_cases h:L T=[47]
   ·rw[if_pos h,if_pos ⟨(hone T).2 h,hc⟩]
   ·rw[if_neg h,if_neg (fun hh=>h ((hone T).1 hh.1))]
  ·rw[if_neg (fun h=>hc h.2:¬ ((nrm p.trim T).toList=[47]∧2≤p.typ∧p.typ≤5)),if_neg (fun h=>hc h.2:¬ (T=⟨#[47]⟩∧2≤p.typ∧p.typ≤5))]
 | cons k0 rest =>
  have hne:p.known≠[]:=by rw[hk];simp
  have a1:¬ (r.ids=[]):=P.idsNe hne;rw[if_neg a1]
  by_cases hc:2≤p.typ∧p.typ≤5
  ·have e1:(!decide (2≤p.typ∧p.typ≤5))=false:=by rw[decide_eq_true hc];rfl
   rw[e1]
   by_cases hbn:3≤p.typ∧p.typ≤5
   ·have e2:decide (3≤p.typ∧p.typ≤5)=true:=decide_eq_true hbn;rw[e2,if_pos (show isBun p.typ=true from e2)]
    have hb:mBase0 p false true=nrm p.trim (T.extract 0 (if q=0 then 1 else q)):=by
     unfold mBase0;rw[hk];simp only[Bool.false_eq_true,false_and,if_false];unfold mHigh;simp only[if_true];rw[P.cHigh,P.s,show (q:Int)+1 - 1=(q:Int) by omega]
     by_cases h0:q=0
     ·rw[if_pos (by omega),if_pos h0];rfl
     ·rw[if_neg (by omega),if_neg h0];rfl
    refine key _ (T.extract 0 (if q=0 then 1 else q)) _ hb (take _ _ rfl) hc ?_
    have hd:sDir T=if q=0 then ⟨#[47]⟩ else T.extract 0 q:=by
     unfold sDir;rw[P.sl]
     cases q with
     | zero=>rfl
     | succ a=>rfl
    by_cases h0:q=0
    ·rw[if_pos h0] at hd;rw[if_pos h0,hd,if_pos rfl,if_pos];have hlt:0 < (L T).length:=by rw[L_length,P.size];omega
     rw[L_extract,List.drop_zero];have hh:=P.head
     cases hl:L T with
     | nil=>rw[hl] at hlt;simp at hlt
     | cons a m =>
      rw[hl] at hh;simp only[List.getElem?_cons_zero,Option.some.injEq] at hh;rw[hh];rfl
    ·rw[if_neg h0] at hd;rw[if_neg h0,hd]
     have hne2:L (T.extract 0 q)≠[47]:=by
      intro h
      obtain ⟨a,ha⟩:∃ a,q=a+1:=⟨q - 1,by omega⟩
      obtain ⟨j,_,_,h2,_⟩:=P.low ha;have:=congrArg List.length h;rw[L_extract,List.length_take,List.length_drop,L_length,P.size] at this
      simp at this
      omega
     rw[if_neg hne2,if_neg (fun h=>hne2 ((hone _).1 h))]
   ·have e2:decide (3≤p.typ∧p.typ≤5)=false:=decide_eq_false hbn;rw[e2,if_neg (show ¬ (isBun p.typ=true) by unfold isBun;rw[e2];decide),if_pos (by omega:p.typ=2)]
    have hw:wNoId (wV st comp T n r e p.typ)=T.extract 0 (q+1+e):=by
     unfold wNoId;show (if r.ids=[] then T else wHead _++_)=_;rw[if_neg (P.idsNe hne)];exact P.cat
    refine key _ (T.extract 0 (q+1+e)) _ ?_ (take _ _ rfl) hc ?_
    ·rw[P.noId (comp:=comp) (ty:=p.typ),hw]
    ·have hpos:0 < e:=by
      rcases P.words with ⟨h1,_⟩ | ⟨_,_,_,h,_⟩
      ·exact absurd h1 hne
      ·exact h
     rw[hw,if_neg];intro h;have:=congrArg List.length h;rw[L_extract,List.length_take,List.length_drop,L_length,P.size] at this;have hle:=P.le
     simp at this
     omega
  ·have e1:(!decide (2≤p.typ∧p.typ≤5))=true:=by rw[decide_eq_false hc];rfl
   have e2:decide (3≤p.typ∧p.typ≤5)=false:=decide_eq_false (fun h=>hc ⟨by omega,h.2⟩);have b1:¬ ((mBase0 p (!decide (2≤p.typ∧p.typ≤5)) (decide (3≤p.typ∧p.typ≤5))).toList=[47]∧2≤p.typ∧p.typ≤5):=fun h=>hc h.2;have b2:¬ (isBun p.typ=true):=by unfold isBun;rw[e2];decide
   have b3:¬ (p.typ=2):=fun h=>hc (by omega);rw[if_neg b1,if_neg b2,if_neg b3,e1,e2,P.oneKnown];obtain ⟨k0',rest',hk',hw⟩:=P.withExt hne;rw[hk] at hk';injection hk' with h1 h2
   subst h1 h2
   cases rest with
   | nil =>
    have b4:p.known.length=1:=by rw[hk];rfl
    rw[if_pos b4,base0_one hk,P.s]
   | cons k1 rest =>
    have b4:¬ (p.known.length=1):=by rw[hk];simp
    rw[if_neg b4,base0_more hk,hw];unfold wNoId;show _=nrm p.trim ((if r.ids=[] then T else wHead _++_)++_++_);rw[if_neg a1];rfl
theorem PW.langIs:mLang p=(match r.langs with | []=>r.lang1 | l::_=>l)∧((p.plangs≠[]∨mIdx p p.lang≠-1)↔(match r.langs with | []=>r.lang1 | l::_=>l)≠⟨#[]⟩)∧((p.plangs≠[]∨mIdx p p.lang≠-1)→2≤p.known.length):=by
 unfold mLang;rcases P.words with ⟨h1,_,hr,_,h2,_,_,_,_,_,_,_,h3,_⟩ | ⟨h1,_,R,_⟩
 ·rw[h3,h2,hr];refine ⟨rfl,⟨?_,fun h=>absurd rfl h⟩,?_⟩
  ·rintro (h | h)
   ·exact absurd rfl h
   ·exact absurd (by unfold mIdx;rw[if_pos (.inl (by decide))]) h
  ·rintro (h | h)
   ·exact absurd rfl h
   ·exact absurd (by unfold mIdx;rw[if_pos (.inl (by decide))]) h
 ·have I:=R.ix
  cases hp:p.plangs with
  | nil =>
   have hl:r.langs=[]:=by rw[I.langs,hp];rfl
   rw[hl];refine ⟨I.lang.str,?_,?_⟩
   ·simp only[ne_eq,not_true_eq_false,false_or];rcases I.lang with ⟨h2,h3⟩ | ⟨h2,h3⟩
    ·rw[h2,h3];exact ⟨fun h=>absurd (by unfold mIdx;rw[if_pos (.inl (by decide))]) h,fun h=>absurd rfl h⟩
    ·obtain ⟨g0,_,x,g1,_⟩:=h2;have:=(List.getElem?_eq_some_iff.1 g1).1;refine ⟨fun _=>h3,fun _=>?_⟩;unfold mIdx;rw[if_neg (by omega)];omega
   ·rintro (h | h)
    ·exact absurd rfl h
    ·unfold mIdx at h;split at h
     ·exact absurd rfl h
     ·rename_i hh
      have:=I.pos.1;omega
  | cons i rest =>
   have hl:r.langs=mIdStr p i::rest.map (mIdStr p):=by rw[I.langs,hp];rfl
   rw[hl];refine ⟨rfl,⟨fun _=>I.lne _ (by rw[hl];exact List.mem_cons_self ..),fun _=>.inl (by simp)⟩,fun _=>?_⟩;obtain ⟨g0,_,x,g1,_⟩:=I.pl i (by rw[hp];exact List.mem_cons_self ..);have:=(List.getElem?_eq_some_iff.1 g1).1;have:=I.pos.2 i (by rw[hp];exact List.mem_cons_self ..);omega
theorem PW.noLang {comp:ByteArray} {ty:Int}:mNoLang p=nrm p.trim (wNoLang (wV st comp T n r e ty)):=by
 obtain ⟨h1,h2,h3⟩:=P.langIs;unfold mNoLang wNoLang;show _=nrm p.trim (if (match r.langs with | []=>r.lang1 | l::_=>l)=⟨#[]⟩ then T else T.extract 0 (T.size - (lastB T).size)++(lastB T).extract 0 e++⟨#[46]⟩++r.ext)
 by_cases c:p.plangs≠[]∨mIdx p p.lang≠-1
 ·have hlen:=h3 c;have hne:p.known≠[]:=by intro h;rw[h] at hlen;simp at hlen
  obtain ⟨k0,rest,hk,hw⟩:=P.withExt hne;have a1:¬ ((match r.langs with | []=>r.lang1 | l::_=>l)=⟨#[]⟩):=h2.1 c;rw[if_pos c,if_neg a1,← hw]
  cases rest with
  | nil=>rw[hk] at hlen;simp at hlen
  | cons k1 rest=>exact base0_more hk
 ·rw[if_neg c,if_pos (by
   by_cases h:(match r.langs with | []=>r.lang1 | l::_=>l)=⟨#[]⟩
   ·exact h
   ·exact absurd (h2.2 h) c),P.s]
theorem PW.extIs:mIdStr p 0=r.ext:=by
 rcases P.words with ⟨h1,_,hr,_⟩ | ⟨_,_,R,_⟩
 ·rw[hr];unfold mIdStr;rw[if_neg (by decide),h1];rfl
 ·exact R.ext
theorem PW.lists:mIds p=r.ids∧mUnk p=r.unk∧mLangs p=r.langs∧p.dis=r.dis:=by
 rcases P.words with ⟨h1,h2,hr,_,_,_,_,_,_,_,_,_,h3,h4,h5⟩ | ⟨h1,h2,R,_⟩
 ·unfold mIds mUnk mLangs;rw[h1,h3,h4,h5,hr];exact ⟨rfl,rfl,rfl,rfl⟩
 ·exact ⟨R.ids.symm,R.unk.symm,R.ix.langs.symm,R.dis⟩
end
theorem siteE {st:SiteV} {comp s:ByteArray} (K:PathKS st comp s):SiteE st where
 lang:=by
  intro w h hw;subst hw
  have key:∀ l:List ByteArray,(∀ x∈l,SWord x)→listed l ⟨#[]⟩=true→False:=by
   intro l hl h;unfold listed at h;rw[List.any_eq_true] at h;obtain ⟨x,hx,he⟩:=h;rw[beq_iff_eq,L_toList,L_toList] at he;have h1:=(hl x hx).pos;rw[L_inj he] at h1;exact absurd h1 (by decide)
  rw[Bool.or_eq_true] at h;rcases h with h | h
  ·exact key _ K.site.langs h
  ·exact key _ K.site.dis h
 fmt:=by
  intro w h hw;subst hw;unfold fmtNamed at h;rw[List.any_eq_true] at h;obtain ⟨x,hx,he⟩:=h;rw[beq_iff_eq,L_toList,L_toList] at he;have h1:=(K.site.fmts (mkF x) (List.mem_map_of_mem hx)).1.pos;have h2:(mkF x).f0=⟨#[]⟩:=L_inj he;rw[h2] at h1;exact absurd h1 (by decide)
end Go.Proofs.YtjlaamcklhdhaaaGreatDoor.Path
namespace Go.Proofs.YtjlaamcklhdhaaaGreatDoor.Path
open Go.RowKit Go.Proofs.YtjlaamcklhdhaaaGreatDoorW.PrintWords Go.Proofs.YtjlaamcklhdhaaaGreatDoor.Base Go.Proofs.YtjlaamcklhdhaaaGreatDoor.Total Go.Proofs.YtjlaamcklhdhaaaGreatDoor.Ext Go.Proofs.YtjlaamcklhdhaaaGreatDoor.PCore
theorem holds_calls (s t:ByteArray) (r:Bool) (w:World) (hs:s.size≤140737488355328) (ht:t.size≤140737488355328) (ht0:0 < t.size) (hr:inside (L t) (L s)=r) :
 Calls Tryz.prog 20 #[.string s,.string t] w fun e w'=>e = .returned (.bool r)∧Below w.heap.size w w':=by
 obtain ⟨k,hk⟩:=(ev_holds s t hs ht ht0).rounds
 exact (laws_holds.calls k s t r w (by rw[hk,hr])).mono fun _ _ ⟨h1,h2⟩=>⟨h1,h2.below⟩
theorem ends_some (s t:ByteArray) (hs:s.size≤140737488355328) (ht:t.size≤140737488355328):laws_ends.f s t=some ((L t).isSuffixOf (L s)):=by
 unfold laws_ends.f
 have e:∀ r:Bool,(r=true↔(L t) <:+ (L s))→(L t).isSuffixOf (L s)=r:=by
  intro r h;rw[Bool.eq_iff_iff,List.isSuffixOf_iff_suffix,h]
 by_cases c:(s.size:Int)≥(t.size:Int)
 ·rw[if_pos c,w64 (by omega) (by omega),if_pos (by omega),if_pos (by omega)];refine congrArg some (e _ ?_).symm;have hl:=L_length s;have hlt:=L_length t;rw[L_toList,L_toList,L_extract,beq_iff_eq,show ((s.size:Int) - (t.size:Int)).toNat=s.size - t.size by omega,List.take_of_length_le (by rw[List.length_drop];omega)];constructor
  ·intro h;rw[← h];exact List.drop_suffix _ _
  ·intro h;have:=List.suffix_iff_eq_drop.1 h;rw[hl,hlt] at this;exact this.symm
 ·rw[if_neg c];refine congrArg some (e _ ?_).symm;refine ⟨(fun h=>by cases h),fun h=>?_⟩;have:=h.length_le;rw[L_length,L_length] at this;omega
theorem ends_calls (s t:ByteArray) (r:Bool) (w:World) (hs:s.size≤140737488355328) (ht:t.size≤140737488355328) (hr:(L t).isSuffixOf (L s)=r) :
 Calls Tryz.prog 17 #[.string s,.string t] w fun e w'=>e = .returned (.bool r)∧Below w.heap.size w w' :=
 (laws_ends.calls s t _ w (by rw[ends_some s t hs ht,hr])).mono fun _ _ ⟨h1,h2⟩=>⟨h1,h2.below⟩
theorem begins_is (s t:ByteArray) (r:Bool) (w:World) (hr:(L t).isPrefixOf (L s)=r):Calls Tryz.prog 18 #[.string s,.string t] w fun e w'=>e = .returned (.bool r)∧Below w.heap.size w w':=by
 rw[← hr];exact begins_calls s t w
end Go.Proofs.YtjlaamcklhdhaaaGreatDoor.Path
namespace Go.Proofs.YtjlaamcklhdhaaaGreatDoor.Ext
open Go.RowKit Go.Proofs.YtjlaamcklhdhaaaGreatDoorW.PrintWords Go.Proofs.YtjlaamcklhdhaaaGreatDoor.Base
def ptR:List UInt8→Bool
 | []=>false
 | c::r=>if c=46 then true else if c=47 then false else ptR r
def ext (l:List UInt8):Bool:=ptR l.reverse
theorem ptR_app (a b:List UInt8) (h:∀ c∈a,c≠47):ptR (a++47::b)=ptR a:=by
 induction a with
 | nil=>simp[ptR]
 | cons c a ih =>
  have:=h c (by simp);simp only[List.cons_append,ptR,if_neg this];split
  ·rfl
  ·exact ih fun c hc=>h c (by simp[hc])
theorem ext_joined (a b:List UInt8) (h:∀ c∈b,c≠47):ext (a++47::b)=ext b:=by
 unfold ext;rw[List.reverse_append,List.reverse_cons,List.append_assoc];exact ptR_app b.reverse _ (fun c hc=>h c (by simpa using hc))
end Go.Proofs.YtjlaamcklhdhaaaGreatDoor.Ext
namespace Go.Proofs.YtjlaamcklhdhaaaGreatDoor.Path
open Go.RowKit Go.Proofs.YtjlaamcklhdhaaaGreatDoorW.PrintWords Go.Proofs.YtjlaamcklhdhaaaGreatDoor.Base Go.Proofs.YtjlaamcklhdhaaaGreatDoor.Total Go.Proofs.YtjlaamcklhdhaaaGreatDoor.Lower Go.Proofs.YtjlaamcklhdhaaaGreatDoor.Ext
theorem low_PW {st:SiteV} {comp s:ByteArray} {p:PathV} (K:PathKS st comp s) (hp:mPath (envOf st) comp (norm s)=p):∃ (T:ByteArray) (q:Nat) (n:List UInt8) (e sc:Nat) (r:RV),PW st T q n p r e sc p.typ∧p.trim=false∧p.comp=comp ∧
 r=rWords st comp (hasSub (L T) tShort) (lastB T) (sCuts n)∧L T=mText (L (norm s)):=by
 have W:=K.low;unfold pathOf at W;simp only[Bool.false_eq_true,if_false] at W;rw[L_mk] at W;obtain ⟨T,q,n,e,sc,hT,hn,P,ht,hc,htr⟩:=pathW (siteE K) comp (norm s) W (norm_slashes K.slashes);rw[hp] at P ht hc htr;rw[← ht] at P;exact ⟨T,q,n,e,sc,_,P,htr,hc,rfl,by rw[hT,L_mk]⟩
section
variable {st:SiteV} {T:ByteArray} {q:Nat} {n:List UInt8} {p:PathV} {r:RV} {e sc:Nat} {t:Int} (P:PW st T q n p r e sc t)
include P
theorem PW.nameS:L (mName p)=n:=by rw[P.name];exact P.nameL
theorem PW.nameT:L (mName p)=(L T).drop (q+1):=by
 obtain ⟨pre,S,hp⟩:=P.split;rw[P.nameS,S.eq,← hp,List.drop_left]
theorem PW.noSlash:∀ c∈n,c≠47:=by
 obtain ⟨pre,S,hp⟩:=P.split;intro c hc h;obtain ⟨j,hj⟩:=List.mem_iff_getElem?.1 hc;rw[h] at hj;exact S.no j hj
theorem PW.factsExt:(p.known=[]∧mIdStr p 0=⟨#[]⟩∧mNameNoExt p=mName p∧inside [46] n=false) ∨
 (p.known≠[]∧L (mName p)=L (mNameNoExt p)++46::L (mIdStr p 0)∧(∃ rest,mIds p=mIdStr p 0::rest)∧inside [46] n=true):=by
 by_cases hk:p.known=[]
 ·left;obtain ⟨hr,hc,he⟩:=P.none hk;refine ⟨hk,by rw[P.extIs,hr];rfl,?_,?_⟩
  ·unfold mNameNoExt;rw[hk];rfl
  ·rw[inside_one,decide_eq_false_iff_not];intro hm;obtain ⟨j,hj⟩:=List.mem_iff_getElem?.1 hm;exact sCutF_none n _ 0 (by omega) hc j (Nat.zero_le _) hj
 ·right;obtain ⟨c,rest,h1,h2,h3,h4,h5,h6⟩:=P.point hk;have hx:=P.extIs
  have hdot:n[c]? = some 46:=by
   rw[← P.nameS,P.nameT,List.getElem?_drop];exact h5
  have hne:L (mNameNoExt p)=n.take c:=by
   unfold mNameNoExt;rw[h1,P.cHigh,P.s];show L (sub T ((q:Int)+1) (((q+1+c+1:Nat):Int) - 1))=_;rw[show (q:Int)+1=((q+1+0:Nat):Int) by omega,show ((q+1+c+1:Nat):Int) - 1=((q+1+c:Nat):Int) by omega,sub_nat,P.text 0 c,L_extract,P.nameL];rfl
  have he:L (mIdStr p 0)=n.drop (c+1):=by
   rw[hx,h3,L_extract,← P.nameS,P.nameT,List.drop_drop,List.take_of_length_le (by rw[List.length_drop,L_length];omega)];congr 1
  refine ⟨hk,?_,⟨rest.map fun x=>sub p.s x.1 x.2,?_⟩,?_⟩
  ·rw[hne,he,P.nameS];exact list_split hdot
  ·unfold mIds;rw[h1];show sub p.s _ _::_=_;congr 1;unfold mIdStr;rw[if_neg (by decide),h1];rfl
  ·rw[inside_one,decide_eq_true_iff];exact List.mem_of_getElem? hdot
theorem PW.factsLess:(L (mNameNoExt p)).isPrefixOf (L (mName p))=true∧(L (mNameNoId p)).isPrefixOf (L (mName p))=true∧(p.known≠[]→(mNameNoId p).size≤(mNameNoExt p).size):=by
 have hid:L (mNameNoId p)=n.take e:=by rw[P.nameNoId,L_extract,P.nameL];rfl
 refine ⟨?_,?_,?_⟩
 ·rw[List.isPrefixOf_iff_prefix];rcases P.factsExt with ⟨_,_,h,_⟩ | ⟨_,h,_⟩
  ·rw[h];exact List.prefix_refl _
  ·rw[h];exact List.prefix_append _ _
 ·rw[List.isPrefixOf_iff_prefix,hid,P.nameS];exact List.take_prefix _ _
 ·intro hk;obtain ⟨c,rest,h1,h2,h3,h4,h5,h6⟩:=P.point hk
  have hne:L (mNameNoExt p)=n.take c:=by
   unfold mNameNoExt;rw[h1,P.cHigh,P.s];show L (sub T ((q:Int)+1) (((q+1+c+1:Nat):Int) - 1))=_;rw[show (q:Int)+1=((q+1+0:Nat):Int) by omega,show ((q+1+c+1:Nat):Int) - 1=((q+1+c:Nat):Int) by omega,sub_nat,P.text 0 c,L_extract,P.nameL];rfl
  rw[← L_length,← L_length,hid,hne,List.length_take,List.length_take];omega
theorem PW.factsHas:ext (L T)=inside [46] n:=by
 obtain ⟨pre,S,hp⟩:=P.split;obtain ⟨x,hx⟩:=S.slash;rw[S.eq,hx,List.append_assoc];show ext (x++47::n)=_;rw[ext_joined x n P.noSlash]
 have key:∀ l:List UInt8,(∀ c∈l,c≠47)→ptR l=decide ((46:UInt8)∈l):=by
  intro l
  induction l with
  | nil=>intro _;rfl
  | cons a l ih =>
   intro h;unfold ptR
   by_cases c:a=46
   ·rw[if_pos c,c];simp
   ·rw[if_neg c,if_neg (h a (by simp)),ih (fun x hx=>h x (by simp[hx]))];rw[Bool.eq_iff_iff,decide_eq_true_iff,decide_eq_true_iff,List.mem_cons];exact ⟨.inr,fun h=>h.resolve_left (fun e=>c e.symm)⟩
 unfold ext;rw[key _ (fun c hc=>P.noSlash c (List.mem_reverse.1 hc)),inside_one];rw[Bool.eq_iff_iff,decide_eq_true_iff,decide_eq_true_iff,List.mem_reverse]
theorem PW.factsSec (htr:p.trim=false):((mSection p).toList=[]∧((mDir p).toList=[47]∨(t=3∧slB (L (mDir p)) (mDir p).size=some 0))) ∨
 ((mSection p).toList≠[]∧(47::L (mSection p)).isPrefixOf (L (mDir p))=true∧inside [47] (L (mSection p))=false∧((mDir p).size=1+(mSection p).size∨(1+(mSection p).size < (mDir p).size∧(L (mDir p))[1+(mSection p).size]? = some 47))):=by
 have hd:=P.dir;rw[htr] at hd;have hd:mDir p=sDir T:=hd
 have hdq:sDir T=if q=0 then ⟨#[47]⟩ else T.extract 0 q:=by
  unfold sDir;rw[P.sl]
  cases q with
  | zero=>rfl
  | succ a=>rfl
 obtain ⟨pre,S,hp⟩:=P.split;obtain ⟨c1,c2⟩:=cnt47_split S hp P.head;have hs:=P.section_;rw[hs,hd,hdq,L_toList,L_toList]
 by_cases h0:q=0
 ·left;rw[if_pos h0];refine ⟨?_,.inl rfl⟩;unfold sSec;rw[c1,if_pos (.inl (c2.2 h0))];rfl
 ·rw[if_neg h0];have hlt:q < (L T).length:=by rw[L_length,P.size];omega
  have hz:(T.extract 0 q).size=q:=by rw[← L_length,L_extract,List.length_take,List.drop_zero];omega
  have hL:L (T.extract 0 q)=(L T).take q:=by rw[L_extract];rfl
  have hne:cntF (L T) q≠0:=fun h=>h0 (c2.1 h);obtain ⟨f,f1,f2,f3,f4,f5⟩:=secF_is (l:=L T) q q (Nat.le_refl _) (by omega) P.h47 (fun j a b c=>by omega)
  by_cases h3:t=3∧sc=2
  ·left;refine ⟨?_,.inr ⟨h3.1,?_⟩⟩
   ·unfold sSec;rw[c1,if_pos (.inr ⟨by have:=P.sc;omega,h3.1⟩)];rfl
   ·rw[hz,hL];refine slB_last ?_ _ (by omega) (fun j g1 g2=>?_)
    ·rw[List.getElem?_take,if_pos (by omega)];exact P.head
    ·rw[List.getElem?_take,if_pos g2];intro h47
     -- then there are two slashes ahead of the last one
     have hc:cntF (L T) q=1:=by have:=P.sc;omega
     rw[cntF_take q (by omega)] at hc
     have e1:(L T).take q=(L T).take j++((L T).drop j).take (q - j):=by
      rw[← List.take_add];congr 1;omega
     rw[e1] at hc;unfold cnt47 at hc;rw[List.filter_append,List.length_append] at hc
     have e2:0 < (((L T).take j).filter fun c=>c==47).length:=by
      refine List.length_pos_iff.2 (List.ne_nil_of_mem (a:=47) ?_);rw[List.mem_filter];refine ⟨List.mem_of_getElem? (i:=0) ?_,rfl⟩;rw[List.getElem?_take,if_pos g1];exact P.head
     have e3:0 < ((((L T).drop j).take (q - j)).filter fun c=>c==47).length:=by
      refine List.length_pos_iff.2 (List.ne_nil_of_mem (a:=47) ?_);rw[List.mem_filter];refine ⟨List.mem_of_getElem? (i:=0) ?_,rfl⟩;rw[List.getElem?_take,if_pos (by omega),List.getElem?_drop];exact h47
     omega
  ·right
   have htw:((L T).drop 1).takeWhile (fun c=>c != 47)=((L T).drop 1).take (f - 1):=by
    refine takeWhile_at _ _ ?_ (fun j hj=>?_)
    ·rw[List.getElem?_drop,show 1+(f - 1)=f by omega];exact f4
    ·rw[List.getElem?_drop];exact f5 _ (by omega) (by omega)
   have hsL:L (sSec T t)=((L T).drop 1).take (f - 1):=by
    unfold sSec
    rw[c1,if_neg (by
     rintro (h | ⟨h,h'⟩)
     ·exact hne h
     ·exact h3 ⟨h',by have:=P.sc;omega⟩),L_mk,htw]
   have hsz:(sSec T t).size=f - 1:=by rw[← L_length,hsL,List.length_take,List.length_drop];omega
   have hf2:2≤f:=by
    by_cases h:f=1
    ·exfalso;exact P.no 0 ⟨P.head,by have h4:=f4;rw[h] at h4;exact h4⟩
    ·omega
   refine ⟨?_,?_,?_,?_⟩
   ·intro h;have:=congrArg List.length h;rw[L_length,hsz,List.length_nil] at this;omega
   ·rw[hsL,hL,List.isPrefixOf_iff_prefix]
    have hh:L T=47::(L T).drop 1:=by
     have:=P.head
     cases hl:L T with
     | nil=>rw[hl] at this;cases this
     | cons a m=>rw[hl] at this;simp at this;rw[this];rfl
    have e1:(47:UInt8)::((L T).drop 1).take (f - 1)=(L T).take f:=by
     conv=>rhs;rw[hh]
     rw[show f=(f - 1)+1 by omega,List.take_succ_cons];rfl
    rw[e1];exact List.take_prefix_take_left (by omega)
   ·rw[hsL,inside_one,decide_eq_false_iff_not];intro hm;obtain ⟨j,hj⟩:=List.mem_iff_getElem?.1 hm;rw[List.getElem?_take] at hj;split at hj
    ·rw[List.getElem?_drop] at hj;exact f5 _ (by omega) (by omega) hj
    ·cases hj
   ·rw[hsz,hz,hL]
    by_cases hfq:f=q
    ·left;omega
    ·right;refine ⟨by omega,?_⟩;have e9:1+(f - 1)=f:=by omega
     rw[e9,List.getElem?_take,if_pos (by omega)];exact f4
theorem PW.factsBase (htr:p.trim=false) (h0:p.typ=0) (hk:p.known≠[]):((46:UInt8)::L (mIdStr p 0)).isSuffixOf (L (mBase p))=true∧(L (mDir p)).isPrefixOf (L (mBase p))=true:=by
 have hb:=P.base (comp:=p.comp);have hd:=P.dir;rw[htr] at hb hd;have hb:mBase p=wBase (wV st p.comp T n r e p.typ):=hb;have hd:mDir p=sDir T:=hd;have hx:=P.extIs;obtain ⟨c,rest,h1,h2,h3,h4,h5,h6⟩:=P.point hk
 have hdq:∃ k,L (sDir T)=(L T).take k∧k≤q+1:=by
  unfold sDir;rw[P.sl]
  cases q with
  | zero =>
   refine ⟨1,?_,by omega⟩;have:=P.head
   cases hl:L T with
   | nil=>rw[hl] at this;cases this
   | cons a m=>rw[hl] at this;simp at this;rw[this];rfl
  | succ a=>exact ⟨a+1,by rw[L_extract];rfl,by omega⟩
 obtain ⟨k,hk1,hk2⟩:=hdq
 have hbase:mBase p=T∨mBase p=T.extract 0 (q+1+e)++⟨#[46]⟩++r.ext:=by
  have hw:wNoId (wV st p.comp T n r e 0)=T.extract 0 (q+1+e):=by
   unfold wNoId;show (if r.ids=[] then T else T.extract 0 (T.size - (lastB T).size)++(lastB T).extract 0 e)=_;rw[if_neg (P.idsNe hk),P.cat]
  have hb2:mBase p=if r.ids.length=1 then T else wNoId (wV st p.comp T n r e 0)++⟨#[46]⟩++r.ext:=by
   rw[hb,h0];unfold wBase;show (if r.ids=[] then _ else if isBun 0=true then _ else if (0:Int)=2 then _ else if r.ids.length=1 then T else wNoId (wV st p.comp T n r e 0)++⟨#[46]⟩++r.ext)=_;have c1:¬ (isBun 0=true):=by decide
   have c2:¬ ((0:Int)=2):=by decide
   rw[if_neg (P.idsNe hk),if_neg c1,if_neg c2]
  rw[hb2,hw];split
  ·exact .inl rfl
  ·exact .inr rfl
 have hext:L r.ext=(L T).drop (q+1+c+1):=by
  rw[h3,L_extract,List.take_of_length_le (by rw[List.length_drop,L_length];omega)]
 rw[hx,hd,List.isSuffixOf_iff_suffix,List.isPrefixOf_iff_prefix];rcases hbase with h | h
 ·rw[h,hk1];refine ⟨?_,List.take_prefix _ _⟩;rw[hext];have:=list_split h5;exact ⟨(L T).take (q+1+c),this.symm⟩
 ·rw[h,L_append,L_append,hk1,L_extract];refine ⟨⟨List.take (q+1+e - 0) (List.drop 0 (L T)),by rw[List.append_assoc];rfl⟩,?_⟩;rw[List.append_assoc,List.drop_zero,Nat.sub_zero];exact (List.take_prefix_take_left (by omega)).trans (List.prefix_append _ _)
end
end Go.Proofs.YtjlaamcklhdhaaaGreatDoor.Path
namespace Go.Proofs.YtjlaamcklhdhaaaGreatDoor.Path
open Go.RowKit Go.Proofs.YtjlaamcklhdhaaaGreatDoorW.PrintWords Go.Proofs.YtjlaamcklhdhaaaGreatDoor.Base Go.Proofs.YtjlaamcklhdhaaaGreatDoor.Total Go.Proofs.YtjlaamcklhdhaaaGreatDoor.Lower Go.Proofs.YtjlaamcklhdhaaaGreatDoor.Ext
section
variable {st:SiteV} {comp s:ByteArray} {p:PathV} (K:PathKS st comp s) (hp:mPath (envOf st) comp (norm s)=p)
include K hp
theorem kExt:(p.known=[]∧mIdStr p 0=⟨#[]⟩∧mNameNoExt p=mName p∧inside [46] (L (mName p))=false) ∨
 (p.known≠[]∧L (mName p)=L (mNameNoExt p)++46::L (mIdStr p 0)∧(∃ rest,mIds p=mIdStr p 0::rest)∧inside [46] (L (mName p))=true):=by
 obtain ⟨T,q,n,e,sc,r,P,_⟩:=low_PW K hp;have h:=P.factsExt;rwa[← P.nameS] at h
theorem kLess:(L (mNameNoExt p)).isPrefixOf (L (mName p))=true∧(L (mNameNoId p)).isPrefixOf (L (mName p))=true∧(p.known≠[]→(mNameNoId p).size≤(mNameNoExt p).size):=by
 obtain ⟨T,q,n,e,sc,r,P,_⟩:=low_PW K hp;exact P.factsLess
theorem kHas:ext (L (nrm p.trim p.s))=inside [46] (L (mName p))∧inside [46] (L (mName p))=decide (0 < p.known.length):=by
 obtain ⟨T,q,n,e,sc,r,P,htr,_⟩:=low_PW K hp;have h:=P.factsHas;rw[htr,P.s,P.nameS];refine ⟨h,?_⟩;rcases P.factsExt with ⟨h1,_,_,h2⟩ | ⟨h1,_,_,h2⟩
 ·rw[h2,h1];rfl
 ·rw[h2,decide_eq_true (List.length_pos_iff.2 h1)]
theorem kSec:((mSection p).toList=[]∧((mDir p).toList=[47]∨(p.typ=3∧slB (L (mDir p)) (mDir p).size=some 0))) ∨
 ((mSection p).toList≠[]∧(47::L (mSection p)).isPrefixOf (L (mDir p))=true∧inside [47] (L (mSection p))=false∧((mDir p).size=1+(mSection p).size∨(1+(mSection p).size < (mDir p).size∧(L (mDir p))[1+(mSection p).size]? = some 47))):=by
 obtain ⟨T,q,n,e,sc,r,P,htr,_⟩:=low_PW K hp;exact P.factsSec htr
theorem kBase (h0:p.typ=0) (hk:p.known≠[]):((46:UInt8)::L (mIdStr p 0)).isSuffixOf (L (mBase p))=true∧(L (mDir p)).isPrefixOf (L (mBase p))=true:=by
 obtain ⟨T,q,n,e,sc,r,P,htr,_⟩:=low_PW K hp;exact P.factsBase htr h0 hk
end
end Go.Proofs.YtjlaamcklhdhaaaGreatDoor.Path
namespace Go.Proofs.YtjlaamcklhdhaaaGreatDoor.Path
open Go.RowKit Go.Proofs.YtjlaamcklhdhaaaGreatDoorW.PrintWords Go.Proofs.YtjlaamcklhdhaaaGreatDoor.Base Go.Proofs.YtjlaamcklhdhaaaGreatDoor.Lower
theorem mPath_text {E:Env} {comp a b:ByteArray} (h:mText (L a)=mText (L b)):mPath E comp a=mPath E comp b:=by
 unfold mPath mDo;have h' : mText a.data.toList=mText b.data.toList:=h;rw[h']
theorem mLead_slash {l:List UInt8} (h:l.head?≠some 47):mLead (47::l)=mLead l:=by
 unfold mLead;rw[if_neg (by simp),if_pos (by rfl)]
 by_cases c:l=[]
 ·rw[if_pos c,c]
 ·rw[if_neg c,if_neg h]
theorem norm_head {s:ByteArray} (h:(L s).head?≠some 47):(L (norm s)).head?≠some 47:=by
 rw[L_norm]
 cases hl:L s with
 | nil=>simp
 | cons a r =>
  rw[hl] at h;simp only[List.map_cons,List.head?_cons,ne_eq,Option.some.injEq] at h ⊢;exact fun e=>h ((norm_47 a).1 e)
theorem slash_ahead {E:Env} {comp s:ByteArray} (h:(L s).head?≠some 47):mPath E comp (norm (⟨#[47]⟩++s))=mPath E comp (norm s):=by
 refine mPath_text ?_
 have e:L (norm (⟨#[47]⟩++s))=47::L (norm s):=by
  rw[L_norm,L_norm,leadL,List.map_cons,(norm_47 47).2 rfl]
 rw[e];unfold mText;rw[mLead_slash (norm_head h)]
theorem low_low (c:UInt8):lowB (lowB c)=lowB c:=by
 by_cases h:65≤c.toNat∧c.toNat≤90
 ·have e1:lowB c=c+32:=by unfold lowB;rw[if_pos h]
  have e2:(c+32).toNat=c.toNat+32:=by
   rw[UInt8.toNat_add,show (32:UInt8).toNat=32 from rfl];omega
  rw[e1];unfold lowB;rw[if_neg (by rw[e2];omega)]
 ·have e1:lowB c=c:=by unfold lowB;rw[if_neg h]
  rw[e1,e1]
theorem norm_low (s:ByteArray):norm (low s)=norm s:=by
 refine L_inj ?_;rw[L_norm,L_norm,L_low,List.map_map];refine List.map_congr_left (fun c _=>?_);show hypB (lowB (lowB c))=_;rw[low_low]
def PathV.as (c:ByteArray) (p:PathV):PathV:={ p with comp:=c }
section
variable {E:Env} {c k:ByteArray} (h1:isLay c=isLay k) (h2:isCon c=isCon k)
include h1 h2 in
include h1 h2 in
def DoV.as (c:ByteArray) (d:DoV):DoV:={ d with p:=d.p.as c }
include h1 h2 in
include h1 h2 in
include h1 in
include h1 h2 in
end
end Go.Proofs.YtjlaamcklhdhaaaGreatDoor.Path
