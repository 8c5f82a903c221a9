/- Texts that the law leans on: Cuts, First, Spec. Condition: as told at each. -/
import Derived.Test.YtbkobfoaphcamaaGreatDoorQa
import Derived.Test.YtbkobfoaphcamaaGreatDoorQ18
set_option linter.unusedVariables false
set_option linter.unusedSimpArgs false
namespace Go.Proofs.YtbkobfoaphcamaaGreatDoor.Path
open Go.RowKit Go.Proofs.YtbkobfoaphcamaaGreatDoorW.PrintWords Go.Proofs.YtbkobfoaphcamaaGreatDoor.Base Go.Proofs.YtbkobfoaphcamaaGreatDoor.Total
theorem zT:∀ (a b:List Nat) (x:Nat),(∀ d∈a,d < x)→kS (a++b) x=kS b x
 | [],_,_,_=>rfl
 | d::a,b,x,h=>by
  have h1:=h d bL;show (if d=x then true else if x < d then false else kS (a++b) x)=_;rw[if_neg bA,if_neg bA];exact zT a b x (fun y hy=>h y (by simp[hy]))
theorem xX:∀ (a:List Nat) (x:Nat),(∀ d∈a,x < d)→kS a x=false
 | [],_,_=>rfl
 | d::a,x,h=>by
  have h1:=h d bL;show (if d=x then true else if x < d then false else kS a x)=_;rw[if_neg bA,if_pos h1]
theorem aBw:∀ (a b:List Nat) (x:Nat),a.Pairwise (· < ·)→x∈a→kS (a++b) x=true
 | [],_,_,_,h=>by cases h
 | d::a,b,x,hp,h=>by
  rw[List.pairwise_cons] at hp;show (if d=x then true else if x < d then false else kS (a++b) x)=true
  by_cases c:d=x
  ·rw[if_pos c]
  rcases List.mem_cons.1 h with h | h
  ·exact absurd h.symm c
  have:=hp.1 x h;rw[if_neg c,if_neg bA];exact aBw a b x hp.2 h
theorem uL {l:List UInt8} {a n x:Nat}:x∈kE l a n↔(a≤x∧x < a+n)∧l[x]? = some 46:=by
 unfold kE;rw[List.mem_filter,List.mem_range'_1,beq_iff_eq]
theorem aGq (l:List UInt8) (a n:Nat):(kE l a n).Pairwise (· < ·):=by
 unfold kE;exact List.Pairwise.filter _ List.pairwise_lt_range'
theorem aAh (pre n:List UInt8):∀ (g k:Nat),lH (pre++n) g (pre.length+k)=(lH n g k).map (pre.length + ·)
 | 0,_=>rfl
 | g+1,k=>by
  have e1:(pre++n)[pre.length+k]? = n[k]?:=by rw[List.getElem?_append_right bA,Nat.add_sub_cancel_left]
  have e2:(pre++n)[pre.length+k+1]? = n[k+1]?:=by rw[Nat.add_assoc,List.getElem?_append_right bA,Nat.add_sub_cancel_left]
  rw[lH,lH,e1,e2,List.length_append]
  by_cases c1:n[k]? = some 47
  ·rw[if_pos c1,if_pos c1];rfl
  rw[if_neg c1,if_neg c1]
  by_cases c2:n[k]? = some 95∧(n.length≤k+1∨n[k+1]? = some 46)
  ·rw[if_pos c2,if_pos ⟨c2.1,by rcases c2.2 with h | h <;> first | exact .inr h | (left;omega)⟩];rfl
  rw[if_neg c2,if_neg (fun h=>c2 ⟨h.1,by rcases h.2 with h | h <;> first | exact .inr h | (left;omega)⟩)];exact aAh pre n g (k+1)
theorem aHl (pre n:List UInt8) (k:Nat):qC (pre++n) (pre.length+k)=(qC n k).map (pre.length + ·):=by
 unfold qC;rw[List.length_append,Nat.add_sub_add_left];exact aAh pre n _ k
theorem vE (l:List UInt8):∀ (g i x:Nat),x∈skF l g i→i≤x
 | 0,_,_,h=>by cases h
 | g+1,i,x,h=>by
  rw[skF] at h;split at h
  ·cases h
  split at h
  ·split at h
   ·rename_i e he
    have hl:=qD l _ _ _ he;rcases List.mem_append.1 h with h | h
    ·have:=(uL.1 h).1;omega
    have:=vE l g (e+1) x h;omega
   have:=vE l g (i+1) x h;omega
  have:=vE l g (i+1) x h;omega
theorem nO (c:UInt8) (r:List UInt8):iN (c::r)=(if c=46 then 1 else 0)+iN r:=by
 unfold iN;rw[List.filter_cons]
 by_cases h:c=46
 ·rw[if_pos h,h];simp;omega
 rw[if_neg h];simp[h]
theorem tS (a b:List UInt8):iN (a++b)=iN a+iN b:=by
 unfold iN;rw[List.filter_append,List.length_append]
theorem wB (pre n:List UInt8) (a:Nat):∀ m,a+m≤n.length→(kE (pre++n) (pre.length+a) m).length=iN ((n.drop a).take m)
 | 0,_=>by simp[kE,iN]
 | m+1,h=>by
  have ih:=wB pre n a m bA;have hi:m < (n.drop a).length:=by rw[List.length_drop];omega
  unfold kE at ih ⊢;rw[List.range'_concat,List.filter_append,List.length_append,ih,List.take_succ_eq_append_getElem hi,tS];congr 1
  have e1:(pre++n)[pre.length+a+1 * m]? = some (n.drop a)[m]:=by
   rw[Nat.one_mul,Nat.add_assoc,List.getElem?_append_right bA,Nat.add_sub_cancel_left,← List.getElem?_drop,List.getElem?_eq_getElem hi]
  rw[List.filter_cons,List.filter_nil,e1,nO]
  by_cases c:(n.drop a)[m]=46
  ·rw[if_pos c,c];rfl
  have hq:((some (n.drop a)[m]:Option UInt8)==some 46)=false:=by simpa using c
  rw[if_neg c,if_neg (by rw[hq];decide)];rfl
section
variable {pre n:List UInt8}
theorem aFq:∀ (d i g1 g2:Nat),n.length - i≤d→n.length - i≤g1→n.length - i≤g2 →
 kM n g1 i=(List.range' i (n.length - i)).filter (fun k=>n[k]? == some 46 && !kS (skF (pre++n) g2 (pre.length+i)) (pre.length+k)) ∧
 iN (n.drop i)=(kM n g1 i).length+(skF (pre++n) g2 (pre.length+i)).length:=by
 have out:∀ (i g1 g2:Nat),n.length≤i→kM n g1 i=[]∧skF (pre++n) g2 (pre.length+i)=[]:=by
  intro i g1 g2 h;constructor
  ·cases g1 with
   | zero=>rfl
   | succ g=>rw[kM,if_pos h]
  cases g2 with
  | zero=>rfl
  | succ g=>rw[skF,if_pos (by rw[List.length_append];omega)]
 intro d
 induction d with
 | zero =>
  intro i g1 g2 h1 _ _;obtain ⟨e1,e2⟩:=out i g1 g2 bA;rw[e1,e2,show n.length - i=0 by omega,List.drop_of_length_le bA];exact ⟨rfl,rfl⟩
 | succ d ih =>
  intro i g1 g2 h1 h2 h3
  by_cases hi:n.length≤i
  ·obtain ⟨e1,e2⟩:=out i g1 g2 hi;rw[e1,e2,show n.length - i=0 by omega,List.drop_of_length_le bA];exact ⟨rfl,rfl⟩
  obtain ⟨g1,rfl⟩:∃ g,g1=g+1:=⟨g1 - 1,aR⟩
  obtain ⟨g2,rfl⟩:∃ g,g2=g+1:=⟨g2 - 1,aR⟩
  have hi' : i < n.length:=by omega
  have ei:(pre++n)[pre.length+i]? = n[i]?:=by rw[List.getElem?_append_right bA,Nat.add_sub_cancel_left]
  have ei1:(pre++n)[pre.length+i+1]? = n[i+1]?:=by rw[Nat.add_assoc,List.getElem?_append_right bA,Nat.add_sub_cancel_left]
  have hgi:n[i]? = some n[i]:=List.getElem?_eq_getElem hi'
  have hr:List.range' i (n.length - i)=i::List.range' (i+1) (n.length - (i+1)):=by
   rw[show n.length - i=(n.length - (i+1))+1 by omega,List.range'_succ]
  have hd:n.drop i=n[i]::n.drop (i+1):=List.drop_eq_getElem_cons hi'
  -- no wrapper begins here
  have plain:skF (pre++n) (g2+1) (pre.length+i)=skF (pre++n) g2 (pre.length+(i+1))→(n[i]? = some 46→nM n i=i+1) →
   kM n (g1+1) i=(List.range' i (n.length - i)).filter (fun k=>n[k]? == some 46 && !kS (skF (pre++n) (g2+1) (pre.length+i)) (pre.length+k)) ∧
   iN (n.drop i)=(kM n (g1+1) i).length+(skF (pre++n) (g2+1) (pre.length+i)).length:=by
   intro hs hn;obtain ⟨e1,e2⟩:=ih (i+1) g1 g2 bA bA bA;rw[hs,hr,hd,List.filter_cons,nO,kM,if_neg hi];have hsk:kS (skF (pre++n) g2 (pre.length+(i+1))) (pre.length+i)=false:=xX _ _ (fun x hx=>by have:=vE _ _ _ _ hx;omega);rw[hsk,hgi]
   by_cases c:n[i]=46
   ·rw[if_pos (by rw[c]),if_pos (by rw[c];rfl),hn (by rw[hgi,c]),if_pos c,List.length_cons,e2];exact ⟨by rw[e1],aR⟩
   rw[if_neg (by simpa using c),if_neg (by simpa using c),if_neg c,e2];exact ⟨e1,aR⟩
  by_cases ho:opens (pre++n) (pre.length+i)=true
  ·have ho':=ho;unfold opens at ho';simp only[Bool.and_eq_true,beq_iff_eq,decide_eq_true_eq,List.length_append] at ho';obtain ⟨o1,o2,o3⟩:=ho';rw[ei] at o2;rw[ei1] at o3;have hw:=aHl pre n (i+2);rw[← Nat.add_assoc] at hw
   cases he:qC n (i+2) with
   | none =>
    rw[he] at hw;refine plain ?_ (fun _=>?_)
    ·rw[skF,if_neg (by rw[List.length_append];omega),if_pos ho,hw];rfl
    unfold nM;rw[if_pos o3,he]
   | some e =>
    obtain ⟨hle,hlt⟩:=qD n _ _ _ he;rw[he] at hw
    have hs:skF (pre++n) (g2+1) (pre.length+i)=kE (pre++n) (pre.length+(i+2)) (e - (i+2))++skF (pre++n) g2 (pre.length+(e+1)):=by
     rw[skF,if_neg (by rw[List.length_append];omega),if_pos ho,hw];show kE (pre++n) (pre.length+i+2) (pre.length+e - (pre.length+i+2))++skF (pre++n) g2 (pre.length+e+1)=_;rw[show pre.length+e - (pre.length+i+2)=e - (i+2) by omega];rfl
    have hn:nM n i=e+1:=by unfold nM;rw[if_pos o3,he]
    obtain ⟨e1,e2⟩:=ih (e+1) g1 g2 bA bA bA;have hge:∀ x∈skF (pre++n) g2 (pre.length+(e+1)),pre.length+(e+1)≤x:=fun x hx=>vE _ _ _ _ hx
    have hdl:∀ x∈kE (pre++n) (pre.length+(i+2)) (e - (i+2)),pre.length+(i+2)≤x∧x < pre.length+e:=by
     intro x hx;have:=(uL.1 hx).1;omega
    rw[hs,kM,if_neg hi,if_pos o2,hn];constructor
    ·
     have hsp:List.range' i (n.length - i)=i::(List.range' (i+1) (e - i)++List.range' (e+1) (n.length - (e+1))):=by
      rw[hr,show n.length - (i+1)=(e - i)+(n.length - (e+1)) by omega,← List.range'_append_1,show i+1+(e - i)=e+1 by omega]
     rw[hsp,List.filter_cons,List.filter_append]
     have hsk:kS (kE (pre++n) (pre.length+(i+2)) (e - (i+2))++skF (pre++n) g2 (pre.length+(e+1))) (pre.length+i)=false:=by
      refine xX _ _ (fun x hx=>?_);rcases List.mem_append.1 hx with hx | hx
      ·have:=hdl x hx;omega
      have:=hge x hx;omega
     rw[hsk,o2,if_pos (show ((some (46:UInt8)==some 46 && !false)=true) from rfl)]
     have hmid:(List.range' (i+1) (e - i)).filter (fun k=>n[k]? == some 46 && !kS (kE (pre++n) (pre.length+(i+2)) (e - (i+2))++skF (pre++n) g2 (pre.length+(e+1))) (pre.length+k))=[]:=by
      rw[List.filter_eq_nil_iff];intro k hk hc;rw[List.mem_range'_1] at hk;simp only[Bool.and_eq_true,beq_iff_eq,Bool.not_eq_true'] at hc;obtain ⟨c1,c2⟩:=hc;have hk1:k≠i+1:=by intro h;subst h;rw[o3] at c1;cases c1
      have hke:k≠e:=by
       intro h;subst h
       have h95:n[k]? = some 95:=by
        have:∀ (g q:Nat),lH n g q=some k→n[k]? = some 95:=by
         intro g
         induction g with
         | zero=>intro q h;cases h
         | succ g ihg =>
          intro q h;rw[lH] at h;split at h
          ·cases h
          split at h
          ·rename_i hh
           injection h with h
           subst h;exact hh.1
          exact ihg _ h
        exact this _ _ he
       rw[h95] at c1;cases c1
      have hm:pre.length+k∈kE (pre++n) (pre.length+(i+2)) (e - (i+2)):=by
       rw[uL];refine ⟨aR,?_⟩;rw[List.getElem?_append_right bA,Nat.add_sub_cancel_left];exact c1
      rw[aBw _ _ _ (aGq _ _ _) hm] at c2;cases c2
     rw[hmid,List.nil_append,e1];congr 1;refine List.filter_congr (fun k hk=>?_);rw[List.mem_range'_1] at hk;rw[zT _ _ _ (fun x hx=>by have:=hdl x hx;omega)]
    rw[List.length_cons,List.length_append,wB pre n (i+2) (e - (i+2)) bA]
    have hsplit:n.drop i=n[i]::n[i+1]' bA::((n.drop (i+2)).take (e - (i+2))++n[e]::n.drop (e+1)):=by
     rw[hd,List.drop_eq_getElem_cons (by omega:i+1 < n.length)];congr 2;have:=(List.take_append_drop (e - (i+2)) (n.drop (i+2))).symm;rw[List.drop_drop,show i+2+(e - (i+2))=e by omega,List.drop_eq_getElem_cons hlt] at this;exact this
    have c0:n[i]=46:=by rw[hgi] at o2;injection o2
    have c1:n[i+1]' bA=95:=by rw[List.getElem?_eq_getElem bA] at o3;injection o3
    have ce:n[e]=95:=by
     have:∀ (g q:Nat),lH n g q=some e→n[e]? = some 95:=by
      intro g
      induction g with
      | zero=>intro q h;cases h
      | succ g ihg =>
       intro q h;rw[lH] at h;split at h
       ·cases h
       split at h
       ·rename_i hh
        injection h with h
        subst h;exact hh.1
       exact ihg _ h
     have h9:=this _ _ he;rw[List.getElem?_eq_getElem hlt] at h9;injection h9
    rw[hsplit,nO,nO,tS,nO,c0,c1,ce,e2];simp only[if_true,show ¬ ((95:UInt8)=46) by decide,if_false];omega
  refine plain ?_ (fun h46=>?_)
  ·rw[skF,if_neg (by rw[List.length_append];omega),if_neg ho];rfl
  unfold nM
  by_cases c:n[i+1]? = some 95
  ·rw[if_pos c]
   have:¬ (i+2 < n.length):=by
    intro hlt;refine ho ?_;unfold opens;rw[ei,ei1,h46,c,List.length_append,decide_eq_true bA];rfl
   have hw:qC n (i+2)=none:=by
    unfold qC;rw[show n.length - (i+2)=0 by omega];rfl
   rw[hw]
  rw[if_neg c]
end
def mH (E:Env) (comp:ByteArray) (nd:Int) (d:DoV) (c:Nat):DoV:={ d with p:=mId E d.p comp c d.ld nd false,ld:=c }
structure nC (l pre n:List UInt8):Prop where
 eq:l=pre++n
 slash:∃ q,pre=q++[47]
 no:∀ j:Nat,n[j]?≠some 47
theorem nC.behind {l pre n:List UInt8} (S:nC l pre n):behind l=pre.length∧n=l.drop pre.length:=by
 obtain ⟨q,hq⟩:=S.slash;have hl:L (⟨l.toArray⟩:ByteArray)=l:=kR l;have e1:l[q.length]? = some 47:=by rw[S.eq,hq,List.append_assoc,List.getElem?_append_right (Nat.le_refl _),Nat.sub_self];rfl
 obtain ⟨j,_,hb,hj,hk⟩:=last_slash ⟨l.toArray⟩ ⟨q.length,by rw[hl];exact e1⟩;rw[hl] at hb hj hk
 have:j=q.length:=by
  rcases Nat.lt_trichotomy j q.length with h | h | h
  ·exact absurd e1 (hk _ h)
  ·exact h
  exfalso;have hp:pre.length≤j:=by rw[hq];simp;omega
  rw[S.eq,List.getElem?_append_right hp] at hj;exact S.no _ hj
 refine ⟨by rw[hb,this,hq];simp,by rw[S.eq,List.drop_left]⟩
theorem aCk (l:List UInt8) (h:∃ j:Nat,l[j]? = some 47):nC l (l.take (behind l)) (l.drop (behind l)):=by
 have hl:L (⟨l.toArray⟩:ByteArray)=l:=kR l;obtain ⟨j,_,hb,hj,hk⟩:=last_slash ⟨l.toArray⟩ (by rw[hl];exact h);rw[hl] at hb hj hk;rw[hb];refine ⟨(List.take_append_drop _ _).symm,⟨l.take j,?_⟩,fun k=>?_⟩
 ·obtain ⟨h1,h2⟩:=List.getElem?_eq_some_iff.1 hj;rw[List.take_succ_eq_append_getElem h1,h2]
 rw[List.getElem?_drop];exact hk _ bA
theorem tE {l pre n:List UInt8} (S:nC l pre n):qV l=((eY n).length:Int)∧eY n=(List.range n.length).filter (fun k=>n[k]? == some 46 && !kS (lV l) (pre.length+k)):=by
 obtain ⟨hb,hn⟩:=S.behind;obtain ⟨q,hq⟩:=S.slash;have hpl:pre.length=q.length+1:=by rw[hq];simp
 have hll:l.length=pre.length+n.length:=by rw[S.eq,List.length_append]
 have hsk:lV l=skF (pre++n) (l.length - 1) (pre.length+0):=by
  unfold lV;rw[hb,show l.length=(l.length - 1)+1 by omega,skF,if_neg bA,← S.eq,if_neg,show pre.length - 1+1=pre.length+0 by omega]
  ·rfl
  intro ho;unfold opens at ho;simp only[Bool.and_eq_true,beq_iff_eq] at ho;have h1:=ho.2.1;rw[S.eq,hq,List.append_assoc,show (q++[(47:UInt8)]).length - 1=q.length by simp,List.getElem?_append_right (Nat.le_refl _),Nat.sub_self] at h1;cases h1
 obtain ⟨e1,e2⟩:=aFq (pre:=pre) (n:=n) n.length 0 n.length (l.length - 1) bA bA bA;rw[← hsk] at e1 e2;rw[List.drop_zero] at e2;refine ⟨?_,?_⟩
 ·unfold qV;rw[hb,← hn,e2];show (((eY n).length+(lV l).length:Nat):Int) - _=_;omega
 rw[List.range_eq_range'];exact e1
section
variable {E:Env} {comp:ByteArray}
theorem qU {l pre n:List UInt8} (S:nC l pre n) (sk:List Nat) (nd:Int):∀ (i:Nat) (d:DoV),i≤n.length→d.p.s.data.toList=l →
 jC E comp sk nd (pre.length+i) d=jC E comp sk nd pre.length ((((List.range i).filter (fun k=>n[k]? == some 46 && !kS sk (pre.length+k))).reverse.map (pre.length + ·)).foldl (mH E comp nd) d)
 | 0,_,_,_=>rfl
 | i+1,d,h,hs=>by
  have hi:i < n.length:=by omega
  have e1:l[pre.length+i]? = n[i]?:=by rw[S.eq,List.getElem?_append_right bA,Nat.add_sub_cancel_left]
  rw[List.range_succ,List.filter_append,List.reverse_append,List.map_append,List.foldl_append];show jC E comp sk nd (pre.length+i) (iU E comp sk nd (pre.length+i) d)=_;have hno:n[i]?≠some 47:=S.no i
  by_cases c:n[i]? = some 46
  ·cases hk:kS sk (pre.length+i) with
   | true =>
    rw[wA (by rw[hs,e1,c]) hk];have:[i].filter (fun k=>n[k]? == some 46 && !kS sk (pre.length+k))=[]:=by simp[hk]
    rw[this];exact qU S sk nd i d bA hs
   | false =>
    rw[sZ (by rw[hs,e1,c]) hk];have:[i].filter (fun k=>n[k]? == some 46 && !kS sk (pre.length+k))=[i]:=by simp[hk,c]
    rw[this];refine qU S sk nd i _ bA ?_;show (mId E d.p comp (pre.length+i) d.ld nd false).s.data.toList=l;rw[(qL E d.p comp (pre.length+i) d.ld nd false).s];exact hs
  have:[i].filter (fun k=>n[k]? == some 46 && !kS sk (pre.length+k))=[]:=by simp[c]
  rw[this]
  have:iU E comp sk nd (pre.length+i) d=d:=by
   unfold iU;rw[hs,e1,if_neg c,if_neg hno]
  rw[this];exact qU S sk nd i d bA hs
theorem aEw {p:eQ} {pre n:List UInt8} (S:nC p.s.data.toList pre n):zH E comp p =
 jC E comp (lV p.s.data.toList) ((eY n).length:Int) pre.length (((eY n).reverse.map (pre.length + ·)).foldl (mH E comp ((eY n).length:Int)) ⟨p,0,0⟩):=by
 obtain ⟨e1,e2⟩:=tE S
 have hz:p.s.size=pre.length+n.length:=by
  have:p.s.data.toList.length=p.s.size:=eN p.s;rw[← this,S.eq,List.length_append]
 unfold zH;rw[e1,hz,qU S _ _ n.length ⟨p,0,0⟩ (Nat.le_refl _) rfl,← e2]
end
end Go.Proofs.YtbkobfoaphcamaaGreatDoor.Path
namespace Go.Proofs.YtbkobfoaphcamaaGreatDoor.Path
open Go.RowKit Go.Proofs.YtbkobfoaphcamaaGreatDoorW.PrintWords Go.Proofs.YtbkobfoaphcamaaGreatDoor.Base Go.Proofs.YtbkobfoaphcamaaGreatDoor.Total
def nZ (E:Env) (comp:ByteArray) (p:eQ) (B:Nat) (n:List UInt8):DoV:=((eY n).reverse.map (B + ·)).foldl (mH E comp ((eY n).length:Int)) ⟨p,0,0⟩
def mD (E:Env) (comp:ByteArray) (p:eQ) (q:Nat) (n:List UInt8):eQ :=
 if 0 < (nZ E comp p (q+1) n).ld then mId E (nZ E comp p (q+1) n).p comp q (nZ E comp p (q+1) n).ld ((eY n).length:Int) true else (nZ E comp p (q+1) n).p
theorem sH {E:Env} {comp:ByteArray} {nd:Int}:∀ (cs:List Nat) (d:DoV),Same d.p (cs.foldl (mH E comp nd) d).p
 | [],d=>Same.refl _
 | c::cs,d=>(qL E d.p comp c d.ld nd false).trans (sH cs (mH E comp nd d c))
structure pE (x:Int×Int) (p:eQ):Prop where
 at_:p.known[0]? = some x
 lay:p.lay = -1∨1≤p.lay
theorem pE.push {x y:Int×Int} {p:eQ} (h:pE x p):(p.known++[y])[0]? = some x:=by
 have:=(List.getElem?_eq_some_iff.1 h.at_).1;rw[List.getElem?_append_left this];exact h.at_
theorem pE.len {x:Int×Int} {p:eQ} (h:pE x p):1≤p.known.length:=(List.getElem?_eq_some_iff.1 h.at_).1
theorem aDb {E:Env} {lay:Bool} {p q:eQ} {pre v:ByteArray} {x y:Int×Int} (A:pE x p) (h:jD E lay p pre y v=some q):pE x q:=by
 unfold jD at h
 repeat' split at h
 all_goals first | (cases h;exact ⟨A.push,A.lay⟩) | cases h
theorem aEx {E:Env} {p:eQ} {comp:ByteArray} {lo ld:Nat} {nd:Int} {last:Bool} {x:Int×Int} (A:pE x p):pE x (jE E p comp lo ld nd last).1:=by
 unfold jE;simp only;split
 ·unfold nE;simp only;split
  ·exact ⟨A.push,A.lay⟩
  split
  ·rename_i q hq
   exact aDb A hq
  exact ⟨A.push,A.lay⟩
 split
 ·rename_i h
  have:=A.len;rw[h] at this;cases this
 have hl:=A.len;unfold jI;split
 ·exact ⟨A.push,A.lay⟩
 split
 ·exact ⟨A.push,A.lay⟩
 split
 ·exact ⟨A.push,A.lay⟩
 split
 ·exact ⟨A.push,A.lay⟩
 split
 ·split
  ·rename_i hly
   refine ⟨?_,A.lay⟩;have h1:p.lay≠-1:=by simpa using hly
   have h2:1≤p.lay:=A.lay.resolve_left h1;show (p.known.set p.lay.toNat _)[0]? = _;rw[List.getElem?_set_ne bA];exact A.at_
  exact ⟨A.push,.inr (by show (1:Int)≤(p.known.length:Int);omega)⟩
 exact ⟨A.at_,A.lay⟩
theorem aB4 {E:Env} {p:eQ} {comp:ByteArray} {i ld:Nat} {nd:Int} {last:Bool} {x:Int×Int} (A:pE x p):pE x (mId E p comp i ld nd last):=by
 unfold mId;split
 ·exact A
 obtain ⟨e,he,_⟩:=qG (jE E p comp (i+1) ld nd last) i ld last;rw[he];have h:=aEx (E:=E) (comp:=comp) (lo:=i+1) (ld:=ld) (nd:=nd) (last:=last) A;exact ⟨h.at_,h.lay⟩
theorem xT {E:Env} {comp:ByteArray} {nd:Int} {x:Int×Int}:∀ (cs:List Nat) (d:DoV),pE x d.p→pE x (cs.foldl (mH E comp nd) d).p
 | [],_,h=>h
 | c::cs,d,h=>xT cs (mH E comp nd d c) (aB4 h)
theorem tB (s:ByteArray):mM s=iO (L s):=by
 unfold mM iO;have hl:=eN s
 by_cases c:2 < s.size
 ·rw[decide_eq_true c,decide_eq_true (by omega:3≤(L s).length),Bool.true_and,Bool.true_and]
  have h1:Lib.hasPrefix (L s) [95]=((L s)[0]? == some 95):=by
   cases hs:L s with
   | nil=>rw[hs] at hl;simp at hl;omega
   | cons a r =>
    show ((95:UInt8)==a && true)=(some a==some 95);rw[Bool.and_true,Bool.eq_iff_iff,beq_iff_eq,beq_iff_eq];exact ⟨fun h=>by rw[h],fun h=>by injection h with h;exact h.symm⟩
  have h2:Lib.hasSuffix (L s) [95]=((L s)[(L s).length - 1]? == some 95):=by
   rw[Bool.eq_iff_iff,beq_iff_eq,← List.getLast?_eq_getElem?];unfold Lib.hasSuffix;rw[List.isSuffixOf_iff_suffix];constructor
   ·rintro ⟨t,ht⟩;rw[← ht];simp
   intro h;rw[List.getLast?_eq_some_iff] at h;obtain ⟨t,ht⟩:=h;exact ⟨t,ht.symm⟩
  rw[h1,h2]
 rw[decide_eq_false c,decide_eq_false (by omega:¬ 3≤(L s).length),Bool.false_and,Bool.false_and]
theorem vD (n:List UInt8):∀ (g i c:Nat),c∈kM n g i→i≤c∧n[c]? = some 46
 | 0,_,_,h=>by cases h
 | g+1,i,c,h=>by
  rw[kM] at h;split at h
  ·cases h
  split at h
  ·rename_i hd
   rcases List.mem_cons.1 h with h | h
   ·subst h;exact ⟨Nat.le_refl _,hd⟩
   have:=vD n g _ c h
   have hn:i+1≤nM n i:=by
    unfold nM;split
    ·split
     ·rename_i e he
      have:=qD n _ _ _ he;omega
     exact Nat.le_refl _
    exact Nat.le_refl _
   exact ⟨aR,this.2⟩
  have:=vD n g _ c h;exact ⟨aR,this.2⟩
theorem aCq {E:Env} {comp T:ByteArray} {q:Nat} {pre n:List UInt8} (S:nC (L T) pre n) (hq:pre.length=q+1) {lay:Bool} (K:oB lay n) {p:eQ} (hp:p.s=T) (hk:p.known=[]) (hl:p.lay = -1) (hc:p.cHigh = -1) :
 (eY n=[]→mD E comp p q n=p)∧∀ c,(eY n).getLast? = some c→pE (((q+1+c+1:Nat):Int),(T.size:Int)) (mD E comp p q n):=by
 constructor
 ·intro h;unfold mD nZ;rw[h];rfl
 intro c hcl;have hne:eY n≠[]:=by intro h;rw[h] at hcl;cases hcl
 have hrev:(eY n).reverse=c::((eY n).reverse.tail):=by
  rw[List.getLast?_eq_head?_reverse] at hcl
  cases hr:(eY n).reverse with
  | nil=>rw[hr] at hcl;cases hcl
  | cons a r=>rw[hr] at hcl;injection hcl with h;subst h;rfl
 have hword:pE (((q+1+c+1:Nat):Int),(T.size:Int)) (mId E p comp (q+1+c) 0 ((eY n).length:Int) false):=by
  rw[uT hc];obtain ⟨e,he,_⟩:=qG (jE E p comp (q+1+c+1) 0 ((eY n).length:Int) false) (q+1+c) 0 false;rw[he];have hih:idHigh p 0=T.size:=by unfold idHigh;rw[if_pos hk,hp]
  have hw:mM (p.s.extract (q+1+c+1) T.size)=false:=by
   rw[tB,hp,eX,S.eq,show q+1+c+1=pre.length+(c+1) by omega,← List.drop_drop,List.drop_left,List.take_of_length_le]
   ·exact (K.last c hcl).1
   have:=eN T;rw[S.eq,List.length_append] at this;rw[List.length_drop];omega
  unfold jE;simp only;rw[hih,hw];simp only[Bool.false_eq_true,if_false];rw[if_pos hk];refine ⟨?_,.inl hl⟩;show (p.known++[_])[0]? = _;rw[hk];rfl
 have hD:pE (((q+1+c+1:Nat):Int),(T.size:Int)) (nZ E comp p (q+1) n).p:=by
  unfold nZ;rw[hrev,List.map_cons,List.foldl_cons];exact xT _ _ hword
 unfold mD;split
 ·exact aB4 hD
 exact hD
end Go.Proofs.YtbkobfoaphcamaaGreatDoor.Path
namespace Go.Proofs.YtbkobfoaphcamaaGreatDoor.Path
open Go.RowKit Go.Proofs.YtbkobfoaphcamaaGreatDoorW.PrintWords Go.Proofs.YtbkobfoaphcamaaGreatDoor.Base Go.Proofs.YtbkobfoaphcamaaGreatDoor.Total Go.Proofs.YtbkobfoaphcamaaGreatDoor.Lower
structure RV where
 ids:List ByteArray
 unk:List ByteArray
 langs:List ByteArray
 ext:ByteArray
 fmt:ByteArray
 kind:ByteArray
 lay:ByteArray
 cust:ByteArray
 dis:Bool
 marks:List Int
 lang1:ByteArray
 fmt1:ByteArray
 kind1:ByteArray
 lay1:ByteArray
 hasLang:Bool
 hasKind:Bool
 baseof:Bool
 layAt:Int
def lG:RV:=⟨[],[],[],⟨#[]⟩,⟨#[]⟩,⟨#[]⟩,⟨#[]⟩,⟨#[]⟩,false,[],⟨#[]⟩,⟨#[]⟩,⟨#[]⟩,⟨#[]⟩,false,false,false,-1⟩
def RV.id (r:RV) (t:ByteArray) (k:Int):RV:={ r with ids:=r.ids++[t],marks:=r.marks++[k] }
def hO (x pre:ByteArray):Bool:=(L pre).isPrefixOf (L (low x))
def hZ (x pre:ByteArray):ByteArray:=x.extract pre.size x.size
def iB (st:fP) (n:ByteArray):Bool:=st.fmts.any fun x=>x.1.toList==n.toList
def jY (st:fP) (n e:ByteArray):Bool:=st.fmts.any fun x=>x.1.toList==n.toList && x.2.toList==e.toList
def vS:List UInt8:=[98,97,115,101,111,102]
def gA (word:ByteArray):ByteArray:=word.extract 1 (word.size - 1)
def jO (st:fP) (lay:Bool) (r:RV) (word x:ByteArray) (k:Int):RV :=
 if hO x fR=true∧(listed st.langs (low (hZ x fR)) || listed st.dis (low (hZ x fR)))=true then
  { r.id (hZ x fR) k with langs:=r.langs++[hZ x fR],dis:=r.dis || !listed st.langs (low (hZ x fR)) }
 else if lay=true∧hO x gT=true∧iB st (low (hZ x gT))=true then { r.id (hZ x gT) k with fmt:=hZ x gT }
 else if lay=true∧hO x gK=true∧isKind (hZ x gK)=true then { r.id (hZ x gK) k with kind:=hZ x gK }
 else if lay=true∧hO x gB=true then { r.id (hZ x gB) k with lay:=hZ x gB }
 else { r.id word k with cust:=x }
def jQ (st:fP) (comp:ByteArray) (sc:Bool) (pts:Nat) (r:RV) (word:ByteArray) (k:Int):RV :=
 if ((kA comp || eW comp)=true∧2≤pts∧r.hasLang=false)∧(listed st.langs word || listed st.dis word)=true then
  { r.id word k with lang1:=word,hasLang:=true,dis:=r.dis || !listed st.langs word }
 else if eW comp=true∧jY st word r.ext=true then { r.id word k with fmt1:=word }
 else if eW comp=true∧r.hasKind=false∧isKind word=true then { r.id word k with kind1:=word,hasKind:=true }
 else if word.toList=vS then { r.id word k with baseof:=true }
 else if eW comp=true∧¬ (sc=true∧k < 0) then
  if r.layAt < 0 then { r.id word k with layAt:=r.ids.length,lay1:=word }
  else { r with unk:=r.unk++[r.lay1],ids:=r.ids.set r.layAt.toNat word,marks:=r.marks++[k],lay1:=word }
 else { r with unk:=r.unk++[word] }
def oY (r:RV) (word:ByteArray) (k:Int):RV:={ r.id word k with ext:=word }
def mB (st:fP) (comp:ByteArray) (sc:Bool) (pts:Nat) (r:RV) (word:ByteArray) (k:Int):RV :=
 if iO (L word)=true then jO st (eW comp) r word (gA word) k else jQ st comp sc pts r word k
def mI (st:fP) (comp:ByteArray) (sc:Bool) (pts:Nat) (r:RV) (word:ByteArray) (k:Int):RV :=
 if r.ids=[] then oY r word k else mB st comp sc pts r word k
def kL (marks:List Int) (N:Int):Int:=marks.foldl (fun e m=>if 0≤m∧m < e then m else e) N
def Ix (p:eQ) (i:Int) (t:ByteArray):Prop:=0≤i∧i≠p.lay∧∃ x,p.known[i.toNat]? = some x∧sub p.s x.1 x.2=t
def Ox (p:eQ) (i:Int) (t:ByteArray):Prop:=(i = -1∧t=⟨#[]⟩)∨(Ix p i t∧t≠⟨#[]⟩)
theorem Ix.str {p:eQ} {i:Int} {t:ByteArray} (h:Ix p i t):fO p i=t:=by
 obtain ⟨h0,_,x,hx,ht⟩:=h;unfold fO;rw[if_neg bA,hx];exact ht
theorem Ox.str {p:eQ} {i:Int} {t:ByteArray} (h:Ox p i t):fO p i=t:=by
 rcases h with ⟨rfl,rfl⟩ | ⟨h,_⟩
 ·rfl
 exact h.str
def Grown (p q:eQ):Prop:=q.s=p.s∧((∃ x,q.known=p.known++[x]∧(q.lay=p.lay∨q.lay=p.known.length))∨(∃ x,q.known=p.known.set p.lay.toNat x∧q.lay=p.lay∧1≤p.lay)∨(q.known=p.known∧q.lay=p.lay))
theorem Ix.grown {p q:eQ} {i:Int} {t:ByteArray} (g:Grown p q) (h:Ix p i t):Ix q i t:=by
 obtain ⟨hs,g⟩:=g;obtain ⟨h0,hl,x,hx,ht⟩:=h;have hlt:=(List.getElem?_eq_some_iff.1 hx).1;refine ⟨h0,?_,x,?_,by rw[hs];exact ht⟩
 ·rcases g with ⟨y,_,e | e⟩ | ⟨y,_,e,_⟩ | ⟨_,e⟩
  ·rw[e];exact hl
  ·rw[e];omega
  ·rw[e];exact hl
  rw[e];exact hl
 rcases g with ⟨y,e,_⟩ | ⟨y,e,_,h1⟩ | ⟨e,_⟩
 ·rw[e,List.getElem?_append_left hlt];exact hx
 ·rw[e,List.getElem?_set_ne bA];exact hx
 rw[e];exact hx
theorem Ox.grown {p q:eQ} {i:Int} {t:ByteArray} (g:Grown p q) (h:Ox p i t):Ox q i t:=h.imp id (fun ⟨x,y⟩=>⟨x.grown g,y⟩)
structure yS (q:eQ) (zl zf zk zc zpf zpk zpy:Int) (zs:List Int) (f0:Int) (r:RV):Prop where
 lang:Ox q zl r.lang1
 fmt:(r.fmt1=⟨#[]⟩∧zf=f0)∨(r.fmt1≠⟨#[]⟩∧Ix q zf r.fmt1)
 kind:Ox q zk r.kind1
 cust:(zc = -1∧r.cust=⟨#[]⟩)∨∃ word,Ix q zc word∧iO (L word)=true∧r.cust=gA word
 pfmt:Ox q zpf r.fmt
 pkind:Ox q zpk r.kind
 play:Ox q zpy r.lay
 pl:∀ i∈zs,Ix q i (fO q i)
 langs:r.langs=zs.map (fO q)
 lne:∀ t∈r.langs,t≠⟨#[]⟩
 pos:(zl = -1∨1≤zl)∧∀ i∈zs,1≤i
theorem yS.grown {p q:eQ} {a b c d e f g:Int} {l:List Int} {f0:Int} {r:RV} (h:yS p a b c d e f g l f0 r) (G:Grown p q):yS q a b c d e f g l f0 r:=by
 have key:∀ i∈l,fO q i=fO p i:=fun i hi=>(Ix.grown G (h.pl i hi)).str;refine ⟨h.lang.grown G,h.fmt.imp id (fun ⟨x,y⟩=>⟨x,y.grown G⟩),h.kind.grown G,h.cust.imp id (fun ⟨w,x,y⟩=>⟨w,x.grown G,y⟩),h.pfmt.grown G,h.pkind.grown G,h.play.grown G,fun i hi=>?_,?_,h.lne,h.pos⟩
 ·rw[key i hi];exact (h.pl i hi).grown G
 rw[h.langs];exact List.map_congr_left (fun i hi=>(key i hi).symm)
def fmt0 (st:fP) (comp ext:ByteArray):Int:=if eW comp && iB st ext then 0 else -1
structure Rel (st:fP) (comp:ByteArray) (sc:Bool) (T:ByteArray) (p:eQ) (r:RV):Prop where
 s:p.s=T
 typ:p.typ=if sc then 7 else 0
 ids:r.ids=kW p
 unk:r.unk=mQ p
 ix:yS p p.lang p.fmt p.kind p.cust p.pfmt p.pkind p.play p.plangs (fmt0 st comp r.ext) r
 lay:(p.lay = -1∧r.layAt = -1∧r.lay1=⟨#[]⟩)∨(p.lay=r.layAt∧1≤p.lay∧∃ x,p.known[p.lay.toNat]? = some x∧sub p.s x.1 x.2=r.lay1)
 hl:r.hasLang=(p.lang != -1)
 hk:r.hasKind=(p.kind != -1)
 base:r.baseof=(p.base != -1)
 dis:p.dis=r.dis
 ext:Ix p 0 r.ext
theorem Rel.ne {st:fP} {comp T:ByteArray} {sc:Bool} {p:eQ} {r:RV} (R:Rel st comp sc T p r):p.known≠[]:=by
 obtain ⟨_,_,x,hx,_⟩:=R.ext;intro h;rw[h] at hx;cases hx
structure qT (st:fP):Prop where
 lang:∀ w,(listed st.langs w || listed st.dis w)=true→w≠⟨#[]⟩
 fmt:∀ n,iB st n=true→n≠⟨#[]⟩
theorem uN (st:fP) (n:ByteArray):lX st.fmts n ⟨#[]⟩=iB st n:=by
 unfold lX iB;congr 1
 funext x
 have:((⟨#[]⟩:ByteArray).toList==[])=true:=by rw[L_toList];rfl
 rw[this,Bool.true_or,Bool.and_true]
theorem aAq (st:fP) (n e:ByteArray) (he:e≠⟨#[]⟩):lX st.fmts n e=jY st n e:=by
 unfold lX jY;congr 1
 funext x
 have:(e.toList==[])=false:=by
  rw[L_toList]
  cases h:L e with
  | nil=>exact absurd (L_inj (h.trans rfl)) he
  | cons a r=>rfl
 rw[this,Bool.false_or]
theorem aBb {st:fP} {n e:ByteArray} (h:jY st n e=true):iB st n=true:=by
 unfold jY at h;unfold iB;rw[List.any_eq_true] at h ⊢;obtain ⟨x,hx,hh⟩:=h;rw[Bool.and_eq_true] at hh;exact ⟨x,hx,hh.1⟩
theorem zS {t:ByteArray} (h:isKind t=true):t≠⟨#[]⟩:=by
 rintro rfl;exact absurd h bF
theorem aF0 {t:ByteArray} (h:low t≠⟨#[]⟩):t≠⟨#[]⟩:=by
 rintro rfl;exact h (L_inj (by rw[rU];rfl))
theorem aGy (c:UInt8):Lib.lowerB c=jK c:=by
 unfold Lib.lowerB Lib.isUpperB jK
 by_cases h:65≤c.toNat∧c.toNat≤90
 ·rw[if_pos h,if_pos (by simp only[Bool.and_eq_true,decide_eq_true_eq,UInt8.le_iff_toNat_le];exact h)]
 rw[if_neg h,if_neg (by simp only[Bool.and_eq_true,decide_eq_true_eq,UInt8.le_iff_toNat_le];exact h)]
theorem oI (s:ByteArray):Lib.toLowerA (L s)=L (low s):=by
 rw[rU];exact List.map_congr_left (fun c _=>aGy c)
theorem aG0 (s:ByteArray):jU s=low s:=by
 refine L_inj ?_;show L (⟨(Lib.toLowerA (L s)).toArray⟩:ByteArray)=_;rw[kR,oI]
theorem aGd {x a b:ByteArray} (h1:hO x a=true) (h2:hO x b=true) (h3:(L a).isPrefixOf (L b)=false) (h4:(L b).isPrefixOf (L a)=false):False:=by
 unfold hO at h1 h2;rw[List.isPrefixOf_iff_prefix] at h1 h2;rcases List.prefix_or_prefix_of_prefix h1 h2 with h | h
 ·rw[List.isPrefixOf_iff_prefix.2 h] at h3;cases h3
 rw[List.isPrefixOf_iff_prefix.2 h] at h4;cases h4
theorem prefOf_tag (x:ByteArray) :
 (iP x=fR∧hO x fR=true∧hO x gT=false∧hO x gK=false∧hO x gB=false) ∨
 (iP x=gT∧hO x fR=false∧hO x gT=true∧hO x gK=false∧hO x gB=false) ∨
 (iP x=gK∧hO x fR=false∧hO x gT=false∧hO x gK=true∧hO x gB=false) ∨
 (iP x=gB∧hO x fR=false∧hO x gT=false∧hO x gK=false∧hO x gB=true) ∨
 ((iP x≠fR∧iP x≠gT∧iP x≠gK∧iP x≠gB)∧hO x fR=false∧hO x gT=false∧hO x gK=false∧hO x gB=false):=by
 have hp:∀ a:ByteArray,Lib.hasPrefix (Lib.toLowerA (L x)) a.data.toList=hO x a:=by
  intro a;rw[oI];rfl
 have e:iP x=if hO x fR=true then fR else if hO x nK=true then nK else if hO x pG=true then pG else if hO x gT=true then gT else if hO x gK=true then gK else if hO x gB=true then gB else ⟨#[]⟩:=by
  unfold iP lF;simp only[mA];rw[← hp fR,← hp nK,← hp pG,← hp gT,← hp gK,← hp gB];rfl
 have ap:∀ a b:ByteArray,hO x a=true→(L a).isPrefixOf (L b)=false→(L b).isPrefixOf (L a)=false→hO x b=false:=by
  intro a b h1 h3 h4
  cases h2:hO x b with
  | false=>rfl
  | true=>exact (aGd h1 h2 h3 h4).elim
 rw[e]
 by_cases h1:hO x fR=true
 ·rw[if_pos h1];exact .inl ⟨rfl,h1,ap _ _ h1 bF bF,ap _ _ h1 bF bF,ap _ _ h1 bF bF⟩
 rw[if_neg h1];have g1:hO x fR=false:=by simpa using h1
 by_cases h2:hO x nK=true
 ·rw[if_pos h2];exact .inr (.inr (.inr (.inr ⟨⟨by decide,by decide,by decide,by decide⟩,g1,ap _ _ h2 bF bF,ap _ _ h2 bF bF,ap _ _ h2 bF bF⟩)))
 rw[if_neg h2]
 by_cases h3:hO x pG=true
 ·rw[if_pos h3];exact .inr (.inr (.inr (.inr ⟨⟨by decide,by decide,by decide,by decide⟩,g1,ap _ _ h3 bF bF,ap _ _ h3 bF bF,ap _ _ h3 bF bF⟩)))
 rw[if_neg h3]
 by_cases h4:hO x gT=true
 ·rw[if_pos h4];exact .inr (.inl ⟨rfl,g1,h4,ap _ _ h4 bF bF,ap _ _ h4 bF bF⟩)
 rw[if_neg h4]
 by_cases h5:hO x gK=true
 ·rw[if_pos h5];exact .inr (.inr (.inl ⟨rfl,g1,by simpa using h4,h5,ap _ _ h5 bF bF⟩))
 rw[if_neg h5]
 by_cases h6:hO x gB=true
 ·rw[if_pos h6];exact .inr (.inr (.inr (.inl ⟨rfl,g1,by simpa using h4,by simpa using h5,h6⟩)))
 rw[if_neg h6];exact .inr (.inr (.inr (.inr ⟨⟨by decide,by decide,by decide,by decide⟩,g1,by simpa using h4,by simpa using h5,by simpa using h6⟩)))
theorem aEp (s:ByteArray):isKind (low s)=isKind s:=by
 unfold isKind;rw[oI,oI];congr 1;rw[rU,rU,List.map_map];refine List.map_congr_left (fun c _=>?_);show jK (jK c)=jK c
 by_cases h:65≤c.toNat∧c.toNat≤90
 ·have e1:jK c=c+32:=by unfold jK;rw[if_pos h]
  have e2:(c+32).toNat=c.toNat+32:=by rw[UInt8.toNat_add,show (32:UInt8).toNat=32 from rfl];omega
  rw[e1];unfold jK;rw[if_neg (by rw[e2];omega)]
 have e1:jK c=c:=by unfold jK;rw[if_neg h]
 rw[e1,e1]
theorem aHh {x pre:ByteArray} (h:hO x pre=true):pre.size≤x.size:=by
 unfold hO at h;have:=(List.isPrefixOf_iff_prefix.1 h).length_le;rw[eN,eN,pW] at this;exact this
theorem aHk {T:ByteArray} {lo hi k:Nat} (h1:lo+1+k≤hi - 1) (h2:hi≤T.size):sub T ((lo+1+k:Nat):Int) ((hi - 1:Nat):Int)=(gA (T.extract lo hi)).extract k (gA (T.extract lo hi)).size:=by
 refine L_inj ?_;have e0:(T.extract lo hi).size=hi - lo:=by rw[← eN,eX];have:=eN T;simp;omega
 have e1:(gA (T.extract lo hi)).size=hi - lo - 2:=by
  unfold gA;rw[e0,← eN,eX,eX];have:=eN T
  simp
  omega
 rw[e1,jB,eX,eX];unfold gA;rw[e0,eX,eX];refine List.ext_getElem? (fun i=>?_);simp only[List.getElem?_take,List.getElem?_drop]
 by_cases h:i < hi - 1 - (lo+1+k)
 ·rw[if_pos h,if_pos bA,if_pos bA,if_pos bA];exact congrArg (fun j=>(L T)[j]?) bA
 rw[if_neg h,if_neg bA]
section
variable {st:fP} {lay:Bool} {r:RV} {word x:ByteArray} {k:Int}
def Cl (st:fP) (x:ByteArray):Prop:=hO x fR=true∧(listed st.langs (low (hZ x fR)) || listed st.dis (low (hZ x fR)))=true
def Cf (st:fP) (lay:Bool) (x:ByteArray):Prop:=lay=true∧hO x gT=true∧iB st (low (hZ x gT))=true
def Ck (lay:Bool) (x:ByteArray):Prop:=lay=true∧hO x gK=true∧isKind (hZ x gK)=true
def Cy (lay:Bool) (x:ByteArray):Prop:=lay=true∧hO x gB=true
theorem aIa (h:Cl st x):jO st lay r word x k = { r.id (hZ x fR) k with langs:=r.langs++[hZ x fR],dis:=r.dis || !listed st.langs (low (hZ x fR)) }:=by
 unfold jO;rw[if_pos (show _∧_ from h)]
theorem aH8 (h1:¬ Cl st x) (h:Cf st lay x):jO st lay r word x k = { r.id (hZ x gT) k with fmt:=hZ x gT }:=by
 unfold jO;rw[if_neg (show ¬ (_∧_) from h1),if_pos (show _∧_ from h)]
theorem aH9 (h1:¬ Cl st x) (h2:¬ Cf st lay x) (h:Ck lay x):jO st lay r word x k = { r.id (hZ x gK) k with kind:=hZ x gK }:=by
 unfold jO;rw[if_neg (show ¬ (_∧_) from h1),if_neg (show ¬ (_∧_) from h2),if_pos (show _∧_ from h)]
theorem aIb (h1:¬ Cl st x) (h2:¬ Cf st lay x) (h3:¬ Ck lay x) (h:Cy lay x):jO st lay r word x k = { r.id (hZ x gB) k with lay:=hZ x gB }:=by
 unfold jO;rw[if_neg (show ¬ (_∧_) from h1),if_neg (show ¬ (_∧_) from h2),if_neg (show ¬ (_∧_) from h3),if_pos (show _∧_ from h)]
theorem sP (h1:¬ Cl st x) (h2:¬ Cf st lay x) (h3:¬ Ck lay x) (h4:¬ Cy lay x):jO st lay r word x k = { r.id word k with cust:=x }:=by
 unfold jO;rw[if_neg (show ¬ (_∧_) from h1),if_neg (show ¬ (_∧_) from h2),if_neg (show ¬ (_∧_) from h3),if_neg (show ¬ (_∧_) from h4)]
end
theorem rW {E:Env} {lay:Bool} {p:eQ} {lo hi:Nat} {sid pre v:ByteArray} (h:iP (gA sid)=pre) (hne:¬ pre.toList=[]) (hv:jU (p.s.extract (lo+1+pre.size) (hi - 1))=v) :
 nE E lay p lo hi sid=(jD E lay p pre (((lo+1+pre.size:Nat):Int),((hi - 1:Nat):Int)) v).getD (oO p ((lo:Int),(hi:Int))):=by
 have h' : iP (sid.extract 1 (sid.size - 1))=pre:=h;unfold nE;simp only[h',hv];rw[if_neg hne];cases jD E lay p pre (((lo+1+pre.size:Nat):Int),((hi - 1:Nat):Int)) v <;> rfl
theorem aG3 {E:Env} {lay:Bool} {p:eQ} {x:Int×Int} {v:ByteArray}:jD E lay p fR x v=if E.lang v=true then some { p with known:=p.known++[x],plangs:=p.plangs++[(p.known.length:Int)] } else if E.dis v=true then some { p with known:=p.known++[x],plangs:=p.plangs++[(p.known.length:Int)],dis:=true } else none:=by
 unfold jD;rw[if_pos (rfl:fR=fR)]
theorem aG1 {E:Env} {lay:Bool} {p:eQ} {x:Int×Int} {v:ByteArray}:jD E lay p gT x v=if (lay && E.fmt v ⟨#[]⟩)=true then some { p with known:=p.known++[x],pfmt:=p.known.length } else none:=by
 unfold jD;rw[if_neg (by decide:¬ gT=fR),if_pos (rfl:gT=gT)]
theorem aG2 {E:Env} {lay:Bool} {p:eQ} {x:Int×Int} {v:ByteArray}:jD E lay p gK x v=if (lay && isKind v)=true then some { p with known:=p.known++[x],pkind:=p.known.length } else none:=by
 unfold jD;rw[if_neg (by decide:¬ gK=fR),if_neg (by decide:¬ gK=gT),if_pos (rfl:gK=gK)]
theorem aG4 {E:Env} {lay:Bool} {p:eQ} {x:Int×Int} {v:ByteArray}:jD E lay p gB x v=if lay=true then some { p with known:=p.known++[x],play:=p.known.length } else none:=by
 unfold jD;rw[if_neg (by decide:¬ gB=fR),if_neg (by decide:¬ gB=gT),if_neg (by decide:¬ gB=gK),if_pos (rfl:gB=gB)]
theorem aE0 {E:Env} {lay:Bool} {p:eQ} {lo hi:Nat} {sid:ByteArray} (h1:iP (gA sid)≠fR) (h2:iP (gA sid)≠gT) (h3:iP (gA sid)≠gK) (h4:iP (gA sid)≠gB) :
 nE E lay p lo hi sid=oO p ((lo:Int),(hi:Int)):=by
 have h' : iP (sid.extract 1 (sid.size - 1))=iP (gA sid):=rfl;unfold nE;simp only[h']
 by_cases c:(iP (gA sid)).toList=[]
 ·rw[if_pos c]
 rw[if_neg c];unfold jD;rw[if_neg h1,if_neg h2,if_neg h3,if_neg h4]
section
variable {st:fP} {comp T:ByteArray} {sc:Bool} {p:eQ} {r:RV}
structure aIi (st:fP) (comp T:ByteArray) (p q:eQ) (r:RV) (t:ByteArray):Prop where
 ix:yS q p.lang p.fmt p.kind p.cust p.pfmt p.pkind p.play p.plangs (fmt0 st comp r.ext) r
 new:Ix q p.known.length t
 ids:r.ids++[t]=kW q
 lay:(q.lay = -1∧r.layAt = -1∧r.lay1=⟨#[]⟩)∨(q.lay=r.layAt∧1≤q.lay∧∃ x,q.known[q.lay.toNat]? = some x∧sub q.s x.1 x.2=r.lay1)
 ext:Ix q 0 r.ext
theorem Rel.push (R:Rel st comp sc T p r) {q:eQ} {x:Int×Int} {t:ByteArray} (ht:sub T x.1 x.2=t) (hs:q.s=p.s) (hk:q.known=p.known++[x]) (hl:q.lay=p.lay):aIi st comp T p q r t:=by
 have G:Grown p q:=⟨hs,.inl ⟨x,hk,.inl hl⟩⟩
 have hpos:=List.length_pos_iff.2 R.ne;refine ⟨R.ix.grown G,⟨aR,?_,x,?_,by rw[hs,R.s];exact ht⟩,?_,?_,R.ext.grown G⟩
 ·rw[hl];rcases R.lay with ⟨h,_⟩ | ⟨_,h,y,hy,_⟩
  ·omega
  have:=(List.getElem?_eq_some_iff.1 hy).1;omega
 ·rw[hk,Int.toNat_natCast,List.getElem?_append_right (Nat.le_refl _),Nat.sub_self];rfl
 ·rw[R.ids];unfold kW;rw[hk,hs,List.map_append,List.map_cons,List.map_nil,R.s,ht]
 rw[hl];rcases R.lay with h | ⟨h1,h2,y,hy,h3⟩
 ·exact .inl h
 refine .inr ⟨h1,h2,y,?_,by rw[hs];exact h3⟩;rw[hk,List.getElem?_append_left (List.getElem?_eq_some_iff.1 hy).1];exact hy
theorem Rel.cust (R:Rel st comp sc T p r) {x:Int×Int} {t:ByteArray} (ht:sub T x.1 x.2=t) (hw:iO (L t)=true) (k:Int):Rel st comp sc T (oO p x) { r.id t k with cust:=gA t }:=by
 have P:=R.push (q:=oO p x) (x:=x) ht rfl rfl rfl;exact ⟨R.s,R.typ,P.ids,R.unk,⟨P.ix.lang,P.ix.fmt,P.ix.kind,.inr ⟨t,P.new,hw,rfl⟩,P.ix.pfmt,P.ix.pkind,P.ix.play,P.ix.pl,P.ix.langs,P.ix.lne,P.ix.pos⟩,P.lay,R.hl,R.hk,R.base,R.dis,P.ext⟩
set_option maxHeartbeats 800000 in
theorem Rel.wrap (R:Rel st comp sc T p r) (SE:qT st) {lo hi:Nat} {sid:ByteArray} (hsid:T.extract lo hi=sid) (hhi:hi≤T.size) (hw:iO (L sid)=true) (hok:eW comp=true→okW (L sid)) (k:Int) :
 Rel st comp sc T (nE (eS st) (eW comp) p lo hi sid) (jO st (eW comp) r sid (gA sid) k)∧(jO st (eW comp) r sid (gA sid) k).marks=r.marks++[k]:=by
 have hz:sid.size=hi - lo:=by rw[← hsid,← eN,eX];have:=eN T;simp;omega
 have h3:3≤sid.size:=by unfold iO at hw;rw[Bool.and_eq_true,decide_eq_true_eq,eN] at hw;exact hw.1
 have hi2:(gA sid).size=hi - lo - 2:=by
  unfold gA;rw[← eN,eX,List.length_take,List.length_drop,eN,hz];omega
 have hval:∀ pre:ByteArray,hO (gA sid) pre=true→sub T ((lo+1+pre.size:Nat):Int) ((hi - 1:Nat):Int)=hZ (gA sid) pre:=by
  intro pre hp;have:=aHh hp;rw[aHk (T:=T) (lo:=lo) (hi:=hi) (k:=pre.size) bA hhi,hsid];rfl
 have hlow:∀ pre:ByteArray,hO (gA sid) pre=true→jU (p.s.extract (lo+1+pre.size) (hi - 1))=low (hZ (gA sid) pre):=by
  intro pre hp;rw[aG0,← hval pre hp,jB,R.s]
 have hc:Rel st comp sc T (oO p ((lo:Int),(hi:Int))) { r.id sid k with cust:=gA sid }:=R.cust (by rw[jB];exact hsid) hw k
 have ne4:∀ pre:ByteArray,(pre=fR∨pre=gT∨pre=gK∨pre=gB)→¬ pre.toList=[]:=by
  rintro pre (rfl | rfl | rfl | rfl) <;> rw[L_toList] <;> decide
 have fx:∀ {t:Bool} {a:ByteArray},hO (gA sid) a=false→¬ (hO (gA sid) a=true):=fun h=>by rw[h];simp
 rcases prefOf_tag (gA sid) with ⟨e,t1,t2,t3,t4⟩ | ⟨e,t1,t2,t3,t4⟩ | ⟨e,t1,t2,t3,t4⟩ | ⟨e,t1,t2,t3,t4⟩ | ⟨⟨e1,e2,e3,e4⟩,t1,t2,t3,t4⟩
 ·rw[rW e (ne4 _ (.inl rfl)) (hlow _ t1),aG3];have P:=fun q h1 h2 h3=>R.push (q:=q) (x:=(((lo+1+fR.size:Nat):Int),((hi - 1:Nat):Int))) (hval _ t1) h1 h2 h3;have el:(eS st).lang=listed st.langs:=rfl;have ed:(eS st).dis=listed st.dis:=rfl;rw[el,ed]
  by_cases h1:(listed st.langs (low (hZ (gA sid) fR)) || listed st.dis (low (hZ (gA sid) fR)))=true
  ·have hne:=aF0 (SE.lang _ h1);rw[aIa ⟨t1,h1⟩]
   have lne:∀ t∈r.langs++[hZ (gA sid) fR],t≠⟨#[]⟩:=by
    intro t ht;rcases List.mem_append.1 ht with ht | ht
    ·exact R.ix.lne t ht
    rw[List.mem_singleton] at ht;rw[ht];exact hne
   have hpos:=List.length_pos_iff.2 R.ne
   have posw:(p.lang = -1∨1≤p.lang)∧∀ i∈p.plangs++[(p.known.length:Int)],1≤i:=by
    refine ⟨R.ix.pos.1,fun i hi=>?_⟩;rcases List.mem_append.1 hi with hi | hi
    ·exact R.ix.pos.2 i hi
    rw[List.mem_singleton] at hi;omega
   have done:∀ q:eQ,(h1:q.s=p.s)→(h2:q.known=p.known++[(((lo+1+fR.size:Nat):Int),((hi - 1:Nat):Int))])→(h3:q.lay=p.lay)→q.plangs=p.plangs++[(p.known.length:Int)]→(∀ i∈q.plangs,Ix q i (fO q i))∧r.langs++[hZ (gA sid) fR]=q.plangs.map (fO q):=by
    intro q h1 h2 h3 h4;have P:=P q h1 h2 h3;have hs:=P.new.str;rw[h4];refine ⟨fun i hi=>?_,?_⟩
    ·rcases List.mem_append.1 hi with hi | hi
     ·exact P.ix.pl i hi
     rw[List.mem_singleton] at hi;rw[hi,hs];exact P.new
    rw[List.map_append,List.map_cons,List.map_nil,hs,P.ix.langs]
   by_cases h2:listed st.langs (low (hZ (gA sid) fR))=true
   ·rw[if_pos h2,h2];obtain ⟨d1,d2⟩:=done { p with known:=p.known++[(((lo+1+fR.size:Nat):Int),((hi - 1:Nat):Int))],plangs:=p.plangs++[(p.known.length:Int)] } rfl rfl rfl rfl;have P:=P { p with known:=p.known++[(((lo+1+fR.size:Nat):Int),((hi - 1:Nat):Int))],plangs:=p.plangs++[(p.known.length:Int)] } rfl rfl rfl;exact ⟨⟨R.s,R.typ,P.ids,R.unk,⟨P.ix.lang,P.ix.fmt,P.ix.kind,P.ix.cust,P.ix.pfmt,P.ix.pkind,P.ix.play,d1,d2,lne,posw⟩,P.lay,R.hl,R.hk,R.base,R.dis.trans bL,P.ext⟩,rfl⟩
   have h2' : listed st.langs (low (hZ (gA sid) fR))=false:=by simpa using h2
   have h3' : listed st.dis (low (hZ (gA sid) fR))=true:=by rw[h2'] at h1;simpa using h1
   rw[if_neg h2,if_pos h3',h2'];obtain ⟨d1,d2⟩:=done { p with known:=p.known++[(((lo+1+fR.size:Nat):Int),((hi - 1:Nat):Int))],plangs:=p.plangs++[(p.known.length:Int)],dis:=true } rfl rfl rfl rfl;have P:=P { p with known:=p.known++[(((lo+1+fR.size:Nat):Int),((hi - 1:Nat):Int))],plangs:=p.plangs++[(p.known.length:Int)],dis:=true } rfl rfl rfl;exact ⟨⟨R.s,R.typ,P.ids,R.unk,⟨P.ix.lang,P.ix.fmt,P.ix.kind,P.ix.cust,P.ix.pfmt,P.ix.pkind,P.ix.play,d1,d2,lne,posw⟩,P.lay,R.hl,R.hk,R.base,bL,P.ext⟩,rfl⟩
  have h1' : listed st.langs (low (hZ (gA sid) fR))=false∧listed st.dis (low (hZ (gA sid) fR))=false:=by simpa using h1
  rw[if_neg (by rw[h1'.1];decide:¬ (listed st.langs (low (hZ (gA sid) fR))=true)),if_neg (by rw[h1'.2];decide:¬ (listed st.dis (low (hZ (gA sid) fR))=true)),sP (fun h=>h1 h.2) (fun h=>fx (t:=true) t2 h.2.1) (fun h=>fx (t:=true) t3 h.2.1) (fun h=>fx (t:=true) t4 h.2)];exact ⟨hc,rfl⟩
 ·rw[rW e (ne4 _ (.inr (.inl rfl))) (hlow _ t2),aG1];have ef:(eS st).fmt (low (hZ (gA sid) gT)) ⟨#[]⟩=iB st (low (hZ (gA sid) gT)):=uN st _;rw[ef];have n1:¬ Cl st (gA sid):=fun h=>fx (t:=true) t1 h.1
  by_cases h1:eW comp=true∧iB st (low (hZ (gA sid) gT))=true
  ·rw[aH8 n1 ⟨h1.1,t2,h1.2⟩,if_pos (by rw[h1.1,h1.2];rfl:(eW comp && iB st (low (hZ (gA sid) gT)))=true)];have P:=R.push (q:={ p with known:=p.known++[(((lo+1+gT.size:Nat):Int),((hi - 1:Nat):Int))],pfmt:=p.known.length }) (x:=(((lo+1+gT.size:Nat):Int),((hi - 1:Nat):Int))) (hval _ t2) rfl rfl rfl;have hne:hZ (gA sid) gT≠⟨#[]⟩:=aF0 (SE.fmt _ h1.2);exact ⟨⟨R.s,R.typ,P.ids,R.unk,⟨P.ix.lang,P.ix.fmt,P.ix.kind,P.ix.cust,.inr ⟨P.new,hne⟩,P.ix.pkind,P.ix.play,P.ix.pl,P.ix.langs,P.ix.lne,P.ix.pos⟩,P.lay,R.hl,R.hk,R.base,R.dis,P.ext⟩,rfl⟩
  rw[sP n1 (fun h=>h1 ⟨h.1,h.2.2⟩) (fun h=>fx (t:=true) t3 h.2.1) (fun h=>fx (t:=true) t4 h.2),if_neg (fun h=>h1 (by rw[Bool.and_eq_true] at h;exact h):¬ ((eW comp && iB st (low (hZ (gA sid) gT)))=true))];exact ⟨hc,rfl⟩
 ·rw[rW e (ne4 _ (.inr (.inr (.inl rfl)))) (hlow _ t3),aG2,aEp];have n1:¬ Cl st (gA sid):=fun h=>fx (t:=true) t1 h.1;have n2:¬ Cf st (eW comp) (gA sid):=fun h=>fx (t:=true) t2 h.2.1
  by_cases h1:eW comp=true∧isKind (hZ (gA sid) gK)=true
  ·rw[aH9 n1 n2 ⟨h1.1,t3,h1.2⟩,if_pos (by rw[h1.1,h1.2];rfl:(eW comp && isKind (hZ (gA sid) gK))=true)];have P:=R.push (q:={ p with known:=p.known++[(((lo+1+gK.size:Nat):Int),((hi - 1:Nat):Int))],pkind:=p.known.length }) (x:=(((lo+1+gK.size:Nat):Int),((hi - 1:Nat):Int))) (hval _ t3) rfl rfl rfl;have hne:hZ (gA sid) gK≠⟨#[]⟩:=zS h1.2;exact ⟨⟨R.s,R.typ,P.ids,R.unk,⟨P.ix.lang,P.ix.fmt,P.ix.kind,P.ix.cust,P.ix.pfmt,.inr ⟨P.new,hne⟩,P.ix.play,P.ix.pl,P.ix.langs,P.ix.lne,P.ix.pos⟩,P.lay,R.hl,R.hk,R.base,R.dis,P.ext⟩,rfl⟩
  rw[sP n1 n2 (fun h=>h1 ⟨h.1,h.2.2⟩) (fun h=>fx (t:=true) t4 h.2),if_neg (fun h=>h1 (by rw[Bool.and_eq_true] at h;exact h):¬ ((eW comp && isKind (hZ (gA sid) gK))=true))];exact ⟨hc,rfl⟩
 ·rw[rW e (ne4 _ (.inr (.inr (.inr rfl)))) (hlow _ t4),aG4];have n1:¬ Cl st (gA sid):=fun h=>fx (t:=true) t1 h.1;have n2:¬ Cf st (eW comp) (gA sid):=fun h=>fx (t:=true) t2 h.2.1;have n3:¬ Ck (eW comp) (gA sid):=fun h=>fx (t:=true) t3 h.2.1
  by_cases h1:eW comp=true
  ·rw[aIb n1 n2 n3 ⟨h1,t4⟩,if_pos h1];have P:=R.push (q:={ p with known:=p.known++[(((lo+1+gB.size:Nat):Int),((hi - 1:Nat):Int))],play:=p.known.length }) (x:=(((lo+1+gB.size:Nat):Int),((hi - 1:Nat):Int))) (hval _ t4) rfl rfl rfl
   have hne:hZ (gA sid) gB≠⟨#[]⟩:=by
    intro h
    have hsz:(gA sid).size≤gB.size:=by
     have h9:=congrArg ByteArray.size h
     have hx:(hZ (gA sid) gB).size=(gA sid).size - gB.size:=by
      unfold hZ;rw[← eN,eX,List.length_take,List.length_drop,eN];omega
     rw[hx] at h9;have h0:(⟨#[]⟩:ByteArray).size=0:=rfl;omega
    have hpre:(L gB) <+: (L (low (gA sid))):=List.isPrefixOf_iff_prefix.1 t4;have h8:=hpre.eq_of_length_le (by rw[eN,eN,pW];exact hsz);refine hok h1 hw ?_
    have e1:(inner (L sid))=L (gA sid):=by
     unfold inner gA;rw[eX,eN];rfl
    rw[e1,← rU,← h8];rfl
   exact ⟨⟨R.s,R.typ,P.ids,R.unk,⟨P.ix.lang,P.ix.fmt,P.ix.kind,P.ix.cust,P.ix.pfmt,P.ix.pkind,.inr ⟨P.new,hne⟩,P.ix.pl,P.ix.langs,P.ix.lne,P.ix.pos⟩,P.lay,R.hl,R.hk,R.base,R.dis,P.ext⟩,rfl⟩
  rw[sP n1 n2 n3 (fun h=>h1 h.1),if_neg h1];exact ⟨hc,rfl⟩
 rw[aE0 e1 e2 e3 e4,sP (fun h=>fx (t:=true) t1 h.1) (fun h=>fx (t:=true) t2 h.2.1) (fun h=>fx (t:=true) t3 h.2.1) (fun h=>fx (t:=true) t4 h.2)];exact ⟨hc,rfl⟩
set_option maxHeartbeats 800000 in
theorem Rel.plain (R:Rel st comp sc T p r) (SE:qT st) (hext:r.ext≠⟨#[]⟩) {lo hi:Nat} {sid:ByteArray} (hsid:T.extract lo hi=sid) (pts:Nat) (last:Bool) (k:Int) (hk:last=decide (k < 0)) :
 Rel st comp sc T (jI (eS st) p comp (pts:Int) last ((lo:Int),(hi:Int)) sid).1 (jQ st comp sc pts r sid k) ∧
 (jQ st comp sc pts r sid k).marks=if (jI (eS st) p comp (pts:Int) last ((lo:Int),(hi:Int)) sid).2=true then r.marks++[k] else r.marks:=by
 have ht:sub T (((lo:Int),(hi:Int)):Int×Int).1 (((lo:Int),(hi:Int)):Int×Int).2=sid:=by rw[jB];exact hsid
 have el:(eS st).lang=listed st.langs:=rfl;have ed:(eS st).dis=listed st.dis:=rfl;have ef:(eS st).fmt sid (fO p 0)=jY st sid r.ext:=by rw[R.ext.str];exact aAq st _ _ hext
 unfold jI jQ;rw[el,ed,ef]
 have q1:(pZ p comp (pts:Int) && (listed st.langs sid || listed st.dis sid))=true↔((kA comp || eW comp)=true∧2≤pts∧r.hasLang=false)∧(listed st.langs sid || listed st.dis sid)=true:=by
  unfold pZ;rw[R.hl];simp only[Bool.and_eq_true,decide_eq_true_eq,beq_iff_eq,bne_eq_false_iff_eq];constructor
  ·rintro ⟨⟨⟨a,b⟩,c⟩,d⟩;exact ⟨⟨c,aR,b⟩,d⟩
  rintro ⟨⟨c,a,b⟩,d⟩;exact ⟨⟨⟨aR,b⟩,c⟩,d⟩
 have q3:(pK p comp && isKind sid)=true↔(eW comp=true∧r.hasKind=false∧isKind sid=true):=by
  unfold pK;rw[R.hk];simp only[Bool.and_eq_true,beq_iff_eq,bne_eq_false_iff_eq];constructor
  ·rintro ⟨⟨a,b⟩,c⟩;exact ⟨b,a,c⟩
  rintro ⟨b,a,c⟩;exact ⟨⟨a,b⟩,c⟩
 have q5:lO p comp last=true↔(eW comp=true∧¬ (sc=true∧k < 0)):=by
  unfold lO;rw[R.typ,hk]
  cases sc with
  | true=>simp;exact and_comm
  | false=>simp
 by_cases c1:(pZ p comp (pts:Int) && (listed st.langs sid || listed st.dis sid))=true
 ·rw[if_pos c1,if_pos (show _∧_ from q1.1 c1)];have hne1:sid≠⟨#[]⟩:=SE.lang _ (q1.1 c1).2;have P:=R.push (q:={ p with known:=p.known++[((lo:Int),(hi:Int))],lang:=p.known.length,dis:=p.dis || !listed st.langs sid }) (x:=((lo:Int),(hi:Int))) ht rfl rfl rfl;refine ⟨⟨R.s,R.typ,P.ids,R.unk,⟨.inr ⟨P.new,hne1⟩,P.ix.fmt,P.ix.kind,P.ix.cust,P.ix.pfmt,P.ix.pkind,P.ix.play,P.ix.pl,P.ix.langs,P.ix.lne,⟨.inr (by have:=List.length_pos_iff.2 R.ne;show (1:Int)≤(p.known.length:Int);omega),P.ix.pos.2⟩⟩,P.lay,?_,R.hk,R.base,?_,P.ext⟩,rfl⟩
  ·show true=((p.known.length:Int) != -1);exact (bne_iff_ne.2 bA).symm
  show (p.dis || !listed st.langs sid)=(r.dis || !listed st.langs sid);rw[R.dis]
 rw[if_neg c1,if_neg (fun h=>c1 (q1.2 h):¬ (((kA comp || eW comp)=true∧2≤pts∧r.hasLang=false)∧(listed st.langs sid || listed st.dis sid)=true))]
 by_cases c2:eW comp=true∧jY st sid r.ext=true
 ·rw[if_pos (by rw[Bool.and_eq_true];exact c2:(eW comp && jY st sid r.ext)=true),if_pos c2];have hne2:sid≠⟨#[]⟩:=SE.fmt _ (aBb c2.2);have P:=R.push (q:={ p with known:=p.known++[((lo:Int),(hi:Int))],fmt:=p.known.length }) (x:=((lo:Int),(hi:Int))) ht rfl rfl rfl;exact ⟨⟨R.s,R.typ,P.ids,R.unk,⟨P.ix.lang,.inr ⟨hne2,P.new⟩,P.ix.kind,P.ix.cust,P.ix.pfmt,P.ix.pkind,P.ix.play,P.ix.pl,P.ix.langs,P.ix.lne,P.ix.pos⟩,P.lay,R.hl,R.hk,R.base,R.dis,P.ext⟩,rfl⟩
 rw[if_neg (by rw[Bool.and_eq_true];exact c2:¬ ((eW comp && jY st sid r.ext)=true)),if_neg c2]
 by_cases c3:(pK p comp && isKind sid)=true
 ·rw[if_pos c3,if_pos (show _∧_ from q3.1 c3)];have hne3:sid≠⟨#[]⟩:=zS (q3.1 c3).2.2;have P:=R.push (q:={ p with known:=p.known++[((lo:Int),(hi:Int))],kind:=p.known.length }) (x:=((lo:Int),(hi:Int))) ht rfl rfl rfl;refine ⟨⟨R.s,R.typ,P.ids,R.unk,⟨P.ix.lang,P.ix.fmt,.inr ⟨P.new,hne3⟩,P.ix.cust,P.ix.pfmt,P.ix.pkind,P.ix.play,P.ix.pl,P.ix.langs,P.ix.lne,P.ix.pos⟩,P.lay,R.hl,?_,R.base,R.dis,P.ext⟩,rfl⟩;show true=((p.known.length:Int) != -1);exact (bne_iff_ne.2 bA).symm
 rw[if_neg c3,if_neg (fun h=>c3 (q3.2 h):¬ (eW comp=true∧r.hasKind=false∧isKind sid=true))]
 by_cases c4:sid.toList=vS
 ·rw[if_pos (by rw[c4];rfl:(sid.toList==[98,97,115,101,111,102])=true),if_pos c4];have P:=R.push (q:={ p with known:=p.known++[((lo:Int),(hi:Int))],base:=p.known.length }) (x:=((lo:Int),(hi:Int))) ht rfl rfl rfl;refine ⟨⟨R.s,R.typ,P.ids,R.unk,⟨P.ix.lang,P.ix.fmt,P.ix.kind,P.ix.cust,P.ix.pfmt,P.ix.pkind,P.ix.play,P.ix.pl,P.ix.langs,P.ix.lne,P.ix.pos⟩,P.lay,R.hl,R.hk,?_,R.dis,P.ext⟩,rfl⟩;show true=((p.known.length:Int) != -1);exact (bne_iff_ne.2 bA).symm
 rw[if_neg (by intro h;exact c4 (beq_iff_eq.1 h):¬ ((sid.toList==[98,97,115,101,111,102])=true)),if_neg c4]
 by_cases c5:lO p comp last=true
 ·rw[if_pos c5,if_pos (show _∧_ from q5.1 c5)];rcases R.lay with ⟨l1,l2,l3⟩ | ⟨l1,l2,y,l3,l4⟩
  ·rw[if_neg (by rw[l1];decide:¬ ((p.lay != -1)=true)),if_pos (by rw[l2];decide:r.layAt < 0)]
   have G:Grown p { p with known:=p.known++[((lo:Int),(hi:Int))],lay:=p.known.length }:=⟨rfl,.inl ⟨_,rfl,.inr rfl⟩⟩
   have M:=R.ix.grown G;have hpos:=List.length_pos_iff.2 R.ne;refine ⟨⟨R.s,R.typ,?_,R.unk,⟨M.lang,M.fmt,M.kind,M.cust,M.pfmt,M.pkind,M.play,M.pl,M.langs,M.lne,M.pos⟩,.inr ⟨?_,?_,((lo:Int),(hi:Int)),?_,?_⟩,R.hl,R.hk,R.base,R.dis,R.ext.grown G⟩,rfl⟩
   ·show r.ids++[sid]=kW _;rw[R.ids];unfold kW;rw[List.map_append,List.map_cons,List.map_nil,R.s,ht]
   ·show (p.known.length:Int)=(r.ids.length:Int);rw[R.ids];unfold kW;rw[List.length_map]
   ·show (1:Int)≤(p.known.length:Int);omega
   ·show (p.known++[_])[(p.known.length:Int).toNat]? = _;rw[Int.toNat_natCast,List.getElem?_append_right (Nat.le_refl _),Nat.sub_self];rfl
   show sub p.s _ _=sid;rw[R.s];exact ht
  rw[if_pos (bne_iff_ne.2 bA:(p.lay != -1)=true),if_neg (by omega:¬ (r.layAt < 0))]
  have G:Grown p { p with known:=p.known.set p.lay.toNat ((lo:Int),(hi:Int)),unknown:=p.unknown++[p.known.getD p.lay.toNat (0,0)] }:=⟨rfl,.inr (.inl ⟨_,rfl,rfl,l2⟩)⟩
  have M:=R.ix.grown G;have hlt:=(List.getElem?_eq_some_iff.1 l3).1;refine ⟨⟨R.s,R.typ,?_,?_,⟨M.lang,M.fmt,M.kind,M.cust,M.pfmt,M.pkind,M.play,M.pl,M.langs,M.lne,M.pos⟩,.inr ⟨l1,l2,((lo:Int),(hi:Int)),?_,?_⟩,R.hl,R.hk,R.base,R.dis,R.ext.grown G⟩,rfl⟩
  ·show r.ids.set r.layAt.toNat sid=kW _;rw[R.ids,← l1];unfold kW;rw[List.map_set,R.s,ht]
  ·show r.unk++[r.lay1]=mQ _;rw[R.unk];unfold mQ;rw[List.map_append,List.map_cons,List.map_nil,List.getD_eq_getElem?_getD,l3,Option.getD_some,l4]
  ·show (p.known.set p.lay.toNat _)[p.lay.toNat]? = _;rw[List.getElem?_set_self hlt]
  show sub p.s _ _=sid;rw[R.s];exact ht
 rw[if_neg c5,if_neg (fun h=>c5 (q5.2 h):¬ (eW comp=true∧¬ (sc=true∧k < 0)))]
 have G:Grown p { p with unknown:=p.unknown++[((lo:Int),(hi:Int))] }:=⟨rfl,.inr (.inr ⟨rfl,rfl⟩)⟩
 have M:=R.ix.grown G;refine ⟨⟨R.s,R.typ,R.ids,?_,⟨M.lang,M.fmt,M.kind,M.cust,M.pfmt,M.pkind,M.play,M.pl,M.langs,M.lne,M.pos⟩,R.lay,R.hl,R.hk,R.base,R.dis,R.ext.grown G⟩,rfl⟩;show r.unk++[sid]=mQ _;rw[R.unk];unfold mQ;rw[List.map_append,List.map_cons,List.map_nil,R.s,ht]
theorem Rel.first {p:eQ} (hs:p.s=T) (htyp:p.typ=if sc then 7 else 0) (hz:p = { gJ with comp:=p.comp,s:=p.s,typ:=p.typ }) {lo hi:Nat} {sid:ByteArray} (hsid:T.extract lo hi=sid) (k:Int) :
 Rel st comp sc T (rM (eS st) (eW comp) p ((lo:Int),(hi:Int)) sid) (oY lG sid k)∧(oY lG sid k).marks=[k]:=by
 have ef:(eS st).fmt sid ⟨#[]⟩=iB st sid:=uN st _;unfold rM;rw[ef];have e:∀ {α:Type} (f:eQ→α),f p=f { gJ with comp:=p.comp,s:=p.s,typ:=p.typ }:=fun f=>congrArg f hz;have k1:p.known=[]:=e (·.known);refine ⟨⟨hs,htyp,?_,?_,⟨.inl ⟨e (·.lang),rfl⟩,.inl ⟨rfl,?_⟩,.inl ⟨e (·.kind),rfl⟩,.inl ⟨e (·.cust),rfl⟩,.inl ⟨e (·.pfmt),rfl⟩,.inl ⟨e (·.pkind),rfl⟩,.inl ⟨e (·.play),rfl⟩,?_,?_,(fun t ht=>by cases ht),⟨.inl (e (·.lang)),?_⟩⟩,.inl ⟨e (·.lay),rfl,rfl⟩,?_,?_,?_,e (·.dis),⟨Int.le_refl 0,?_,((lo:Int),(hi:Int)),?_,?_⟩⟩,rfl⟩
 ·show [sid]=(p.known++[_]).map _;rw[k1,hs];show _=[sub T (lo:Int) (hi:Int)];rw[jB,hsid]
 ·show []=p.unknown.map _;rw[show p.unknown=[] from e (·.unknown)];rfl
 ·show (if (eW comp && iB st sid)=true then (0:Int) else p.fmt)=if (eW comp && iB st sid)=true then 0 else -1
  rw[show p.fmt = -1 from e (·.fmt)]
 ·show ∀ i∈p.plangs,_;rw[show p.plangs=[] from e (·.plangs)];intro i hi;cases hi
 ·show []=p.plangs.map _;rw[show p.plangs=[] from e (·.plangs)];rfl
 ·show ∀ i∈p.plangs,_;rw[show p.plangs=[] from e (·.plangs)];intro i hi;cases hi
 ·show false=(p.lang != -1);rw[show p.lang = -1 from e (·.lang)];rfl
 ·show false=(p.kind != -1);rw[show p.kind = -1 from e (·.kind)];rfl
 ·show false=(p.base != -1);rw[show p.base = -1 from e (·.base)];rfl
 ·show (0:Int)≠p.lay;rw[show p.lay = -1 from e (·.lay)];decide
 ·show (p.known++[_])[0]? = _;rw[k1];rfl
 show sub p.s _ _=sid;rw[hs,jB];exact hsid
theorem aF3 {E:Env} {nd:Int} {last:Bool} {lo hi ld:Nat} {sid:ByteArray} (h1:idHigh p ld=hi) (h2:p.s.extract lo hi=sid) (hw:mM sid=true):jE E p comp lo ld nd last=(nE E (eW comp) p lo hi sid,true):=by
 unfold jE;rw[h1];simp only[h2,hw,if_true]
theorem Rel.later (R:Rel st comp sc T p r) (SE:qT st) (hext:r.ext≠⟨#[]⟩) {lo ld:Nat} {sid:ByteArray} (hsid:T.extract lo ld=sid) (hld:ld≤T.size) (hok:eW comp=true→okW (L sid)) (pts:Nat) (last:Bool) (k:Int) (hk:last=decide (k < 0)) :
 Rel st comp sc T (jE (eS st) p comp lo ld (pts:Int) last).1 (mB st comp sc pts r sid k) ∧
 (mB st comp sc pts r sid k).marks=if (jE (eS st) p comp lo ld (pts:Int) last).2=true then r.marks++[k] else r.marks:=by
 have hh:idHigh p ld=ld:=by unfold idHigh;rw[if_neg R.ne]
 have hs:p.s.extract lo ld=sid:=by rw[R.s];exact hsid
 by_cases hw:iO (L sid)=true
 ·have e1:mB st comp sc pts r sid k=jO st (eW comp) r sid (gA sid) k:=by unfold mB;rw[if_pos hw]
  rw[aF3 hh hs (by rw[tB];exact hw),e1,if_pos rfl];exact R.wrap SE hsid hld hw hok k
 have e1:mB st comp sc pts r sid k=jQ st comp sc pts r sid k:=by unfold mB;rw[if_neg hw]
 rw[wI hh hs (by rw[tB];simpa using hw) R.ne,e1];exact R.plain SE hext hsid pts last k hk
end
end Go.Proofs.YtbkobfoaphcamaaGreatDoor.Path
