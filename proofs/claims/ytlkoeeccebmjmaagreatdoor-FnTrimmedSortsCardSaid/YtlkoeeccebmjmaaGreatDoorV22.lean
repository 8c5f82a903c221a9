/- Texts that the law leans on: Spec5, PTextsx0, PTextsx1, PTextsx, ViewPure, SpecTrimmed. Condition: as told at each. -/
import Derived.Test.YtlkoeeccebmjmaaGreatDoorProg
import Derived.Below
import Derived.Deep.Draws
import Derived.Deep.AppendLies
import Derived.Maps.AppendAt
import Derived.OwnWalk
import Derived.Laws.BytesArg
import Derived.Laws.MakeOwn
import Derived.Laws.OwnMore
import Derived.Deep.OwnRows
import Derived.Tactics
import Derived.Lib.ConvBytes
import Derived.Laws.Slices
import Derived.WalkKit
import Derived.KernelRfl
import Derived.RowKit3
import Derived.Deep.LoopGhost
import Derived.Deep.QuietTactic
import Derived.BigQuiet
import Derived.WideLaws
import Derived.Deep.DeepCutAuto
import Derived.Deep.CutBlock
import Derived.Deep.RegionHeld3
import Derived.Laws.Rows
import Derived.Lib.AppendStr
import Derived.ArgAppend
import Derived.Laws.IdiomCopy
import Derived.OrdersHeld
import Derived.Laws.BitsLemmas
import Derived.RowKit
import Derived.Laws.StructEq
import Derived.Test.YtlkoeeccebmjmaaGreatDoorVa
import Derived.Test.YtlkoeeccebmjmaaGreatDoorV21
set_option linter.unusedVariables false
set_option linter.unusedSimpArgs false
set_option maxRecDepth 100000
set_option maxHeartbeats 16000000
namespace Go.Proofs.YtlkoeeccebmjmaaGreatDoor.Path
open Go.RowKit Go.ZW.PrintWords Go.Proofs.YtlkoeeccebmjmaaGreatDoor.Base Go.Proofs.YtlkoeeccebmjmaaGreatDoor.Total Go.Proofs.YtlkoeeccebmjmaaGreatDoor.Lower
def wV (st:fO) (comp T:ByteArray) (n:List UInt8) (r:RV) (e:Nat) (t:Int):WV :=
 { comp:=comp,path:=T,name:=lastB T,nEnd:=e,ids:=r.ids,unk:=r.unk,langs:=r.langs,ext:=r.ext,fmt:=if eR comp=true∧chooseB r.fmt r.fmt1=⟨#[]⟩∧eS n≠[]∧hE st r.ext=true then r.ext else chooseB r.fmt r.fmt1,kind:=chooseB r.kind r.kind1,lay:=chooseB r.lay r.lay1,lang:=(match r.langs with | []=>r.lang1 | l::_=>l),cust:=r.cust,dis:=r.dis,typ:=t }
theorem aCi {b:Bool} {x:ByteArray} (h:(L x).head?≠some 47):nrm b x=x:=by
 unfold nrm;split
 ·refine L_inj ?_;rw[kB];unfold Lib.trimPrefix Lib.hasPrefix;rw[if_neg];intro hp;rw[List.isPrefixOf_iff_prefix] at hp;obtain ⟨t,ht⟩:=hp;exact h (by rw[← ht];rfl)
 rfl
theorem aFy {p:eI} {k0:Int×Int} (h:p.known=[k0]) (b:Bool):jI p true b=nrm p.trim p.s:=by
 unfold jI;rw[h];simp
theorem xU {p:eI} {k0 k1:Int×Int} {rest:List (Int×Int)} (h:p.known=k0::k1::rest) {b:Bool}:jI p true b=nrm p.trim (sub p.s 0 (lJ p b)++sub p.s (k0.1 - 1) k0.2):=by
 unfold jI;rw[h];simp
theorem aIh (b:Bool):nrm b ⟨#[]⟩=⟨#[]⟩:=aCi (by rw[show L (⟨#[]⟩:ByteArray)=[] from rfl];decide)
theorem aBm {w:ByteArray} (h:iK (L w)=true):(⟨(Lib.trimSuffix (Lib.trimPrefix (L w) [95]) [95]).toArray⟩:ByteArray)=fS w:=by
 refine L_inj ?_;unfold iK at h;simp only[Bool.and_eq_true,decide_eq_true_eq,beq_iff_eq] at h;obtain ⟨h1,h2,h3⟩:=h;have hz:=eE w;rw[kB];unfold fS;rw[eQ]
 cases hl:L w with
 | nil=>rw[hl] at h1;simp at h1
 | cons a m =>
  rw[hl] at h1 h2 h3 hz;simp only[List.getElem?_cons_zero,Option.some.injEq] at h2;subst h2
  have e1:Lib.trimPrefix (95::m) [95]=m:=by
   unfold Lib.trimPrefix Lib.hasPrefix;rw[if_pos (by rw[List.isPrefixOf_iff_prefix];exact ⟨m,rfl⟩)];rfl
  have hm:m≠[]:=by rintro rfl;simp at h1
  have e2:m.getLast? = some 95:=by
   rw[List.getLast?_eq_getElem?]
   have:(95::m)[(95::m).length - 1]? = m[m.length - 1]?:=by
    rw[show (95::m).length - 1=(m.length - 1)+1 by have:=List.length_pos_iff.2 hm;simp;omega,List.getElem?_cons_succ]
   rw[← this];exact h3
  rw[e1];unfold Lib.trimSuffix Lib.hasSuffix;rw[if_pos]
  ·show m.take (m.length - 1)=((95::m).drop 1).take (w.size - 1 - 1);rw[show (95::m).drop 1=m from rfl];congr 1;rw[← hz];simp
  rw[List.isSuffixOf_iff_suffix];rw[List.getLast?_eq_some_iff] at e2;obtain ⟨t,ht⟩:=e2;exact ⟨t,ht.symm⟩
section
variable {st:fO} {T:ByteArray} {q:Nat} {n:List UInt8} {p:eI} {r:RV} {e sc:Nat} {t:Int} (P:PW st T q n p r e sc t)
include P
theorem PW.turn {p' : eI} (h:∃ ty tr,p' = { p with typ:=ty,trim:=tr }):PW st T q n p' r e sc t:=by
 obtain ⟨ty,tr,rfl⟩:=h
 have G:Grown p { p with typ:=ty,trim:=tr }:=⟨rfl,.inr (.inr ⟨rfl,rfl⟩)⟩
 refine ⟨P.split,P.head,P.h47,P.no,P.s,P.cHigh,P.cLow,P.sec,P.sc,P.nLow,P.nHigh,P.le,P.rend,?_⟩;rcases P.words with h | ⟨h1,h2,R,h3⟩
 ·exact .inl h
 exact .inr ⟨h1,h2,⟨R.ids,R.unk,R.ix.grown G,R.lay,R.dis,R.ext⟩,h3⟩
theorem PW.size:T.size=q+1+n.length:=by
 obtain ⟨pre,S,hp⟩:=P.split;rw[← eE,S.eq,List.length_append,hp]
theorem PW.ns (j:Nat) (h:q < j):(L T)[j]?≠some 47:=by
 obtain ⟨pre,S,hp⟩:=P.split;rw[S.eq,List.getElem?_append_right bA];exact S.no _
theorem PW.sl:slB (L T) T.size=some q:=xK P.h47 _ (by have:=P.size;omega) (fun j h _=>P.ns j h)
theorem PW.nameL:L (lastB T)=n:=by
 obtain ⟨pre,S,hp⟩:=P.split;unfold lastB;rw[kB,S.behind.1,← S.behind.2]
theorem PW.nameZ:(lastB T).size=n.length:=by rw[← eE,P.nameL]
theorem PW.text (a b:Nat):T.extract (q+1+a) (q+1+b)=(lastB T).extract a b:=by
 obtain ⟨pre,S,hp⟩:=P.split;exact sH S hp P.nameL a b
theorem PW.name:vT p=lastB T:=by
 obtain ⟨pre,S,hp⟩:=P.split;refine L_inj ?_;unfold vT;rw[P.cHigh,P.s,show (q:Int)+1=((q+1:Nat):Int) by omega,aI8,P.nameL,← hp,S.eq,List.drop_left]
theorem PW.nameNoId:nM p=(lastB T).extract 0 e:=by
 unfold nM;rw[P.nLow,P.nHigh,P.s,show (q:Int)+1=((q+1:Nat):Int) by omega,iV];exact P.text 0 e
theorem PW.dir:xC p=nrm p.trim (hY T):=by
 have h:=P.sl;unfold xC hY;rw[h]
 cases q with
 | zero=>rw[if_pos (by rw[P.cHigh];rfl)]
 | succ a =>
  rw[if_neg (by rw[P.cHigh];omega),P.cHigh,P.s,show ((a+1:Nat):Int)+1 - 1=((a+1:Nat):Int) by omega];rfl
theorem PW.low {a:Nat} (h:q=a+1):∃ j:Nat,slB (L T) (a+1)=some j∧p.cLow=(j:Int)+1∧j < a∧(L T)[j]? = some 47∧∀ i,j < i→i < a+1→(L T)[i]?≠some 47:=by
 subst h;obtain ⟨j,hj⟩:=xJ P.head (a+1) bA;obtain ⟨h1,h2,h3⟩:=aCr _ hj;refine ⟨j,hj,?_,?_,h1,h3⟩
 ·rw[P.cLow,aD9,hj]
 by_cases c:j=a
 ·subst c;exact absurd ⟨h1,P.h47⟩ (P.no j)
 omega
theorem PW.low0 (h:q=0):p.cLow = -1:=by subst h;rw[P.cLow];rfl
theorem PW.lastOf {a j:Nat} (h:q=a+1) (h1:(L T)[j]? = some 47) (h2:j < a) (h3:∀ i,j < i→i < a+1→(L T)[i]?≠some 47):lastB (T.extract 0 (a+1))=T.extract (j+1) (a+1):=by
 have hlen:a+1 < (L T).length:=by rw[eE,P.size];omega
 refine L_inj ?_;have e1:L (T.extract 0 (a+1))=(L T).take (a+1):=by rw[eQ];rfl
 have S:mX ((L T).take (a+1)) ((L T).take (j+1)) (((L T).take (a+1)).drop (j+1)):=by
  refine ⟨?_,⟨(L T).take j,?_⟩,fun k=>?_⟩
  ·have:=(List.take_append_drop (j+1) ((L T).take (a+1))).symm;rwa[List.take_take,Nat.min_eq_left bA] at this
  ·obtain ⟨g1,g2⟩:=List.getElem?_eq_some_iff.1 h1;rw[List.take_succ_eq_append_getElem g1,g2]
  rw[List.getElem?_drop,List.getElem?_take];split
  ·exact h3 _ bA bA
  simp
 unfold lastB;rw[kB,e1,S.behind.1,eQ,List.drop_take];congr 2
 all_goals rw[List.length_take];omega
theorem PW.cont:mZ p=jB T:=by
 have h:=P.sl;unfold mZ jB;rw[h]
 cases q with
 | zero=>rw[if_pos (P.low0 rfl)];rfl
 | succ a =>
  obtain ⟨j,hj,h1,h2,h3,h4⟩:=P.low rfl;rw[if_neg bA,h1,P.cHigh,P.s,show ((a+1:Nat):Int)+1 - 1=((a+1:Nat):Int) by omega,show (j:Int)+1=((j+1:Nat):Int) by omega,iV];simp only[];rw[P.lastOf rfl h3 h2 h4];refine aCi ?_;rw[eQ,List.head?_take,if_neg bA,List.head?_drop];exact h4 _ bA bA
theorem PW.contNe {a:Nat} (h:q=a+1):jB T≠⟨#[]⟩:=by
 subst h;obtain ⟨j,hj,h1,h2,h3,h4⟩:=P.low rfl;unfold jB;rw[P.sl];simp only[];rw[P.lastOf rfl h3 h2 h4];intro hh;have h9:=congrArg ByteArray.size hh;rw[← eE,eQ,List.length_take,List.length_drop,eE,P.size] at h9;have h0:(⟨#[]⟩:ByteArray).size=0:=rfl;omega
theorem PW.contDir {comp:ByteArray}:mR p=nrm p.trim (mL (wV st comp T n r e p.typ)):=by
 unfold mR mL;show _=nrm p.trim (if jL p.typ=true∧jB T≠⟨#[]⟩ then (hY T).extract 0 ((slB (L (hY T)) (hY T).size).getD 0) else hY T)
 by_cases h0:q=0
 ·have hc:jB T=⟨#[]⟩:=by
   unfold jB;rw[P.sl,h0]
  rw[if_pos (.inl (P.low0 h0)),if_neg (fun h=>h.2 hc)];exact P.dir
 obtain ⟨a,ha⟩:∃ a,q=a+1:=⟨q - 1,aR⟩
 obtain ⟨j,hj,h1,h2,h3,h4⟩:=P.low ha;have hne:=P.contNe ha
 by_cases hb:3≤p.typ∧p.typ≤5
 ·rw[if_neg (by rintro (h | h) <;> first | omega | exact h hb),if_pos ⟨by unfold jL;exact decide_eq_true hb,hne⟩,h1,P.s,show (j:Int)+1 - 1=(j:Int) by omega]
  have hd:hY T=T.extract 0 (a+1):=by
   unfold hY;rw[P.sl,ha]
  have hz:(T.extract 0 (a+1)).size=a+1:=by
   rw[← eE,eQ,List.length_take,List.length_drop,eE,P.size];omega
  have hs:slB (L (hY T)) (hY T).size=some j:=by
   rw[hd,hz];refine xK ?_ _ bA (fun i g1 g2=>?_)
   ·rw[eQ,List.drop_zero,List.getElem?_take,if_pos bA];exact h3
   rw[eQ,List.drop_zero,List.getElem?_take,if_pos bA];exact h4 i g1 bA
  rw[hs,Option.getD_some,hd];congr 1;refine L_inj ?_;rw[show (0:Int)=((0:Nat):Int) from rfl,iV,eQ,eQ,eQ,List.drop_zero,List.drop_zero,List.take_take];congr 1;omega
 rw[if_pos (.inr hb),if_neg (by rintro ⟨h,_⟩;unfold jL at h;exact hb (of_decide_eq_true h))];exact P.dir
theorem PW.section_:pT p=qO T t:=by
 obtain ⟨pre,S,hp⟩:=P.split;obtain ⟨c1,c2⟩:=aC5 S hp P.head;unfold pT qO;rw[c1]
 by_cases h0:q=0
 ·have a1:cntF (L T) q=0∨(cntF (L T) q=1∧t=3):=.inl (c2.2 h0)
  have a2:p.sec≤0:=by
   rw[P.sec,h0,if_neg (by omega:¬ 0 < 0)];split
   ·exact Int.le_refl _
   show (-1:Int)≤0;decide
  rw[if_pos a2,if_pos a1];rfl
 have hne:cntF (L T) q≠0:=fun h=>h0 (c2.1 h);obtain ⟨f,f1,f2,f3,f4,f5⟩:=zP (l:=L T) q q (Nat.le_refl _) bA P.h47 (fun j a b c=>by omega)
 by_cases h3:t=3∧sc=2
 ·have a1:cntF (L T) q=0∨(cntF (L T) q=1∧t=3):=.inr ⟨by have:=P.sc;omega,h3.1⟩;have a2:p.sec≤0:=by rw[P.sec,if_pos h3];exact Int.le_refl _
  rw[if_pos a2,if_pos a1];rfl
 have hs:p.sec=(f:Int):=by rw[P.sec,if_neg h3,if_pos bA,f1]
 have a1:¬ (cntF (L T) q=0∨(cntF (L T) q=1∧t=3)):=by
  rintro (h | ⟨h,h'⟩)
  ·exact hne h
  exact h3 ⟨h',by have:=P.sc;omega⟩
 have a2:¬ (p.sec≤0):=by rw[hs];omega
 rw[if_neg a2,if_neg a1,hs,P.s,show (1:Int)=((1:Nat):Int) from rfl,iV]
 have htw:((L T).drop 1).takeWhile (fun c=>c != 47)=((L T).drop 1).take (f - 1):=by
  refine rU _ _ ?_ (fun j hj=>?_)
  ·rw[List.getElem?_drop,show 1+(f - 1)=f by omega];exact f4
  rw[List.getElem?_drop];exact f5 _ bA bA
 rw[htw];have e1:(⟨(((L T).drop 1).take (f - 1)).toArray⟩:ByteArray)=T.extract 1 f:=L_inj (by rw[kB,eQ]);rw[e1];refine aCi ?_;rw[eQ,List.head?_take];split
 ·simp
 rw[List.head?_drop];intro h;exact P.no 0 ⟨P.head,h⟩
theorem PW.high:lJ p false=((q+1+e:Nat):Int):=by
 unfold lJ;simp only[Bool.false_eq_true,if_false];rw[P.nHigh,if_neg bA]
theorem PW.cat:T.extract 0 (T.size - (lastB T).size)++(lastB T).extract 0 e=T.extract 0 (q+1+e):=by
 refine L_inj ?_;have hz:=P.size;rw[nD,P.nameZ,← P.text 0 e,eQ,eQ,eQ,hz,show q+1+n.length - n.length=q+1 by omega,List.drop_zero,Nat.sub_zero,Nat.sub_zero,Nat.add_zero,show q+1+e - (q+1)=e by omega];exact (List.take_add ..).symm
theorem PW.idsNe (h:p.known≠[]):r.ids≠[]:=by
 rcases P.words with ⟨h1,_⟩ | ⟨_,_,R,_⟩
 ·exact absurd h1 h
 rw[R.ids];unfold kN;simpa using h
theorem PW.none (h:p.known=[]):r=lA∧eS n=[]∧e=n.length:=by
 rcases P.words with ⟨_,h1,h2,h3,_⟩ | ⟨h1,_⟩
 ·exact ⟨h2,h1,h3⟩
 exact absurd h h1
theorem PW.point (h:p.known≠[]):∃ (c:Nat) (rest:List (Int×Int)),p.known=(((q+1+c+1:Nat):Int),(T.size:Int))::rest∧c < n.length∧r.ext=T.extract (q+1+c+1) T.size∧r.ext.size=n.length - c - 1∧(L T)[q+1+c]? = some 46∧e≤c:=by
 rcases P.words with ⟨h1,_⟩ | ⟨_,_,R,_,_,c,h1,h2,h46,hec⟩
 ·exact absurd h1 h
 cases hk:p.known with
 | nil=>exact absurd hk h
 | cons x rest =>
  rw[hk] at h1;injection h1 with h1
  subst h1
  have e1:r.ext=T.extract (q+1+c+1) T.size:=by
   rw[← R.ext];unfold fG;rw[if_neg bG,hk,P.s];exact iV _ _ _
  refine ⟨c,rest,rfl,h2,e1,?_,?_,hec⟩;rotate_left
  ·obtain ⟨pre,S,hp⟩:=P.split;rw[S.eq,List.getElem?_append_right bA,show q+1+c - pre.length=c by omega];exact h46
  rw[e1,← eE,eQ,List.length_take,List.length_drop,eE,P.size];omega
theorem PW.noId {comp:ByteArray} {ty:Int}:jI p false false=nrm p.trim (kK (wV st comp T n r e ty)):=by
 unfold jI kK rA;show _=nrm p.trim (if r.ids=[] then T else T.extract 0 (T.size - (lastB T).size)++(lastB T).extract 0 e)
 cases hk:p.known with
 | nil =>
  obtain ⟨hr,_⟩:=P.none hk;rw[if_pos (by rw[hr];rfl),P.s]
 | cons k0 rest =>
  rw[if_neg (P.idsNe (by rw[hk];simp)),P.cat];simp only[Bool.false_eq_true,false_and,if_false];rw[P.high,P.s];rfl
theorem PW.noExt {comp:ByteArray} {ty:Int}:oL p=kT (wV st comp T n r e ty) (lastB T):=by
 unfold oL kT;show _=if r.ids=[] then lastB T else (lastB T).extract 0 ((lastB T).size - r.ext.size - 1)
 cases hk:p.known with
 | nil =>
  obtain ⟨hr,_⟩:=P.none hk;rw[if_pos (by rw[hr];rfl)];exact P.name
 | cons k0 rest =>
  have hne:p.known≠[]:=by rw[hk];simp
  obtain ⟨c,rest',h1,h2,h3,h4,_⟩:=P.point hne;rw[hk] at h1;injection h1 with h1 _
  rw[if_neg (P.idsNe hne),h1,h4,P.nameZ,P.cHigh,P.s];show sub T ((q:Int)+1) (((q+1+c+1:Nat):Int) - 1)=_;rw[show (q:Int)+1=((q+1+0:Nat):Int) by omega,show ((q+1+c+1:Nat):Int) - 1=((q+1+c:Nat):Int) by omega,iV,P.text 0 c];congr 1;omega
theorem PW.before {comp:ByteArray} {ty:Int}:rC p=nrm p.trim (kT (wV st comp T n r e ty) T):=by
 unfold rC kT;show _=nrm p.trim (if r.ids=[] then T else T.extract 0 (T.size - r.ext.size - 1))
 cases hk:p.known with
 | nil =>
  obtain ⟨hr,_⟩:=P.none hk;rw[if_pos (by rw[hr];rfl),P.s]
 | cons k0 rest =>
  have hne:p.known≠[]:=by rw[hk];simp
  obtain ⟨c,rest',h1,h2,h3,h4,_⟩:=P.point hne;rw[hk] at h1;injection h1 with h1 _
  rw[if_neg (P.idsNe hne),h1,h4,P.s];show nrm p.trim (sub T 0 (((q+1+c+1:Nat):Int) - 1))=_;rw[show ((q+1+c+1:Nat):Int) - 1=((q+1+c:Nat):Int) by omega,show (0:Int)=((0:Nat):Int) from rfl,iV,P.size];congr 2;omega
theorem PW.withExt (h:p.known≠[]):∃ k0 rest,p.known=k0::rest∧sub p.s 0 (lJ p false)++sub p.s (k0.1 - 1) k0.2=T.extract 0 (T.size - (lastB T).size)++(lastB T).extract 0 e++⟨#[46]⟩++r.ext:=by
 obtain ⟨c,rest,h1,h2,h3,h4,hdot,_⟩:=P.point h;refine ⟨_,rest,h1,?_⟩;rw[P.cat,P.high,P.s];show sub T 0 ((q+1+e:Nat):Int)++sub T (((q+1+c+1:Nat):Int) - 1) (T.size:Int)=_;rw[show ((q+1+c+1:Nat):Int) - 1=((q+1+c:Nat):Int) by omega,show (0:Int)=((0:Nat):Int) from rfl,iV,iV,h3];refine L_inj ?_;rw[nD,nD,nD,List.append_assoc];congr 1;rw[eQ,eQ];have hlt:q+1+c < (L T).length:=by rw[eE,P.size];omega
 rw[List.take_of_length_le (by rw[List.length_drop,eE];omega),List.take_of_length_le (by rw[List.length_drop,eE];omega),List.drop_eq_getElem_cons hlt];rw[List.getElem?_eq_getElem hlt] at hdot;injection hdot with hdot
 rw[hdot];rfl
theorem PW.oneKnown:r.ids.length=p.known.length:=by
 rcases P.words with ⟨h1,_,h2,_⟩ | ⟨_,_,R,_⟩
 ·rw[h1,h2];rfl
 rw[R.ids];unfold kN;rw[List.length_map]
theorem PW.pathNe (x:ByteArray) (hx:∃ k,L x=(L T).take k) (b:Bool):L (nrm b x)=[47]→b=false∧L x=[47]:=by
 intro h;obtain ⟨k,hk⟩:=hx
 cases b with
 | false=>exact ⟨rfl,h⟩
 | true =>
  exfalso;unfold nrm at h;rw[if_pos rfl,kB,hk] at h
  cases k with
  | zero=>rw[List.take_zero] at h;cases h
  | succ k =>
   have h0:=P.head
   cases hl:L T with
   | nil=>rw[hl] at h0;cases h0
   | cons a m =>
    rw[hl] at h0 h;simp only[List.getElem?_cons_zero,Option.some.injEq] at h0;subst h0;rw[List.take_succ_cons] at h;unfold Lib.trimPrefix Lib.hasPrefix at h;rw[if_pos (by rw[List.isPrefixOf_iff_prefix];exact ⟨_,rfl⟩)] at h;have h2:(m.take k)=[47]:=h
    have h3:m[0]? = some 47:=by
     have:=congrArg (fun l=>l[0]?) h2;simp only[List.getElem?_cons_zero] at this;rw[List.getElem?_take] at this;split at this
     ·exact this
     cases this
    exact P.no 0 ⟨by rw[hl];rfl,by rw[hl];exact h3⟩
theorem PW.base {comp:ByteArray}:tF p=nrm p.trim (lR (wV st comp T n r e p.typ)):=by
 unfold tF lR;show (if _ then _ else _)=nrm p.trim (if r.ids=[] then (if T=⟨#[47]⟩∧2≤p.typ∧p.typ≤5 then ⟨#[]⟩ else T) else if jL p.typ=true then (if hY T=⟨#[47]⟩ then ⟨#[]⟩ else hY T) else if p.typ=2 then kK (wV st comp T n r e p.typ) else if r.ids.length=1 then T else kK (wV st comp T n r e p.typ)++⟨#[46]⟩++r.ext)
 have hone:∀ x:ByteArray,x=⟨#[47]⟩↔L x=[47]:=fun x=>⟨fun h=>by rw[h];rfl,fun h=>L_inj (by rw[h];rfl)⟩
 have empt:(ByteArray.empty:ByteArray)=nrm p.trim ⟨#[]⟩:=by rw[aIh];rfl
 have take:∀ (x:ByteArray) (k:Nat),x=T.extract 0 k→∃ k,L x=(L T).take k:=by
  rintro x k rfl;exact ⟨k,by rw[eQ];rfl⟩
 have whole:∃ k,L T=(L T).take k:=⟨(L T).length,(List.take_of_length_le (Nat.le_refl _)).symm⟩
 -- whatever the base is: where it is not / alone,or it is no page
 have key:∀ (B0 x y:ByteArray),B0=nrm p.trim x→(∃ k,L x=(L T).take k)→(2≤p.typ∧p.typ≤5)→y=(if L x=[47] then ⟨#[]⟩ else x)→(if B0.toList=[47]∧2≤p.typ∧p.typ≤5 then ByteArray.empty else B0)=nrm p.trim y:=by
  rintro B0 x y rfl hx hc rfl;rw[L_toList]
  by_cases h:L x=[47]
  ·rw[if_pos h,← empt]
   by_cases h2:L (nrm p.trim x)=[47]
   ·rw[if_pos ⟨h2,hc⟩]
   rw[if_neg (fun hh=>h2 hh.1)]
   cases hb:p.trim with
   | false=>rw[hb] at h2;exact absurd h h2
   | true =>
    refine L_inj ?_;unfold nrm;rw[if_pos rfl,kB,h];rfl
  rw[if_neg h,if_neg (fun hh=>h (P.pathNe x hx _ hh.1).2)]
 cases hk:p.known with
 | nil =>
  obtain ⟨hr,_⟩:=P.none hk
  have hb:∀ a b,jI p a b=nrm p.trim T:=by
   intro a b;unfold jI;rw[hk,P.s]
  have a1:r.ids=[]:=by rw[hr];rfl
  rw[if_pos a1,hb]
  by_cases hc:2≤p.typ∧p.typ≤5
  ·refine key _ T _ rfl whole hc ?_
   by_cases h:L T=[47]
   ·rw[if_pos h,if_pos ⟨(hone T).2 h,hc⟩]
   rw[if_neg h,if_neg (fun hh=>h ((hone T).1 hh.1))]
  rw[if_neg (fun h=>hc h.2:¬ ((nrm p.trim T).toList=[47]∧2≤p.typ∧p.typ≤5)),if_neg (fun h=>hc h.2:¬ (T=⟨#[47]⟩∧2≤p.typ∧p.typ≤5))]
 | cons k0 rest =>
  have hne:p.known≠[]:=by rw[hk];simp
  have a1:¬ (r.ids=[]):=P.idsNe hne;rw[if_neg a1]
  by_cases hc:2≤p.typ∧p.typ≤5
  ·have e1:(!decide (2≤p.typ∧p.typ≤5))=false:=by rw[decide_eq_true hc];rfl
   rw[e1]
   by_cases hbn:3≤p.typ∧p.typ≤5
   ·have e2:decide (3≤p.typ∧p.typ≤5)=true:=decide_eq_true hbn;rw[e2,if_pos (show jL p.typ=true from e2)]
    have hb:jI p false true=nrm p.trim (T.extract 0 (if q=0 then 1 else q)):=by
     unfold jI;rw[hk];simp only[Bool.false_eq_true,false_and,if_false];unfold lJ;simp only[if_true];rw[P.cHigh,P.s,show (q:Int)+1 - 1=(q:Int) by omega]
     by_cases h0:q=0
     ·rw[if_pos bA,if_pos h0];rfl
     rw[if_neg bA,if_neg h0];rfl
    refine key _ (T.extract 0 (if q=0 then 1 else q)) _ hb (take _ _ rfl) hc ?_
    have hd:hY T=if q=0 then ⟨#[47]⟩ else T.extract 0 q:=by
     unfold hY;rw[P.sl]
     cases q with
     | zero=>rfl
     | succ a=>rfl
    by_cases h0:q=0
    ·rw[if_pos h0] at hd;rw[if_pos h0,hd,if_pos rfl,if_pos];have hlt:0 < (L T).length:=by rw[eE,P.size];omega
     rw[eQ,List.drop_zero];have hh:=P.head
     cases hl:L T with
     | nil=>rw[hl] at hlt;simp at hlt
     | cons a m =>
      rw[hl] at hh;simp only[List.getElem?_cons_zero,Option.some.injEq] at hh;rw[hh];rfl
    rw[if_neg h0] at hd;rw[if_neg h0,hd]
    have hne2:L (T.extract 0 q)≠[47]:=by
     intro h
     obtain ⟨a,ha⟩:∃ a,q=a+1:=⟨q - 1,aR⟩
     obtain ⟨j,_,_,h2,_⟩:=P.low ha;have:=congrArg List.length h;rw[eQ,List.length_take,List.length_drop,eE,P.size] at this
     simp at this
     omega
    rw[if_neg hne2,if_neg (fun h=>hne2 ((hone _).1 h))]
   have e2:decide (3≤p.typ∧p.typ≤5)=false:=decide_eq_false hbn;rw[e2,if_neg (show ¬ (jL p.typ=true) by unfold jL;rw[e2];decide),if_pos (by omega:p.typ=2)]
   have hw:kK (wV st comp T n r e p.typ)=T.extract 0 (q+1+e):=by
    unfold kK;show (if r.ids=[] then T else rA _++_)=_;rw[if_neg (P.idsNe hne)];exact P.cat
   refine key _ (T.extract 0 (q+1+e)) _ ?_ (take _ _ rfl) hc ?_
   ·rw[P.noId (comp:=comp) (ty:=p.typ),hw]
   have hpos:0 < e:=by
    rcases P.words with ⟨h1,_⟩ | ⟨_,_,_,h,_⟩
    ·exact absurd h1 hne
    exact h
   rw[hw,if_neg];intro h;have:=congrArg List.length h;rw[eQ,List.length_take,List.length_drop,eE,P.size] at this;have hle:=P.le
   simp at this
   omega
  have e1:(!decide (2≤p.typ∧p.typ≤5))=true:=by rw[decide_eq_false hc];rfl
  have e2:decide (3≤p.typ∧p.typ≤5)=false:=decide_eq_false (fun h=>hc ⟨aR,h.2⟩);have b1:¬ ((jI p (!decide (2≤p.typ∧p.typ≤5)) (decide (3≤p.typ∧p.typ≤5))).toList=[47]∧2≤p.typ∧p.typ≤5):=fun h=>hc h.2;have b2:¬ (jL p.typ=true):=by unfold jL;rw[e2];decide
  have b3:¬ (p.typ=2):=fun h=>hc bA;rw[if_neg b1,if_neg b2,if_neg b3,e1,e2,P.oneKnown];obtain ⟨k0',rest',hk',hw⟩:=P.withExt hne;rw[hk] at hk';injection hk' with h1 h2
  subst h1 h2
  cases rest with
  | nil =>
   have b4:p.known.length=1:=by rw[hk];rfl
   rw[if_pos b4,aFy hk,P.s]
  | cons k1 rest =>
   have b4:¬ (p.known.length=1):=by rw[hk];simp
   rw[if_neg b4,xU hk,hw];unfold kK;show _=nrm p.trim ((if r.ids=[] then T else rA _++_)++_++_);rw[if_neg a1];rfl
theorem PW.langIs:vS p=(match r.langs with | []=>r.lang1 | l::_=>l)∧((p.plangs≠[]∨mJ p p.lang≠-1)↔(match r.langs with | []=>r.lang1 | l::_=>l)≠⟨#[]⟩)∧((p.plangs≠[]∨mJ p p.lang≠-1)→2≤p.known.length):=by
 unfold vS;rcases P.words with ⟨h1,_,hr,_,h2,_,_,_,_,_,_,_,h3,_⟩ | ⟨h1,_,R,_⟩
 ·rw[h3,h2,hr];refine ⟨rfl,⟨?_,fun h=>absurd rfl h⟩,?_⟩
  ·rintro (h | h)
   ·exact absurd rfl h
   exact absurd (by unfold mJ;rw[if_pos (.inl bG)]) h
  rintro (h | h)
  ·exact absurd rfl h
  exact absurd (by unfold mJ;rw[if_pos (.inl bG)]) h
 have I:=R.ix
 cases hp:p.plangs with
 | nil =>
  have hl:r.langs=[]:=by rw[I.langs,hp];rfl
  rw[hl];refine ⟨I.lang.str,?_,?_⟩
  ·simp only[ne_eq,not_true_eq_false,false_or];rcases I.lang with ⟨h2,h3⟩ | ⟨h2,h3⟩
   ·rw[h2,h3];exact ⟨fun h=>absurd (by unfold mJ;rw[if_pos (.inl bG)]) h,fun h=>absurd rfl h⟩
   obtain ⟨g0,_,x,g1,_⟩:=h2;have:=(List.getElem?_eq_some_iff.1 g1).1;refine ⟨fun _=>h3,fun _=>?_⟩;unfold mJ;rw[if_neg bA];omega
  rintro (h | h)
  ·exact absurd rfl h
  unfold mJ at h;split at h
  ·exact absurd rfl h
  rename_i hh
  have:=I.pos.1;omega
 | cons i rest =>
  have hl:r.langs=fG p i::rest.map (fG p):=by rw[I.langs,hp];rfl
  rw[hl];refine ⟨rfl,⟨fun _=>I.lne _ (by rw[hl];exact List.mem_cons_self ..),fun _=>.inl bK⟩,fun _=>?_⟩;obtain ⟨g0,_,x,g1,_⟩:=I.pl i (by rw[hp];exact List.mem_cons_self ..);have:=(List.getElem?_eq_some_iff.1 g1).1;have:=I.pos.2 i (by rw[hp];exact List.mem_cons_self ..);omega
theorem PW.noLang {comp:ByteArray} {ty:Int}:rE p=nrm p.trim (mE (wV st comp T n r e ty)):=by
 obtain ⟨h1,h2,h3⟩:=P.langIs;unfold rE mE;show _=nrm p.trim (if (match r.langs with | []=>r.lang1 | l::_=>l)=⟨#[]⟩ then T else T.extract 0 (T.size - (lastB T).size)++(lastB T).extract 0 e++⟨#[46]⟩++r.ext)
 by_cases c:p.plangs≠[]∨mJ p p.lang≠-1
 ·have hlen:=h3 c;have hne:p.known≠[]:=by intro h;rw[h] at hlen;simp at hlen
  obtain ⟨k0,rest,hk,hw⟩:=P.withExt hne;have a1:¬ ((match r.langs with | []=>r.lang1 | l::_=>l)=⟨#[]⟩):=h2.1 c;rw[if_pos c,if_neg a1,← hw]
  cases rest with
  | nil=>rw[hk] at hlen;simp at hlen
  | cons k1 rest=>exact xU hk
 rw[if_neg c,if_pos (by
  by_cases h:(match r.langs with | []=>r.lang1 | l::_=>l)=⟨#[]⟩
  ·exact h
  exact absurd (h2.2 h) c),P.s]
theorem PW.extIs:fG p 0=r.ext:=by
 rcases P.words with ⟨h1,_,hr,_⟩ | ⟨_,_,R,_⟩
 ·rw[hr];unfold fG;rw[if_neg bG,h1];rfl
 exact R.ext
theorem PW.fmtIs {comp:ByteArray} {ty:Int} (hc:p.comp=comp):aCd p=(wV st comp T n r e ty).fmt:=by
 show _=if eR comp=true∧chooseB r.fmt r.fmt1=⟨#[]⟩∧eS n≠[]∧hE st r.ext=true then r.ext else chooseB r.fmt r.fmt1
 have hx:=P.extIs;unfold aCd chooseB;rcases P.words with ⟨h1,h2,hr,_,_,h3,_,_,h4,_⟩ | ⟨h1,h2,R,_⟩
 ·rw[if_pos h4,h3,hr,if_neg (fun h=>h.2.2.1 h2)];rfl
 rcases R.ix.pfmt with ⟨a1,a2⟩ | ⟨a1,a2⟩
 ·rw[if_pos a1,a2,if_pos rfl];rcases R.ix.fmt with ⟨b1,b2⟩ | ⟨b1,b2⟩
  ·rw[b1,b2];unfold fmt0;rw[hc]
   by_cases c:(eR comp && hE st r.ext)=true
   ·rw[if_pos c,hx];rw[Bool.and_eq_true] at c;rw[if_pos ⟨c.1,rfl,h2,c.2⟩]
   rw[if_neg c,if_neg (fun h=>c (by rw[Bool.and_eq_true];exact ⟨h.1,h.2.2.2⟩))];rfl
  rw[b2.str,if_neg (fun h=>b1 h.2.1)]
 rw[if_neg (by have:=a1.1;omega),a1.str,if_neg a2,if_neg (fun h=>a2 h.2.1)]
theorem PW.kindIs:yF p=chooseB r.kind r.kind1:=by
 unfold yF chooseB;rcases P.words with ⟨h1,h2,hr,_,_,_,h3,_,_,h4,_⟩ | ⟨h1,h2,R,_⟩
 ·rw[if_pos h4,h3,hr];rfl
 rcases R.ix.pkind with ⟨a1,a2⟩ | ⟨a1,a2⟩
 ·rw[if_pos a1,a2,if_pos rfl];exact R.ix.kind.str
 rw[if_neg (by have:=a1.1;omega),a1.str,if_neg a2]
theorem PW.layIs:sR p=chooseB r.lay r.lay1:=by
 unfold sR chooseB;rcases P.words with ⟨h1,h2,hr,_,_,_,_,_,_,_,h4,h3,_⟩ | ⟨h1,h2,R,_⟩
 ·rw[if_pos h4,h3,hr];rfl
 rcases R.ix.play with ⟨a1,a2⟩ | ⟨a1,a2⟩
 ·rw[if_pos a1,a2,if_pos rfl];exact R.lay
 rw[if_neg (by have:=a1.1;omega),a1.str,if_neg a2]
theorem PW.custIs:pS p=r.cust:=by
 unfold pS;have h0:(⟨(Lib.trimSuffix (Lib.trimPrefix (L (fG p (-1))) [95]) [95]).toArray⟩:ByteArray)=⟨#[]⟩:=rfl;rcases P.words with ⟨h1,h2,hr,_,_,_,_,h3,_⟩ | ⟨h1,h2,R,_⟩
 ·rw[h3,hr];rfl
 rcases R.ix.cust with ⟨a1,a2⟩ | ⟨w,a1,a2,a3⟩
 ·rw[a1,a2];rfl
 rw[a1.str,a3];exact aBm a2
theorem PW.lists:kN p=r.ids∧lL p=r.unk∧kW p=r.langs∧p.dis=r.dis:=by
 rcases P.words with ⟨h1,h2,hr,_,_,_,_,_,_,_,_,_,h3,h4,h5⟩ | ⟨h1,h2,R,_⟩
 ·unfold kN lL kW;rw[h1,h3,h4,h5,hr];exact ⟨rfl,rfl,rfl,rfl⟩
 exact ⟨R.ids.symm,R.unk.symm,R.ix.langs.symm,R.dis⟩
end
def yK (w:WV) (t:Int) (b:Bool):fL :=
 { pM w with
  section_:=qO w.path t
  containerDir:=nrm b (mL w)
  dir:=nrm b (hY w.path)
  path:=nrm b w.path
  pathNoLang:=nrm b (mE w)
  pathNoId:=nrm b (kK w)
  pathBefore:=nrm b (kT w w.path)
  base:=nrm b (lR w)
  idBase:=nrm b (if eR w.comp=true then w.path else lR w) }
theorem aIp {st:fO} {T:ByteArray} {q:Nat} {n:List UInt8} {p:eI} {r:RV} {e sc:Nat} {t:Int} (P:PW st T q n p r e sc t) (comp:ByteArray) (hc:p.comp=comp) :
 pJ p=yK (wV st comp T n r e p.typ) t p.trim:=by
 obtain ⟨l1,l2,l3,l4⟩:=P.lists
 have hb:rD p=nrm p.trim (if eR comp=true then T else lR (wV st comp T n r e p.typ)):=by
  unfold rD eR;rw[hc]
  by_cases c:comp.toList=[108,97,121,111,117,116,115]
  ·rw[if_pos c,if_pos (beq_iff_eq.2 c),P.s]
  rw[if_neg c,if_neg (fun h=>c (beq_iff_eq.1 h))];exact P.base
 have hbn:qI p=if jL p.typ=true then jB T else (lastB T).extract 0 e:=by
  unfold qI jL
  by_cases c:3≤p.typ∧p.typ≤5
  ·rw[if_pos c,if_pos (decide_eq_true c)];exact P.cont
  rw[if_neg c,if_neg (by rw[decide_eq_false c];decide)];exact P.nameNoId
 unfold pJ;rw[hc,P.cont,P.contDir (comp:=comp),P.section_,P.name,P.noExt (comp:=comp) (ty:=p.typ),hbn,P.nameNoId,P.dir,P.s,P.noLang (comp:=comp) (ty:=p.typ),P.noId (comp:=comp) (ty:=p.typ),P.before (comp:=comp) (ty:=p.typ),P.base (comp:=comp),hb,P.extIs,P.fmtIs (ty:=p.typ) hc,P.kindIs,P.layIs,P.langIs.1,P.custIs,l1,l2,l3,l4];rfl
theorem aI4 {st:fO} {comp T:ByteArray} {q:Nat} {n:List UInt8} {p:eI} {e sc:Nat} {t:Int}
 (P:PW st T q n p (gL st comp (fA (L T) fW) (lastB T) (eS n)) e sc t):wOf st comp T=wV st comp T n (gL st comp (fA (L T) fW) (lastB T) (eS n)) e (aFn st comp T n (gL st comp (fA (L T) fW) (lastB T) (eS n)) e):=by
 have hn:=P.nameL
 have he:(kH (gL st comp (fA (L T) fW) (lastB T) (eS n)).marks ((lastB T).size:Int)).toNat=e:=by
  rw[P.nameZ,P.rend];exact Int.toNat_natCast e
 have ht:L ((lastB T).extract 0 e)=n.take e:=by rw[eQ,hn];rfl
 unfold wOf wV aFn;simp only[];rw[hn,he,ht];rfl
theorem aGr {st:fO} (SE:qT st) (comp s:ByteArray) (K:nY (eR comp) ((iF (L s)).drop (behind (iF (L s))))) (hno:∀ i:Nat,¬ ((L s)[i]? = some 47∧(L s)[i+1]? = some 47)) (t:Int) (b:Bool) :
 pJ { iY (eM st) comp s with typ:=t,trim:=b }=yK { wOf st comp ⟨(iF (L s)).toArray⟩ with typ:=t } (wOf st comp ⟨(iF (L s)).toArray⟩).typ b∧(iY (eM st) comp s).typ=(wOf st comp ⟨(iF (L s)).toArray⟩).typ∧(iY (eM st) comp s).trim=false:=by
 obtain ⟨T,q,n,e,sc,hT,hn,P,ht,hc,htr⟩:=aJe SE comp s K hno;have hw:=aI4 P;have P2:=P.turn (p':={ iY (eM st) comp s with typ:=t,trim:=b }) ⟨t,b,rfl⟩;have h:=aIp P2 comp hc;rw[← hT,hw];exact ⟨h,ht,htr⟩
theorem aJg {st:fO} {comp s:ByteArray} (K:rK st comp s):qT st where
 lang:=by
  intro w h hw;subst hw
  have key:∀ l:List ByteArray,(∀ x∈l,mM x)→listed l ⟨#[]⟩=true→False:=by
   intro l hl h;unfold listed at h;rw[List.any_eq_true] at h;obtain ⟨x,hx,he⟩:=h;rw[beq_iff_eq,L_toList,L_toList] at he;have h1:=(hl x hx).pos;rw[L_inj he] at h1;exact absurd h1 bG
  rw[Bool.or_eq_true] at h;rcases h with h | h
  ·exact key _ K.site.langs h
  exact key _ K.site.dis h
 fmt:=by
  intro w h hw;subst hw;unfold hE at h;rw[List.any_eq_true] at h;obtain ⟨x,hx,he⟩:=h;rw[beq_iff_eq,L_toList,L_toList] at he;have h1:=(K.site.fmts (mkF x) (List.mem_map_of_mem hx)).1.pos;have h2:(mkF x).f0=⟨#[]⟩:=L_inj he;rw[h2] at h1;exact absurd h1 bG
theorem aHu {st:fO} {comp s:ByteArray} (K:rK st comp s) (t:Int) (b:Bool) :
 pJ { iY (eM st) comp (norm s) with typ:=t,trim:=b }=yK { wOf st comp (pathOf s false) with typ:=t } (wOf st comp (pathOf s false)).typ b∧(iY (eM st) comp (norm s)).typ=(wOf st comp (pathOf s false)).typ∧(iY (eM st) comp (norm s)).trim=false:=by
 have W:=K.low;unfold pathOf at W;simp only[Bool.false_eq_true,if_false] at W;rw[kB] at W;exact aGr (aJg K) comp (norm s) W (aCh K.slashes) t b
end Go.Proofs.YtlkoeeccebmjmaaGreatDoor.Path
namespace Go.Proofs.YtlkoeeccebmjmaaGreatDoor.PTexts
open Go.RowKit Go.ZW.PrintWords Go.ZW.PrintLast Go.ZW.PrintMore
attribute [local go_sem] kO kQ lF lG jT jU kP kR   -- for this text's walks alone
def aBs:Option Int→Value
 | none=>.nilIface
 | some c=>.iface 0 (.int .i64 c)
theorem nZ:aBs none = .nilIface:=rfl
theorem oA (c:Int):aBs (some c) = .iface 0 (.int .i64 c):=rfl
end Go.Proofs.YtlkoeeccebmjmaaGreatDoor.PTexts
namespace Go.Proofs.YtlkoeeccebmjmaaGreatDoor.PTexts
open Go.RowKit Go.ZW.PrintWords Go.ZW.PrintLast Go.ZW.PrintMore
attribute [local go_sem] kO kQ lF lG jT jU kP kR   -- for this text's walks alone
end Go.Proofs.YtlkoeeccebmjmaaGreatDoor.PTexts
namespace Go.Proofs.YtlkoeeccebmjmaaGreatDoor.PTexts
open Go.RowKit Go.ZW.PrintWords Go.ZW.PrintLast Go.ZW.PrintMore
attribute [local go_sem] kO kQ lF lG jT jU kP kR   -- for this text's walks alone
end Go.Proofs.YtlkoeeccebmjmaaGreatDoor.PTexts
namespace Go.Proofs.YtlkoeeccebmjmaaGreatDoor.Path
open Go.RowKit Go.WideMaps Go.ZW.PrintWords Go.Proofs.YtlkoeeccebmjmaaGreatDoor.Base Go.Proofs.YtlkoeeccebmjmaaGreatDoor.Lower Go.Proofs.YtlkoeeccebmjmaaGreatDoor.Total
def qB (x:fL):fL:={ x with containerDir:=nrm true x.containerDir,dir:=nrm true x.dir,path:=nrm true x.path,pathNoLang:=nrm true x.pathNoLang,pathNoId:=nrm true x.pathNoId,pathBefore:=nrm true x.pathBefore,base:=nrm true x.base,idBase:=nrm true x.idBase }
theorem aGx (x:WV):qB (pM x)=yK x x.typ true:=rfl
theorem aFw {s:ByteArray} (h:s=⟨#[]⟩):nrm true s=s:=by rw[h];rfl
theorem aEq {s:ByteArray} (h:(L s)[0]? = some 47):nrm true s=s.extract 1 s.size:=by
 refine L_inj ?_;show L (⟨(Lib.trimPrefix (L s) [47]).toArray⟩:ByteArray)=_;rw[kB,eQ]
 cases hl:L s with
 | nil=>rw[hl] at h;cases h
 | cons a r =>
  rw[hl] at h;have ha:a=47:=by simpa using h
  have hz:s.size=r.length+1:=by rw[← eE,hl];rfl
  rw[ha,hz,Nat.add_sub_cancel];show Lib.trimPrefix (47::r) [47]=r.take r.length;rw[List.take_length]
  simp[Lib.trimPrefix,Lib.hasPrefix,List.isPrefixOf]
theorem aEp {s:ByteArray} (h:(L s)[0]?≠some 47):nrm true s=s:=by
 refine L_inj ?_;show L (⟨(Lib.trimPrefix (L s) [47]).toArray⟩:ByteArray)=_;rw[kB]
 cases hl:L s with
 | nil=>rfl
 | cons a r =>
  rw[hl] at h;have ha:(47==a)=false:=beq_eq_false_iff_ne.2 (by rintro rfl;exact h rfl);have ha' : (a==47)=false:=beq_eq_false_iff_ne.2 (by rintro rfl;exact h rfl)
  simp[Lib.trimPrefix,Lib.hasPrefix,List.isPrefixOf,ha,ha']
theorem aAo {st:fO} {comp s:ByteArray} (K:rK st comp s):pJ { iY (eM st) comp (norm s) with trim:=true }=qB (pM (wOf st comp (pathOf s false))):=by
 obtain ⟨h1,h2,h3⟩:=aHu K (wOf st comp (pathOf s false)).typ true;rw[aGx,← h1,← h2]
open Go.RowKit Go.WideMaps Go.ZW.PrintWords Go.Proofs.YtlkoeeccebmjmaaGreatDoor.Base Go.Proofs.YtlkoeeccebmjmaaGreatDoor.Lower Go.Proofs.YtlkoeeccebmjmaaGreatDoor.Total Go.Proofs.YtlkoeeccebmjmaaGreatDoor.PCore
open Go.ZW.PrintLast
theorem aFx (s:ByteArray):pE.f s=some (nrm true s):=by
 unfold pE.f;rw[L_toList]
 by_cases h0:L s=[]
 ·rw[if_pos h0,aFw (L_inj h0)]
 rw[if_neg h0];have hz:0 < s.size:=by rw[← eE];exact List.length_pos_iff.2 h0
 rw[if_pos bA]
 by_cases hb:bt s 0=47
 ·rw[if_pos hb,if_pos bA,aEq (by rw[← List.head?_eq_getElem?];exact (wU s hz).1 hb)]
 rw[if_neg hb,aEp (fun h=>hb ((wU s hz).2 (by rw[List.head?_eq_getElem?];exact h)))]
theorem mY (s:ByteArray) (w:World):Calls Tryz.prog 55 #[.string s] w fun e w'=>e = .returned (.string (nrm true s))∧Below w.heap.size w w' :=
 (pE.calls s _ w (aFx s)).mono fun _ _ ⟨h1,h2⟩=>⟨h1,dL⟩
structure sJ (w0:World) (b:Nat) (w:World) (t:fL) (v1 v2 v3:Value):Prop where
 at0:w0.heap.size=b
 told:Row w b (lN t v1 v2 v3)
 below:Below w0.heap.size w0 w
theorem sJ.step {w0 w w' : World} {b:Nat} {t:fL} {v1 v2 v3:Value} (H:sJ w0 b w t v1 v2 v3) (h:Below w.heap.size w w'):sJ w0 b w' t v1 v2 v3 :=
 have:=H.told.lt (show 0 < 31 by decide)
 ⟨H.at0,H.told.below h bA,eB H.below h⟩
theorem sJ.put {w0 w:World} {b:Nat} {t:fL} {v1 v2 v3:Value} (H:sJ w0 b w t v1 v2 v3) (k:Nat) (v:Value) (t' : fL) (hc:(lN t v1 v2 v3).set k v=lN t' v1 v2 v3) (hk:k < 31):sJ w0 b (w.setCell ⟨b,k,none⟩ v) t' v1 v2 v3 :=
 ⟨H.at0,hc▸H.told.set k v hk,H.below.setCell (p:=⟨b,k,none⟩) (by show w0.heap.size≤b;have:=H.at0;omega) v⟩
def tr8 (x:fL):fL:={ x with path:=nrm true x.path,dir:=nrm true x.dir,containerDir:=nrm true x.containerDir }
def aFm (x:fL):fL:={ tr8 x with pathNoLang:=nrm true x.pathNoLang,pathNoId:=nrm true x.pathNoId,pathBefore:=nrm true x.pathBefore }
def aJi (x:fL):fL:={ aFm x with base:=nrm true x.base,idBase:=nrm true x.idBase }
section
variable {w:World} {st:fO} {vl vd vf vc:Value}
theorem qQ (S:mG w st vl vd vf vc) (O:wR st) (comp s:ByteArray) (hs:s.size≤900000) :
 Calls Tryz.prog 32 #[.agg #[vl,vd,vf,vc],.string comp,.string s] w fun e w' =>
  ∃ v1 v2 v3,e = .returned (gH (qB (pM (wOf st comp (pathOf s false)))) v1 v2 v3)∧kL w' w.heap.size (qB (pM (wOf st comp (pathOf s false)))) v1 v2 v3∧Below w.heap.size w w':=by
 obtain ⟨T,hT⟩:∃ T,pM (wOf st comp (pathOf s false))=T:=⟨_,rfl⟩
 rw[hT];have HSI:=bX S;have HF:=bX O;obtain ⟨Al,cl,rfl,_,_⟩:=S.l;obtain ⟨Ad,cd,rfl,_,_⟩:=S.d;obtain ⟨Af,cf,rfl,_,_⟩:=S.f;obtain ⟨Ac,cc,rfl,_,_⟩:=S.c;clear S O;have hB1:Below w.heap.size w (w.alloc (.cells #[.slice Al st.langs.length cl,.slice Ad st.dis.length cd,.slice Af st.fmts.length cf,.slice Ac st.cont.length cc] 25)):=(Below.refl _ _).alloc (Nat.le_refl _) _;have hR1:=Row.new w [.slice Al st.langs.length cl,.slice Ad st.dis.length cd,.slice Af st.fmts.length cf,.slice Ac st.cont.length cc] 25;have hs1:w.heap.size < (w.alloc (.cells #[.slice Al st.langs.length cl,.slice Ad st.dis.length cd,.slice Af st.fmts.length cf,.slice Ac st.cont.length cc] 25)).heap.size:=by simp
 go_enter Tryz.func32,Tryz.ntmps32;go_upto_region 1 with fail
 obtain ⟨w1,hw1⟩:∃ w1,w.alloc (.cells #[.slice Al st.langs.length cl,.slice Ad st.dis.length cd,.slice Af st.fmts.length cf,.slice Ac st.cont.length cc] 25)=w1:=⟨_,rfl⟩
 have hz1:w1.heap.size=w.heap.size+1:=by rw[← hw1];simp
 rw[hw1] at hB1 hR1 hs1 ⊢;clear hw1;have hB2:Below w1.heap.size w1 (w1.alloc (.cells fB.toArray 28)):=(Below.refl _ _).alloc (Nat.le_refl _) _;have hR2:Row (w1.alloc (.cells fB.toArray 28)) w1.heap.size fB:=Row.new w1 fB _;rw[show fB.toArray=TZ from rfl] at hB2 hR2
 obtain ⟨w2,hw2⟩:∃ w2,w1.alloc (.cells TZ 28)=w2:=⟨_,rfl⟩
 rw[hw2] at hB2 hR2;change Code.wp _ _ _ _ (w1.alloc (.cells TZ 28));rw[hw2];clear hw2;rw[hz1] at hR2;have hB:Below w.heap.size w w2:=hB1.trans (hB2.mono bA);have hRs:=hR1.below hB2 hs1;have r0:=hRs.at 0 _ rfl;have r1:=hRs.at 1 _ rfl;have r2:=hRs.at 2 _ rfl;have r3:=hRs.at 3 _ rfl;have HB:=bX hB;have HR2:=bX hR2;have hlt2:w.heap.size+1 < w2.heap.size:=hR2.lt bG;have cp:=yO (HSI.out.below hB) HF.out comp s hs;rw[hT] at cp;clear hT hB1 hR1 hs1 hB2 hR2 hB hRs hz1 HF;go_wp2_with fail
 refine cp.mono ?_;rintro e w3 ⟨v1,v2,v3,rfl,hA,hb3⟩;have HB3:=bX hb3;have HA3:=bX hA
 obtain ⟨C,hC⟩:∃ C:Array Value,qZ T v1 v2 v3=C:=⟨_,rfl⟩
 have hval:gH T v1 v2 v3 = .agg C:=by rw[← hC];rfl
 have HCS:=bX (show C.size=31 by rw[← hC];rfl);have HON:=bX (show C.all (·.oneCell')=true by rw[← hC];exact hA.one);rw[hval];have hRZ:=Row.new w3 fB 28;have HRT:=bX (Row.setAll (ds:=C.toList) hRZ (by rw[Array.length_toList,HCS.out];rfl));have hbn:Below w3.heap.size w3 ((w3.alloc (.cells fB.toArray 28)).setCells w3.heap.size 0 C.toList):=below_setCells (Nat.le_refl _) _ _ _ ((Below.refl _ _).alloc (Nat.le_refl _) _);have hth:(w3.alloc (.cells fB.toArray 28)).there w3.heap.size 0 C.size:=by rw[HCS.out];exact hRZ.there
 have hin:(Tryz.prog.info? 28).map (·.size)=some C.size:=by rw[HCS.out];kernel_rfl
 have HCL:=bX (show C.toList=lN T v1 v2 v3 by rw[← hC];rfl);clear cp hb3 hA hC hval hRZ r0 r1 r2 r3;rw[show fB.toArray=TZ from rfl] at HRT hbn hth
 go_upto_region 2 with (first | (refine wpList_store_mid rfl 28 (.tmp 7) (.tmp 11) rfl w3.heap.size 0 C rfl rfl hth hin HON.out ?_) | fail)
 clear hth hin;change Code.wp _ _ _ _ ((w3.alloc (.cells TZ 28)).setCells w3.heap.size 0 C.toList)
 obtain ⟨w4,hw4⟩:∃ z,(w3.alloc (.cells TZ 28)).setCells w3.heap.size 0 C.toList=z:=⟨_,rfl⟩
 rw[hw4] at HRT hbn ⊢
 obtain ⟨b,hbb⟩:∃ b,w3.heap.size=b:=⟨_,rfl⟩
 have H4:=bX (show sJ w3 b w4 T v1 v2 v3 from ⟨hbb,hbb▸HCL.out▸HRT.out,hbn⟩);rw[hbb];have HBB:=bX hbb;clear hw4 hbb hbn HRT HCL HCS HON;have rc9_4:w4.cell? ⟨b,9,none⟩=some (.string (T.path)):=H4.out.told.at 9 _ rfl;have rc8_4:w4.cell? ⟨b,8,none⟩=some (.string (T.dir)):=H4.out.told.at 8 _ rfl;have rc2_4:w4.cell? ⟨b,2,none⟩=some (.string (T.containerDir)):=H4.out.told.at 2 _ rfl;go_upto_region 2 with fail
 refine gV (n:=15) (S:=fun w'=>w'.cell? ⟨b,9,none⟩=some (.string (T.path))∧w'.cell? ⟨b,8,none⟩=some (.string (T.dir))∧w'.cell? ⟨b,2,none⟩=some (.string (T.containerDir))) (ds:=[10,12,14]) _ bB rfl rfl ⟨rc9_4,rc8_4,rc2_4⟩ (fun hHeld=>?_);refine sA1 0 (some 12) sB1 ?_
 refine sA1 3 (some 15) sB1 ?_
 refine sA1 6 (some 18) sB1 ?_
 refine sC1 1 (some 13) sD1 ?_
 refine sC1 4 (some 16) sD1 ?_
 refine sC1 7 (some 19) sD1 ?_
 refine sF1 2 (some 14) sG1 (fun K hK=>?_);refine iE Tryz.func55 bB rfl #[.string (T.path)] bJ rfl rfl bH ?_
 with_reducible refine ((mY T.path w4.drew)).mono ?_
 rintro e w5 ⟨rfl,hb5⟩;refine ⟨_,rfl,?_⟩;have rc9_5:=cell_far (w:=w4.drew) rc9_4 hb5;have rc8_5:=cell_far (w:=w4.drew) rc8_4 hb5;have rc2_5:=cell_far (w:=w4.drew) rc2_4 hb5;have H5:=bX (H4.out.step (eB (Below.refl w4.heap.size w4).drew hb5));refine hK.out _ _ ⟨rc9_5,rc8_5,rc2_5⟩ (fun hHeld=>?_);clear hK K;refine eK sJ1 ?_
 refine sA1 9 (some 21) sB1 ?_
 refine sF1 5 (some 17) sG1 (fun K hK=>?_);refine iE Tryz.func55 bB rfl #[.string (T.dir)] bJ rfl rfl bH ?_
 with_reducible refine ((mY T.dir w5)).mono ?_
 rintro e w6 ⟨rfl,hb6⟩;refine ⟨_,rfl,?_⟩;have rc9_6:=cell_far (w:=w5) rc9_5 hb6;have rc8_6:=cell_far (w:=w5) rc8_5 hb6;have rc2_6:=cell_far (w:=w5) rc2_5 hb6;have H6:=bX (H5.out.step hb6);refine hK.out _ _ ⟨rc9_6,rc8_6,rc2_6⟩ (fun hHeld=>?_);clear hK K;refine eK sJ1 ?_
 refine sF1 8 (some 20) sG1 (fun K hK=>?_);refine iE Tryz.func55 bB rfl #[.string (T.containerDir)] bJ rfl rfl bH ?_
 with_reducible refine ((mY T.containerDir w6)).mono ?_
 rintro e w7 ⟨rfl,hb7⟩;refine ⟨_,rfl,?_⟩;have rc9_7:=cell_far (w:=w6) rc9_6 hb7;have rc8_7:=cell_far (w:=w6) rc8_6 hb7;have rc2_7:=cell_far (w:=w6) rc2_6 hb7;have H7:=bX (H6.out.step hb7);have rf9:=H7.out.told.free 9 (show 9 < 31 by decide);have rf8:=H7.out.told.free 8 (show 8 < 31 by decide);have rf2:=H7.out.told.free 2 (show 2 < 31 by decide);refine hK.out _ _ ⟨rc9_7,rc8_7,rc2_7⟩ (fun hHeld=>?_);clear hK K;refine eK sJ1 ?_
 refine sH1 10 none sI1 (fun K hK=>?_);refine iC (w1:=?_) bJ rfl ?_ ?_;rotate_left
 ·go_simp;rfl
 refine hK.out _ _ ?_;clear hK K;refine sA1 11 (some 22) sB1 ?_
 refine sH1 12 none sI1 (fun K hK=>?_);refine iC (w1:=?_) bJ rfl ?_ ?_;rotate_left
 ·go_simp;rfl
 refine hK.out _ _ ?_;clear hK K;refine sA1 13 (some 23) sB1 ?_
 refine sH1 14 none sI1 (fun K hK=>?_);refine iC (w1:=?_) bJ rfl ?_ ?_;rotate_left
 ·go_simp;rfl
 refine hK.out _ _ ?_;clear hK K;refine iJ bB ?_;have hA:=(((H7.out).put 9 (.string (nrm true T.path)) ({ T with path:=nrm true T.path }:fL) rfl bG).put 8 (.string (nrm true T.dir)) ({ ({ T with path:=nrm true T.path }:fL) with dir:=nrm true T.dir }:fL) rfl bG).put 2 (.string (nrm true T.containerDir)) ({ ({ ({ T with path:=nrm true T.path }:fL) with dir:=nrm true T.dir }:fL) with containerDir:=nrm true T.containerDir }:fL) rfl bG
 obtain ⟨w8,hw8⟩:∃ z,(((w7).setCell ⟨b,9,none⟩ (.string (nrm true T.path))).setCell ⟨b,8,none⟩ (.string (nrm true T.dir))).setCell ⟨b,2,none⟩ (.string (nrm true T.containerDir))=z:=⟨_,rfl⟩
 rw[hw8] at hA ⊢;have H8:=bX (show sJ w3 b w8 (tr8 T) v1 v2 v3 from hA);clear hA hw8 H7 rc9_4 rc9_5 rc9_6 rc9_7 rc8_4 rc8_5 rc8_6 rc8_7 rc2_4 rc2_5 rc2_6 rc2_7 rf9 rf8 rf2 hb5 hb6 hb7 hHeld H4 H5 H6;have rc10_8:w8.cell? ⟨b,10,none⟩=some (.string (T.pathNoLang)):=H8.out.told.at 10 _ rfl;have rc11_8:w8.cell? ⟨b,11,none⟩=some (.string (T.pathNoId)):=H8.out.told.at 11 _ rfl;have rc12_8:w8.cell? ⟨b,12,none⟩=some (.string (T.pathBefore)):=H8.out.told.at 12 _ rfl;go_upto_region 3 with fail
 refine gV (n:=15) (S:=fun w'=>w'.cell? ⟨b,10,none⟩=some (.string (T.pathNoLang))∧w'.cell? ⟨b,11,none⟩=some (.string (T.pathNoId))∧w'.cell? ⟨b,12,none⟩=some (.string (T.pathBefore))) (ds:=[10,12,14]) _ bB rfl rfl ⟨rc10_8,rc11_8,rc12_8⟩ (fun hHeld=>?_);refine sA1 0 (some 24) sB1 ?_
 refine sA1 3 (some 27) sB1 ?_
 refine sA1 6 (some 30) sB1 ?_
 refine sC1 1 (some 25) sD1 ?_
 refine sC1 4 (some 28) sD1 ?_
 refine sC1 7 (some 31) sD1 ?_
 refine sF1 2 (some 26) sG1 (fun K hK=>?_);refine iE Tryz.func55 bB rfl #[.string (T.pathNoLang)] bJ rfl rfl bH ?_
 with_reducible refine ((mY T.pathNoLang w8.drew)).mono ?_
 rintro e w9 ⟨rfl,hb9⟩;refine ⟨_,rfl,?_⟩;have rc10_9:=cell_far (w:=w8.drew) rc10_8 hb9;have rc11_9:=cell_far (w:=w8.drew) rc11_8 hb9;have rc12_9:=cell_far (w:=w8.drew) rc12_8 hb9;have H9:=bX (H8.out.step (eB (Below.refl w8.heap.size w8).drew hb9));refine hK.out _ _ ⟨rc10_9,rc11_9,rc12_9⟩ (fun hHeld=>?_);clear hK K;refine eK sJ1 ?_
 refine sA1 9 (some 33) sB1 ?_
 refine sF1 5 (some 29) sG1 (fun K hK=>?_);refine iE Tryz.func55 bB rfl #[.string (T.pathNoId)] bJ rfl rfl bH ?_
 with_reducible refine ((mY T.pathNoId w9)).mono ?_
 rintro e w10 ⟨rfl,hb10⟩;refine ⟨_,rfl,?_⟩;have rc10_10:=cell_far (w:=w9) rc10_9 hb10;have rc11_10:=cell_far (w:=w9) rc11_9 hb10;have rc12_10:=cell_far (w:=w9) rc12_9 hb10;have H10:=bX (H9.out.step hb10);refine hK.out _ _ ⟨rc10_10,rc11_10,rc12_10⟩ (fun hHeld=>?_);clear hK K;refine eK sJ1 ?_
 refine sF1 8 (some 32) sG1 (fun K hK=>?_);refine iE Tryz.func55 bB rfl #[.string (T.pathBefore)] bJ rfl rfl bH ?_
 with_reducible refine ((mY T.pathBefore w10)).mono ?_
 rintro e w11 ⟨rfl,hb11⟩;refine ⟨_,rfl,?_⟩;have rc10_11:=cell_far (w:=w10) rc10_10 hb11;have rc11_11:=cell_far (w:=w10) rc11_10 hb11;have rc12_11:=cell_far (w:=w10) rc12_10 hb11;have H11:=bX (H10.out.step hb11);have rf10:=H11.out.told.free 10 (show 10 < 31 by decide);have rf11:=H11.out.told.free 11 (show 11 < 31 by decide);have rf12:=H11.out.told.free 12 (show 12 < 31 by decide);refine hK.out _ _ ⟨rc10_11,rc11_11,rc12_11⟩ (fun hHeld=>?_);clear hK K;refine eK sJ1 ?_
 refine sH1 10 none sI1 (fun K hK=>?_);refine iC (w1:=?_) bJ rfl ?_ ?_;rotate_left
 ·go_simp;rfl
 refine hK.out _ _ ?_;clear hK K;refine sA1 11 (some 34) sB1 ?_
 refine sH1 12 none sI1 (fun K hK=>?_);refine iC (w1:=?_) bJ rfl ?_ ?_;rotate_left
 ·go_simp;rfl
 refine hK.out _ _ ?_;clear hK K;refine sA1 13 (some 35) sB1 ?_
 refine sH1 14 none sI1 (fun K hK=>?_);refine iC (w1:=?_) bJ rfl ?_ ?_;rotate_left
 ·go_simp;rfl
 refine hK.out _ _ ?_;clear hK K;refine iJ bB ?_;have hA:=(((H11.out).put 10 (.string (nrm true T.pathNoLang)) ({ (tr8 T) with pathNoLang:=nrm true T.pathNoLang }:fL) rfl bG).put 11 (.string (nrm true T.pathNoId)) ({ ({ (tr8 T) with pathNoLang:=nrm true T.pathNoLang }:fL) with pathNoId:=nrm true T.pathNoId }:fL) rfl bG).put 12 (.string (nrm true T.pathBefore)) ({ ({ ({ (tr8 T) with pathNoLang:=nrm true T.pathNoLang }:fL) with pathNoId:=nrm true T.pathNoId }:fL) with pathBefore:=nrm true T.pathBefore }:fL) rfl bG
 obtain ⟨w12,hw12⟩:∃ z,(((w11).setCell ⟨b,10,none⟩ (.string (nrm true T.pathNoLang))).setCell ⟨b,11,none⟩ (.string (nrm true T.pathNoId))).setCell ⟨b,12,none⟩ (.string (nrm true T.pathBefore))=z:=⟨_,rfl⟩
 rw[hw12] at hA ⊢;have H12:=bX (show sJ w3 b w12 (aFm T) v1 v2 v3 from hA);clear hA hw12 H11 rc10_8 rc10_9 rc10_10 rc10_11 rc11_8 rc11_9 rc11_10 rc11_11 rc12_8 rc12_9 rc12_10 rc12_11 rf10 rf11 rf12 hb9 hb10 hb11 hHeld H8 H9 H10;have rc13_12:w12.cell? ⟨b,13,none⟩=some (.string (T.base)):=H12.out.told.at 13 _ rfl;have rc14_12:w12.cell? ⟨b,14,none⟩=some (.string (T.idBase)):=H12.out.told.at 14 _ rfl;go_upto_region 4 with fail
 refine gV (n:=10) (S:=fun w'=>w'.cell? ⟨b,13,none⟩=some (.string (T.base))∧w'.cell? ⟨b,14,none⟩=some (.string (T.idBase))) (ds:=[7,9]) _ bB rfl rfl ⟨rc13_12,rc14_12⟩ (fun hHeld=>?_);refine sA1 0 (some 36) sB1 ?_
 refine sA1 3 (some 39) sB1 ?_
 refine sC1 1 (some 37) sE1 ?_
 refine sC1 4 (some 40) sE1 ?_
 refine sF1 2 (some 38) sG1 (fun K hK=>?_);refine iE Tryz.func55 bB rfl #[.string (T.base)] bJ rfl rfl bH ?_
 with_reducible refine ((mY T.base w12.drew)).mono ?_
 rintro e w13 ⟨rfl,hb13⟩;refine ⟨_,rfl,?_⟩;have rc13_13:=cell_far (w:=w12.drew) rc13_12 hb13;have rc14_13:=cell_far (w:=w12.drew) rc14_12 hb13;have H13:=bX (H12.out.step (eB (Below.refl w12.heap.size w12).drew hb13));refine hK.out _ _ ⟨rc13_13,rc14_13⟩ (fun hHeld=>?_);clear hK K;refine eK sJ1 ?_
 refine sA1 6 (some 42) sB1 ?_
 refine sF1 5 (some 41) sG1 (fun K hK=>?_);refine iE Tryz.func55 bB rfl #[.string (T.idBase)] bJ rfl rfl bH ?_
 with_reducible refine ((mY T.idBase w13)).mono ?_
 rintro e w14 ⟨rfl,hb14⟩;refine ⟨_,rfl,?_⟩;have rc13_14:=cell_far (w:=w13) rc13_13 hb14;have rc14_14:=cell_far (w:=w13) rc14_13 hb14;have H14:=bX (H13.out.step hb14);have rf13:=H14.out.told.free 13 (show 13 < 31 by decide);have rf14:=H14.out.told.free 14 (show 14 < 31 by decide);refine hK.out _ _ ⟨rc13_14,rc14_14⟩ (fun hHeld=>?_);clear hK K;refine eK sJ1 ?_
 refine sH1 7 none sI1 (fun K hK=>?_);refine iC (w1:=?_) bJ rfl ?_ ?_;rotate_left
 ·go_simp;rfl
 refine hK.out _ _ ?_;clear hK K;refine sA1 8 (some 43) sB1 ?_
 refine sH1 9 none sI1 (fun K hK=>?_);refine iC (w1:=?_) bJ rfl ?_ ?_;rotate_left
 ·go_simp;rfl
 refine hK.out _ _ ?_;clear hK K;refine iJ bB ?_;have hA:=((H14.out).put 13 (.string (nrm true T.base)) ({ (aFm T) with base:=nrm true T.base }:fL) rfl bG).put 14 (.string (nrm true T.idBase)) ({ ({ (aFm T) with base:=nrm true T.base }:fL) with idBase:=nrm true T.idBase }:fL) rfl bG
 obtain ⟨w15,hw15⟩:∃ z,((w14).setCell ⟨b,13,none⟩ (.string (nrm true T.base))).setCell ⟨b,14,none⟩ (.string (nrm true T.idBase))=z:=⟨_,rfl⟩
 rw[hw15] at hA ⊢;have H15:=bX (show sJ w3 b w15 (aJi T) v1 v2 v3 from hA);clear hA hw15 H14 rc13_12 rc13_13 rc13_14 rc14_12 rc14_13 rc14_14 rf13 rf14 hb13 hb14 hHeld H12 H13
 obtain ⟨D,hD⟩:∃ D:List Value,lN (qB T) v1 v2 v3=D:=⟨_,rfl⟩
 have hRD:Row w15 b D:=hD▸(show Row w15 b (lN (qB T) v1 v2 v3) from H15.out.told);have hrng:w15.rangeAt b 0 D:=fun j v hj=>by rw[Nat.zero_add];exact hRD.at j v hj
 have hDl:D.length=31:=by rw[← hD];rfl
 have hDz:D.toArray.size=31:=by rw[List.size_toArray];exact hDl
 have hone:D.toArray.all (·.oneCell')=true:=by rw[← hD];exact (show kL w3 w2.heap.size (qB T) v1 v2 v3 from HA3.out).one
 have hval:gH (qB T) v1 v2 v3 = .agg D.toArray.toList.toArray:=by rw[← hD];rfl
 have HV:=bX hval;have HB4:=bX (eB HB3.out H15.out.below);have hinf:(Tryz.prog.info? 28).map (·.size)=some D.length:=by rw[hDl];kernel_rfl
 have hinf2:(Tryz.prog.info? 28).map (·.size)=some D.toArray.size:=by rw[hDz];kernel_rfl
 have hRf:=HR2.out.below HB4.out hlt2;have hthere:w15.there (w.heap.size+1) 0 D.toArray.size:=by rw[hDz];exact hRf.there
 have hr:=World.rangeAt_setCells_same w15 (w.heap.size+1) 0 D.toArray.toList (by simpa using hthere);have hld:=run_loadVar_mid (P:=Tryz.prog) _ (w.heap.size+1) 0 28 D.toArray.toList _ hr Tryz.underlying28 rfl (by simpa using hinf);have hfar:∀ k,k≠w.heap.size+1→(w15.setCells (w.heap.size+1) 0 D.toArray.toList).heap[k]? = w15.heap[k]?:=fun k hk=>kC _ _ k hk;have HBel:=bX (show Below w.heap.size w (w15.setCells (w.heap.size+1) 0 D.toArray.toList) from below_setCells (Nat.le_succ _) _ _ _ (HB.out.trans (HB4.out.mono HB.out.size)));have hz:=HB.out.size;have HAX:=bX (show kL (w15.setCells (w.heap.size+1) 0 D.toArray.toList) w2.heap.size (qB T) v1 v2 v3 from (show kL w15 w2.heap.size (qB T) v1 v2 v3 from HA3.out.below H15.out.below).far fun k hk _=>hfar k bA);have HLD:=bX hld
 clear hD hRD hDl hDz hval hRf hr hld hfar H15 HA3 HB4 HR2
 go_wp2_with (first | (refine wpList_load_mid rfl 28 _ rfl b 0 rfl D _ hrng Tryz.underlying28 rfl hinf ?_) | (refine wpList_store_mid rfl 28 _ _ rfl (w.heap.size+1) 0 D.toArray rfl rfl hthere hinf2 hone ?_) | fail)
 refine bodyPost_ret (v:=.agg D.toArray.toList.toArray) (nL Tryz.results32 rfl (by simpa using HLD.out)) rfl ⟨v1,v2,v3,?_,HAX.out.mono hz,HBel.out⟩;rw[HV.out]
end
end Go.Proofs.YtlkoeeccebmjmaaGreatDoor.Path
