/- Texts that the law leans on: Spec5, Asked, PTextsx0, PTextsx1, PTextsx, Texts. Condition: as told at each. -/
import Derived.Test.YtbkobfoaphcamaaGreatDoorProg
import Derived.Below
import Derived.Deep.Draws
import Derived.Deep.AppendLies
import Derived.Maps.AppendAt
import Derived.OwnWalk
import Derived.Laws.BytesArg
import Derived.Laws.MakeOwn
import Derived.Laws.OwnMore
import Derived.Deep.OwnRows
import Derived.Tactics
import Derived.Lib.ConvBytes
import Derived.Laws.Slices
import Derived.WalkKit
import Derived.KernelRfl
import Derived.RowKit3
import Derived.Deep.LoopGhost
import Derived.Deep.QuietTactic
import Derived.BigQuiet
import Derived.WideLaws
import Derived.Deep.DeepCutAuto
import Derived.Deep.CutBlock
import Derived.Deep.RegionHeld3
import Derived.Laws.Rows
import Derived.Lib.AppendStr
import Derived.ArgAppend
import Derived.Laws.IdiomCopy
import Derived.OrdersHeld
import Derived.Laws.BitsLemmas
import Derived.RowKit
import Derived.Laws.StructEq
import Derived.Test.YtbkobfoaphcamaaGreatDoorQa
import Derived.Test.YtbkobfoaphcamaaGreatDoorQ24
set_option linter.unusedVariables false
set_option linter.unusedSimpArgs false
namespace Go.Proofs.YtbkobfoaphcamaaGreatDoor.Path
open Go.RowKit Go.Proofs.YtbkobfoaphcamaaGreatDoorW.PrintWords Go.Proofs.YtbkobfoaphcamaaGreatDoor.Base Go.Proofs.YtbkobfoaphcamaaGreatDoor.Total Go.Proofs.YtbkobfoaphcamaaGreatDoor.Lower
def wV (st:fP) (comp T:ByteArray) (n:List UInt8) (r:RV) (e:Nat) (t:Int):WV :=
 { comp:=comp,path:=T,name:=lastB T,nEnd:=e,ids:=r.ids,unk:=r.unk,langs:=r.langs,ext:=r.ext,fmt:=if eW comp=true∧chooseB r.fmt r.fmt1=⟨#[]⟩∧eY n≠[]∧iB st r.ext=true then r.ext else chooseB r.fmt r.fmt1,kind:=chooseB r.kind r.kind1,lay:=chooseB r.lay r.lay1,lang:=(match r.langs with | []=>r.lang1 | l::_=>l),cust:=r.cust,dis:=r.dis,typ:=t }
theorem aB9 {b:Bool} {x:ByteArray} (h:(L x).head?≠some 47):nrm b x=x:=by
 unfold nrm;split
 ·refine L_inj ?_;rw[kR];unfold Lib.trimPrefix Lib.hasPrefix;rw[if_neg];intro hp;rw[List.isPrefixOf_iff_prefix] at hp;obtain ⟨t,ht⟩:=hp;exact h (by rw[← ht];rfl)
 rfl
theorem aFm {p:eQ} {k0:Int×Int} (h:p.known=[k0]) (b:Bool):jL p true b=nrm p.trim p.s:=by
 unfold jL;rw[h];simp
theorem xO {p:eQ} {k0 k1:Int×Int} {rest:List (Int×Int)} (h:p.known=k0::k1::rest) {b:Bool}:jL p true b=nrm p.trim (sub p.s 0 (lP p b)++sub p.s (k0.1 - 1) k0.2):=by
 unfold jL;rw[h];simp
theorem aH6 (b:Bool):nrm b ⟨#[]⟩=⟨#[]⟩:=aB9 (by rw[show L (⟨#[]⟩:ByteArray)=[] from rfl];decide)
theorem aBd {w:ByteArray} (h:iO (L w)=true):(⟨(Lib.trimSuffix (Lib.trimPrefix (L w) [95]) [95]).toArray⟩:ByteArray)=gA w:=by
 refine L_inj ?_;unfold iO at h;simp only[Bool.and_eq_true,decide_eq_true_eq,beq_iff_eq] at h;obtain ⟨h1,h2,h3⟩:=h;have hz:=eN w;rw[kR];unfold gA;rw[eX]
 cases hl:L w with
 | nil=>rw[hl] at h1;simp at h1
 | cons a m =>
  rw[hl] at h1 h2 h3 hz;simp only[List.getElem?_cons_zero,Option.some.injEq] at h2;subst h2
  have e1:Lib.trimPrefix (95::m) [95]=m:=by
   unfold Lib.trimPrefix Lib.hasPrefix;rw[if_pos (by rw[List.isPrefixOf_iff_prefix];exact ⟨m,rfl⟩)];rfl
  have hm:m≠[]:=by rintro rfl;simp at h1
  have e2:m.getLast? = some 95:=by
   rw[List.getLast?_eq_getElem?]
   have:(95::m)[(95::m).length - 1]? = m[m.length - 1]?:=by
    rw[show (95::m).length - 1=(m.length - 1)+1 by have:=List.length_pos_iff.2 hm;simp;omega,List.getElem?_cons_succ]
   rw[← this];exact h3
  rw[e1];unfold Lib.trimSuffix Lib.hasSuffix;rw[if_pos]
  ·show m.take (m.length - 1)=((95::m).drop 1).take (w.size - 1 - 1);rw[show (95::m).drop 1=m from rfl];congr 1;rw[← hz];simp
  rw[List.isSuffixOf_iff_suffix];rw[List.getLast?_eq_some_iff] at e2;obtain ⟨t,ht⟩:=e2;exact ⟨t,ht.symm⟩
section
variable {st:fP} {T:ByteArray} {q:Nat} {n:List UInt8} {p:eQ} {r:RV} {e sc:Nat} {t:Int} (P:PW st T q n p r e sc t)
include P
theorem PW.turn {p' : eQ} (h:∃ ty tr,p' = { p with typ:=ty,trim:=tr }):PW st T q n p' r e sc t:=by
 obtain ⟨ty,tr,rfl⟩:=h
 have G:Grown p { p with typ:=ty,trim:=tr }:=⟨rfl,.inr (.inr ⟨rfl,rfl⟩)⟩
 refine ⟨P.split,P.head,P.h47,P.no,P.s,P.cHigh,P.cLow,P.sec,P.sc,P.nLow,P.nHigh,P.le,P.rend,?_⟩;rcases P.words with h | ⟨h1,h2,R,h3⟩
 ·exact .inl h
 exact .inr ⟨h1,h2,⟨R.ids,R.unk,R.ix.grown G,R.lay,R.dis,R.ext⟩,h3⟩
theorem PW.size:T.size=q+1+n.length:=by
 obtain ⟨pre,S,hp⟩:=P.split;rw[← eN,S.eq,List.length_append,hp]
theorem PW.ns (j:Nat) (h:q < j):(L T)[j]?≠some 47:=by
 obtain ⟨pre,S,hp⟩:=P.split;rw[S.eq,List.getElem?_append_right bA];exact S.no _
theorem PW.sl:slB (L T) T.size=some q:=xE P.h47 _ (by have:=P.size;omega) (fun j h _=>P.ns j h)
theorem PW.nameL:L (lastB T)=n:=by
 obtain ⟨pre,S,hp⟩:=P.split;unfold lastB;rw[kR,S.behind.1,← S.behind.2]
theorem PW.nameZ:(lastB T).size=n.length:=by rw[← eN,P.nameL]
theorem PW.text (a b:Nat):T.extract (q+1+a) (q+1+b)=(lastB T).extract a b:=by
 obtain ⟨pre,S,hp⟩:=P.split;exact sC S hp P.nameL a b
theorem PW.name:vR p=lastB T:=by
 obtain ⟨pre,S,hp⟩:=P.split;refine L_inj ?_;unfold vR;rw[P.cHigh,P.s,show (q:Int)+1=((q+1:Nat):Int) by omega,aIx,P.nameL,← hp,S.eq,List.drop_left]
theorem PW.nameNoId:nR p=(lastB T).extract 0 e:=by
 unfold nR;rw[P.nLow,P.nHigh,P.s,show (q:Int)+1=((q+1:Nat):Int) by omega,jB];exact P.text 0 e
theorem PW.dir:wX p=nrm p.trim (iG T):=by
 have h:=P.sl;unfold wX iG;rw[h]
 cases q with
 | zero=>rw[if_pos (by rw[P.cHigh];rfl)]
 | succ a =>
  rw[if_neg (by rw[P.cHigh];omega),P.cHigh,P.s,show ((a+1:Nat):Int)+1 - 1=((a+1:Nat):Int) by omega];rfl
theorem PW.low {a:Nat} (h:q=a+1):∃ j:Nat,slB (L T) (a+1)=some j∧p.cLow=(j:Int)+1∧j < a∧(L T)[j]? = some 47∧∀ i,j < i→i < a+1→(L T)[i]?≠some 47:=by
 subst h;obtain ⟨j,hj⟩:=xD P.head (a+1) bA;obtain ⟨h1,h2,h3⟩:=aCj _ hj;refine ⟨j,hj,?_,?_,h1,h3⟩
 ·rw[P.cLow,aD2,hj]
 by_cases c:j=a
 ·subst c;exact absurd ⟨h1,P.h47⟩ (P.no j)
 omega
theorem PW.low0 (h:q=0):p.cLow = -1:=by subst h;rw[P.cLow];rfl
theorem PW.lastOf {a j:Nat} (h:q=a+1) (h1:(L T)[j]? = some 47) (h2:j < a) (h3:∀ i,j < i→i < a+1→(L T)[i]?≠some 47):lastB (T.extract 0 (a+1))=T.extract (j+1) (a+1):=by
 have hlen:a+1 < (L T).length:=by rw[eN,P.size];omega
 refine L_inj ?_;have e1:L (T.extract 0 (a+1))=(L T).take (a+1):=by rw[eX];rfl
 have S:nC ((L T).take (a+1)) ((L T).take (j+1)) (((L T).take (a+1)).drop (j+1)):=by
  refine ⟨?_,⟨(L T).take j,?_⟩,fun k=>?_⟩
  ·have:=(List.take_append_drop (j+1) ((L T).take (a+1))).symm;rwa[List.take_take,Nat.min_eq_left bA] at this
  ·obtain ⟨g1,g2⟩:=List.getElem?_eq_some_iff.1 h1;rw[List.take_succ_eq_append_getElem g1,g2]
  rw[List.getElem?_drop,List.getElem?_take];split
  ·exact h3 _ bA bA
  simp
 unfold lastB;rw[kR,e1,S.behind.1,eX,List.drop_take];congr 2
 all_goals rw[List.length_take];omega
theorem PW.cont:nD p=jG T:=by
 have h:=P.sl;unfold nD jG;rw[h]
 cases q with
 | zero=>rw[if_pos (P.low0 rfl)];rfl
 | succ a =>
  obtain ⟨j,hj,h1,h2,h3,h4⟩:=P.low rfl;rw[if_neg bA,h1,P.cHigh,P.s,show ((a+1:Nat):Int)+1 - 1=((a+1:Nat):Int) by omega,show (j:Int)+1=((j+1:Nat):Int) by omega,jB];simp only[];rw[P.lastOf rfl h3 h2 h4];refine aB9 ?_;rw[eX,List.head?_take,if_neg bA,List.head?_drop];exact h4 _ bA bA
theorem PW.contNe {a:Nat} (h:q=a+1):jG T≠⟨#[]⟩:=by
 subst h;obtain ⟨j,hj,h1,h2,h3,h4⟩:=P.low rfl;unfold jG;rw[P.sl];simp only[];rw[P.lastOf rfl h3 h2 h4];intro hh;have h9:=congrArg ByteArray.size hh;rw[← eN,eX,List.length_take,List.length_drop,eN,P.size] at h9;have h0:(⟨#[]⟩:ByteArray).size=0:=rfl;omega
theorem PW.contDir {comp:ByteArray}:mW p=nrm p.trim (mR (wV st comp T n r e p.typ)):=by
 unfold mW mR;show _=nrm p.trim (if jR p.typ=true∧jG T≠⟨#[]⟩ then (iG T).extract 0 ((slB (L (iG T)) (iG T).size).getD 0) else iG T)
 by_cases h0:q=0
 ·have hc:jG T=⟨#[]⟩:=by
   unfold jG;rw[P.sl,h0]
  rw[if_pos (.inl (P.low0 h0)),if_neg (fun h=>h.2 hc)];exact P.dir
 obtain ⟨a,ha⟩:∃ a,q=a+1:=⟨q - 1,aR⟩
 obtain ⟨j,hj,h1,h2,h3,h4⟩:=P.low ha;have hne:=P.contNe ha
 by_cases hb:3≤p.typ∧p.typ≤5
 ·rw[if_neg (by rintro (h | h) <;> first | omega | exact h hb),if_pos ⟨by unfold jR;exact decide_eq_true hb,hne⟩,h1,P.s,show (j:Int)+1 - 1=(j:Int) by omega]
  have hd:iG T=T.extract 0 (a+1):=by
   unfold iG;rw[P.sl,ha]
  have hz:(T.extract 0 (a+1)).size=a+1:=by
   rw[← eN,eX,List.length_take,List.length_drop,eN,P.size];omega
  have hs:slB (L (iG T)) (iG T).size=some j:=by
   rw[hd,hz];refine xE ?_ _ bA (fun i g1 g2=>?_)
   ·rw[eX,List.drop_zero,List.getElem?_take,if_pos bA];exact h3
   rw[eX,List.drop_zero,List.getElem?_take,if_pos bA];exact h4 i g1 bA
  rw[hs,Option.getD_some,hd];congr 1;refine L_inj ?_;rw[show (0:Int)=((0:Nat):Int) from rfl,jB,eX,eX,eX,List.drop_zero,List.drop_zero,List.take_take];congr 1;omega
 rw[if_pos (.inr hb),if_neg (by rintro ⟨h,_⟩;unfold jR at h;exact hb (of_decide_eq_true h))];exact P.dir
theorem PW.section_:pY p=qQ T t:=by
 obtain ⟨pre,S,hp⟩:=P.split;obtain ⟨c1,c2⟩:=aCx S hp P.head;unfold pY qQ;rw[c1]
 by_cases h0:q=0
 ·have a1:cntF (L T) q=0∨(cntF (L T) q=1∧t=3):=.inl (c2.2 h0)
  have a2:p.sec≤0:=by
   rw[P.sec,h0,if_neg (by omega:¬ 0 < 0)];split
   ·exact Int.le_refl _
   show (-1:Int)≤0;decide
  rw[if_pos a2,if_pos a1];rfl
 have hne:cntF (L T) q≠0:=fun h=>h0 (c2.1 h);obtain ⟨f,f1,f2,f3,f4,f5⟩:=zK (l:=L T) q q (Nat.le_refl _) bA P.h47 (fun j a b c=>by omega)
 by_cases h3:t=3∧sc=2
 ·have a1:cntF (L T) q=0∨(cntF (L T) q=1∧t=3):=.inr ⟨by have:=P.sc;omega,h3.1⟩;have a2:p.sec≤0:=by rw[P.sec,if_pos h3];exact Int.le_refl _
  rw[if_pos a2,if_pos a1];rfl
 have hs:p.sec=(f:Int):=by rw[P.sec,if_neg h3,if_pos bA,f1]
 have a1:¬ (cntF (L T) q=0∨(cntF (L T) q=1∧t=3)):=by
  rintro (h | ⟨h,h'⟩)
  ·exact hne h
  exact h3 ⟨h',by have:=P.sc;omega⟩
 have a2:¬ (p.sec≤0):=by rw[hs];omega
 rw[if_neg a2,if_neg a1,hs,P.s,show (1:Int)=((1:Nat):Int) from rfl,jB]
 have htw:((L T).drop 1).takeWhile (fun c=>c != 47)=((L T).drop 1).take (f - 1):=by
  refine rR _ _ ?_ (fun j hj=>?_)
  ·rw[List.getElem?_drop,show 1+(f - 1)=f by omega];exact f4
  rw[List.getElem?_drop];exact f5 _ bA bA
 rw[htw];have e1:(⟨(((L T).drop 1).take (f - 1)).toArray⟩:ByteArray)=T.extract 1 f:=L_inj (by rw[kR,eX]);rw[e1];refine aB9 ?_;rw[eX,List.head?_take];split
 ·simp
 rw[List.head?_drop];intro h;exact P.no 0 ⟨P.head,h⟩
theorem PW.high:lP p false=((q+1+e:Nat):Int):=by
 unfold lP;simp only[Bool.false_eq_true,if_false];rw[P.nHigh,if_neg bA]
theorem PW.cat:T.extract 0 (T.size - (lastB T).size)++(lastB T).extract 0 e=T.extract 0 (q+1+e):=by
 refine L_inj ?_;have hz:=P.size;rw[nH,P.nameZ,← P.text 0 e,eX,eX,eX,hz,show q+1+n.length - n.length=q+1 by omega,List.drop_zero,Nat.sub_zero,Nat.sub_zero,Nat.add_zero,show q+1+e - (q+1)=e by omega];exact (List.take_add ..).symm
theorem PW.idsNe (h:p.known≠[]):r.ids≠[]:=by
 rcases P.words with ⟨h1,_⟩ | ⟨_,_,R,_⟩
 ·exact absurd h1 h
 rw[R.ids];unfold kW;simpa using h
theorem PW.none (h:p.known=[]):r=lG∧eY n=[]∧e=n.length:=by
 rcases P.words with ⟨_,h1,h2,h3,_⟩ | ⟨h1,_⟩
 ·exact ⟨h2,h1,h3⟩
 exact absurd h h1
theorem PW.point (h:p.known≠[]):∃ (c:Nat) (rest:List (Int×Int)),p.known=(((q+1+c+1:Nat):Int),(T.size:Int))::rest∧c < n.length∧r.ext=T.extract (q+1+c+1) T.size∧r.ext.size=n.length - c - 1∧(L T)[q+1+c]? = some 46∧e≤c:=by
 rcases P.words with ⟨h1,_⟩ | ⟨_,_,R,_,_,c,h1,h2,h46,hec⟩
 ·exact absurd h1 h
 cases hk:p.known with
 | nil=>exact absurd hk h
 | cons x rest =>
  rw[hk] at h1;injection h1 with h1
  subst h1
  have e1:r.ext=T.extract (q+1+c+1) T.size:=by
   rw[← R.ext];unfold fO;rw[if_neg bF,hk,P.s];exact jB _ _ _
  refine ⟨c,rest,rfl,h2,e1,?_,?_,hec⟩;rotate_left
  ·obtain ⟨pre,S,hp⟩:=P.split;rw[S.eq,List.getElem?_append_right bA,show q+1+c - pre.length=c by omega];exact h46
  rw[e1,← eN,eX,List.length_take,List.length_drop,eN,P.size];omega
theorem PW.noId {comp:ByteArray} {ty:Int}:jL p false false=nrm p.trim (kQ (wV st comp T n r e ty)):=by
 unfold jL kQ qY;show _=nrm p.trim (if r.ids=[] then T else T.extract 0 (T.size - (lastB T).size)++(lastB T).extract 0 e)
 cases hk:p.known with
 | nil =>
  obtain ⟨hr,_⟩:=P.none hk;rw[if_pos (by rw[hr];rfl),P.s]
 | cons k0 rest =>
  rw[if_neg (P.idsNe (by rw[hk];simp)),P.cat];simp only[Bool.false_eq_true,false_and,if_false];rw[P.high,P.s];rfl
theorem PW.noExt {comp:ByteArray} {ty:Int}:oP p=kU (wV st comp T n r e ty) (lastB T):=by
 unfold oP kU;show _=if r.ids=[] then lastB T else (lastB T).extract 0 ((lastB T).size - r.ext.size - 1)
 cases hk:p.known with
 | nil =>
  obtain ⟨hr,_⟩:=P.none hk;rw[if_pos (by rw[hr];rfl)];exact P.name
 | cons k0 rest =>
  have hne:p.known≠[]:=by rw[hk];simp
  obtain ⟨c,rest',h1,h2,h3,h4,_⟩:=P.point hne;rw[hk] at h1;injection h1 with h1 _
  rw[if_neg (P.idsNe hne),h1,h4,P.nameZ,P.cHigh,P.s];show sub T ((q:Int)+1) (((q+1+c+1:Nat):Int) - 1)=_;rw[show (q:Int)+1=((q+1+0:Nat):Int) by omega,show ((q+1+c+1:Nat):Int) - 1=((q+1+c:Nat):Int) by omega,jB,P.text 0 c];congr 1;omega
theorem PW.before {comp:ByteArray} {ty:Int}:rA p=nrm p.trim (kU (wV st comp T n r e ty) T):=by
 unfold rA kU;show _=nrm p.trim (if r.ids=[] then T else T.extract 0 (T.size - r.ext.size - 1))
 cases hk:p.known with
 | nil =>
  obtain ⟨hr,_⟩:=P.none hk;rw[if_pos (by rw[hr];rfl),P.s]
 | cons k0 rest =>
  have hne:p.known≠[]:=by rw[hk];simp
  obtain ⟨c,rest',h1,h2,h3,h4,_⟩:=P.point hne;rw[hk] at h1;injection h1 with h1 _
  rw[if_neg (P.idsNe hne),h1,h4,P.s];show nrm p.trim (sub T 0 (((q+1+c+1:Nat):Int) - 1))=_;rw[show ((q+1+c+1:Nat):Int) - 1=((q+1+c:Nat):Int) by omega,show (0:Int)=((0:Nat):Int) from rfl,jB,P.size];congr 2;omega
theorem PW.withExt (h:p.known≠[]):∃ k0 rest,p.known=k0::rest∧sub p.s 0 (lP p false)++sub p.s (k0.1 - 1) k0.2=T.extract 0 (T.size - (lastB T).size)++(lastB T).extract 0 e++⟨#[46]⟩++r.ext:=by
 obtain ⟨c,rest,h1,h2,h3,h4,hdot,_⟩:=P.point h;refine ⟨_,rest,h1,?_⟩;rw[P.cat,P.high,P.s];show sub T 0 ((q+1+e:Nat):Int)++sub T (((q+1+c+1:Nat):Int) - 1) (T.size:Int)=_;rw[show ((q+1+c+1:Nat):Int) - 1=((q+1+c:Nat):Int) by omega,show (0:Int)=((0:Nat):Int) from rfl,jB,jB,h3];refine L_inj ?_;rw[nH,nH,nH,List.append_assoc];congr 1;rw[eX,eX];have hlt:q+1+c < (L T).length:=by rw[eN,P.size];omega
 rw[List.take_of_length_le (by rw[List.length_drop,eN];omega),List.take_of_length_le (by rw[List.length_drop,eN];omega),List.drop_eq_getElem_cons hlt];rw[List.getElem?_eq_getElem hlt] at hdot;injection hdot with hdot
 rw[hdot];rfl
theorem PW.oneKnown:r.ids.length=p.known.length:=by
 rcases P.words with ⟨h1,_,h2,_⟩ | ⟨_,_,R,_⟩
 ·rw[h1,h2];rfl
 rw[R.ids];unfold kW;rw[List.length_map]
theorem PW.pathNe (x:ByteArray) (hx:∃ k,L x=(L T).take k) (b:Bool):L (nrm b x)=[47]→b=false∧L x=[47]:=by
 intro h;obtain ⟨k,hk⟩:=hx
 cases b with
 | false=>exact ⟨rfl,h⟩
 | true =>
  exfalso;unfold nrm at h;rw[if_pos rfl,kR,hk] at h
  cases k with
  | zero=>rw[List.take_zero] at h;cases h
  | succ k =>
   have h0:=P.head
   cases hl:L T with
   | nil=>rw[hl] at h0;cases h0
   | cons a m =>
    rw[hl] at h0 h;simp only[List.getElem?_cons_zero,Option.some.injEq] at h0;subst h0;rw[List.take_succ_cons] at h;unfold Lib.trimPrefix Lib.hasPrefix at h;rw[if_pos (by rw[List.isPrefixOf_iff_prefix];exact ⟨_,rfl⟩)] at h;have h2:(m.take k)=[47]:=h
    have h3:m[0]? = some 47:=by
     have:=congrArg (fun l=>l[0]?) h2;simp only[List.getElem?_cons_zero] at this;rw[List.getElem?_take] at this;split at this
     ·exact this
     cases this
    exact P.no 0 ⟨by rw[hl];rfl,by rw[hl];exact h3⟩
theorem PW.base {comp:ByteArray}:tD p=nrm p.trim (lW (wV st comp T n r e p.typ)):=by
 unfold tD lW;show (if _ then _ else _)=nrm p.trim (if r.ids=[] then (if T=⟨#[47]⟩∧2≤p.typ∧p.typ≤5 then ⟨#[]⟩ else T) else if jR p.typ=true then (if iG T=⟨#[47]⟩ then ⟨#[]⟩ else iG T) else if p.typ=2 then kQ (wV st comp T n r e p.typ) else if r.ids.length=1 then T else kQ (wV st comp T n r e p.typ)++⟨#[46]⟩++r.ext)
 have hone:∀ x:ByteArray,x=⟨#[47]⟩↔L x=[47]:=fun x=>⟨fun h=>by rw[h];rfl,fun h=>L_inj (by rw[h];rfl)⟩
 have empt:(ByteArray.empty:ByteArray)=nrm p.trim ⟨#[]⟩:=by rw[aH6];rfl
 have take:∀ (x:ByteArray) (k:Nat),x=T.extract 0 k→∃ k,L x=(L T).take k:=by
  rintro x k rfl;exact ⟨k,by rw[eX];rfl⟩
 have whole:∃ k,L T=(L T).take k:=⟨(L T).length,(List.take_of_length_le (Nat.le_refl _)).symm⟩
 -- whatever the base is: where it is not / alone,or it is no page
 have key:∀ (B0 x y:ByteArray),B0=nrm p.trim x→(∃ k,L x=(L T).take k)→(2≤p.typ∧p.typ≤5)→y=(if L x=[47] then ⟨#[]⟩ else x)→(if B0.toList=[47]∧2≤p.typ∧p.typ≤5 then ByteArray.empty else B0)=nrm p.trim y:=by
  rintro B0 x y rfl hx hc rfl;rw[L_toList]
  by_cases h:L x=[47]
  ·rw[if_pos h,← empt]
   by_cases h2:L (nrm p.trim x)=[47]
   ·rw[if_pos ⟨h2,hc⟩]
   rw[if_neg (fun hh=>h2 hh.1)]
   cases hb:p.trim with
   | false=>rw[hb] at h2;exact absurd h h2
   | true =>
    refine L_inj ?_;unfold nrm;rw[if_pos rfl,kR,h];rfl
  rw[if_neg h,if_neg (fun hh=>h (P.pathNe x hx _ hh.1).2)]
 cases hk:p.known with
 | nil =>
  obtain ⟨hr,_⟩:=P.none hk
  have hb:∀ a b,jL p a b=nrm p.trim T:=by
   intro a b;unfold jL;rw[hk,P.s]
  have a1:r.ids=[]:=by rw[hr];rfl
  rw[if_pos a1,hb]
  by_cases hc:2≤p.typ∧p.typ≤5
  ·refine key _ T _ rfl whole hc ?_
   by_cases h:L T=[47]
   ·rw[if_pos h,if_pos ⟨(hone T).2 h,hc⟩]
   rw[if_neg h,if_neg (fun hh=>h ((hone T).1 hh.1))]
  rw[if_neg (fun h=>hc h.2:¬ ((nrm p.trim T).toList=[47]∧2≤p.typ∧p.typ≤5)),if_neg (fun h=>hc h.2:¬ (T=⟨#[47]⟩∧2≤p.typ∧p.typ≤5))]
 | cons k0 rest =>
  have hne:p.known≠[]:=by rw[hk];simp
  have a1:¬ (r.ids=[]):=P.idsNe hne;rw[if_neg a1]
  by_cases hc:2≤p.typ∧p.typ≤5
  ·have e1:(!decide (2≤p.typ∧p.typ≤5))=false:=by rw[decide_eq_true hc];rfl
   rw[e1]
   by_cases hbn:3≤p.typ∧p.typ≤5
   ·have e2:decide (3≤p.typ∧p.typ≤5)=true:=decide_eq_true hbn;rw[e2,if_pos (show jR p.typ=true from e2)]
    have hb:jL p false true=nrm p.trim (T.extract 0 (if q=0 then 1 else q)):=by
     unfold jL;rw[hk];simp only[Bool.false_eq_true,false_and,if_false];unfold lP;simp only[if_true];rw[P.cHigh,P.s,show (q:Int)+1 - 1=(q:Int) by omega]
     by_cases h0:q=0
     ·rw[if_pos bA,if_pos h0];rfl
     rw[if_neg bA,if_neg h0];rfl
    refine key _ (T.extract 0 (if q=0 then 1 else q)) _ hb (take _ _ rfl) hc ?_
    have hd:iG T=if q=0 then ⟨#[47]⟩ else T.extract 0 q:=by
     unfold iG;rw[P.sl]
     cases q with
     | zero=>rfl
     | succ a=>rfl
    by_cases h0:q=0
    ·rw[if_pos h0] at hd;rw[if_pos h0,hd,if_pos rfl,if_pos];have hlt:0 < (L T).length:=by rw[eN,P.size];omega
     rw[eX,List.drop_zero];have hh:=P.head
     cases hl:L T with
     | nil=>rw[hl] at hlt;simp at hlt
     | cons a m =>
      rw[hl] at hh;simp only[List.getElem?_cons_zero,Option.some.injEq] at hh;rw[hh];rfl
    rw[if_neg h0] at hd;rw[if_neg h0,hd]
    have hne2:L (T.extract 0 q)≠[47]:=by
     intro h
     obtain ⟨a,ha⟩:∃ a,q=a+1:=⟨q - 1,aR⟩
     obtain ⟨j,_,_,h2,_⟩:=P.low ha;have:=congrArg List.length h;rw[eX,List.length_take,List.length_drop,eN,P.size] at this
     simp at this
     omega
    rw[if_neg hne2,if_neg (fun h=>hne2 ((hone _).1 h))]
   have e2:decide (3≤p.typ∧p.typ≤5)=false:=decide_eq_false hbn;rw[e2,if_neg (show ¬ (jR p.typ=true) by unfold jR;rw[e2];decide),if_pos (by omega:p.typ=2)]
   have hw:kQ (wV st comp T n r e p.typ)=T.extract 0 (q+1+e):=by
    unfold kQ;show (if r.ids=[] then T else qY _++_)=_;rw[if_neg (P.idsNe hne)];exact P.cat
   refine key _ (T.extract 0 (q+1+e)) _ ?_ (take _ _ rfl) hc ?_
   ·rw[P.noId (comp:=comp) (ty:=p.typ),hw]
   have hpos:0 < e:=by
    rcases P.words with ⟨h1,_⟩ | ⟨_,_,_,h,_⟩
    ·exact absurd h1 hne
    exact h
   rw[hw,if_neg];intro h;have:=congrArg List.length h;rw[eX,List.length_take,List.length_drop,eN,P.size] at this;have hle:=P.le
   simp at this
   omega
  have e1:(!decide (2≤p.typ∧p.typ≤5))=true:=by rw[decide_eq_false hc];rfl
  have e2:decide (3≤p.typ∧p.typ≤5)=false:=decide_eq_false (fun h=>hc ⟨aR,h.2⟩);have b1:¬ ((jL p (!decide (2≤p.typ∧p.typ≤5)) (decide (3≤p.typ∧p.typ≤5))).toList=[47]∧2≤p.typ∧p.typ≤5):=fun h=>hc h.2;have b2:¬ (jR p.typ=true):=by unfold jR;rw[e2];decide
  have b3:¬ (p.typ=2):=fun h=>hc bA;rw[if_neg b1,if_neg b2,if_neg b3,e1,e2,P.oneKnown];obtain ⟨k0',rest',hk',hw⟩:=P.withExt hne;rw[hk] at hk';injection hk' with h1 h2
  subst h1 h2
  cases rest with
  | nil =>
   have b4:p.known.length=1:=by rw[hk];rfl
   rw[if_pos b4,aFm hk,P.s]
  | cons k1 rest =>
   have b4:¬ (p.known.length=1):=by rw[hk];simp
   rw[if_neg b4,xO hk,hw];unfold kQ;show _=nrm p.trim ((if r.ids=[] then T else qY _++_)++_++_);rw[if_neg a1];rfl
theorem PW.langIs:vQ p=(match r.langs with | []=>r.lang1 | l::_=>l)∧((p.plangs≠[]∨mO p p.lang≠-1)↔(match r.langs with | []=>r.lang1 | l::_=>l)≠⟨#[]⟩)∧((p.plangs≠[]∨mO p p.lang≠-1)→2≤p.known.length):=by
 unfold vQ;rcases P.words with ⟨h1,_,hr,_,h2,_,_,_,_,_,_,_,h3,_⟩ | ⟨h1,_,R,_⟩
 ·rw[h3,h2,hr];refine ⟨rfl,⟨?_,fun h=>absurd rfl h⟩,?_⟩
  ·rintro (h | h)
   ·exact absurd rfl h
   exact absurd (by unfold mO;rw[if_pos (.inl bF)]) h
  rintro (h | h)
  ·exact absurd rfl h
  exact absurd (by unfold mO;rw[if_pos (.inl bF)]) h
 have I:=R.ix
 cases hp:p.plangs with
 | nil =>
  have hl:r.langs=[]:=by rw[I.langs,hp];rfl
  rw[hl];refine ⟨I.lang.str,?_,?_⟩
  ·simp only[ne_eq,not_true_eq_false,false_or];rcases I.lang with ⟨h2,h3⟩ | ⟨h2,h3⟩
   ·rw[h2,h3];exact ⟨fun h=>absurd (by unfold mO;rw[if_pos (.inl bF)]) h,fun h=>absurd rfl h⟩
   obtain ⟨g0,_,x,g1,_⟩:=h2;have:=(List.getElem?_eq_some_iff.1 g1).1;refine ⟨fun _=>h3,fun _=>?_⟩;unfold mO;rw[if_neg bA];omega
  rintro (h | h)
  ·exact absurd rfl h
  unfold mO at h;split at h
  ·exact absurd rfl h
  rename_i hh
  have:=I.pos.1;omega
 | cons i rest =>
  have hl:r.langs=fO p i::rest.map (fO p):=by rw[I.langs,hp];rfl
  rw[hl];refine ⟨rfl,⟨fun _=>I.lne _ (by rw[hl];exact List.mem_cons_self ..),fun _=>.inl bL⟩,fun _=>?_⟩;obtain ⟨g0,_,x,g1,_⟩:=I.pl i (by rw[hp];exact List.mem_cons_self ..);have:=(List.getElem?_eq_some_iff.1 g1).1;have:=I.pos.2 i (by rw[hp];exact List.mem_cons_self ..);omega
theorem PW.noLang {comp:ByteArray} {ty:Int}:rC p=nrm p.trim (mJ (wV st comp T n r e ty)):=by
 obtain ⟨h1,h2,h3⟩:=P.langIs;unfold rC mJ;show _=nrm p.trim (if (match r.langs with | []=>r.lang1 | l::_=>l)=⟨#[]⟩ then T else T.extract 0 (T.size - (lastB T).size)++(lastB T).extract 0 e++⟨#[46]⟩++r.ext)
 by_cases c:p.plangs≠[]∨mO p p.lang≠-1
 ·have hlen:=h3 c;have hne:p.known≠[]:=by intro h;rw[h] at hlen;simp at hlen
  obtain ⟨k0,rest,hk,hw⟩:=P.withExt hne;have a1:¬ ((match r.langs with | []=>r.lang1 | l::_=>l)=⟨#[]⟩):=h2.1 c;rw[if_pos c,if_neg a1,← hw]
  cases rest with
  | nil=>rw[hk] at hlen;simp at hlen
  | cons k1 rest=>exact xO hk
 rw[if_neg c,if_pos (by
  by_cases h:(match r.langs with | []=>r.lang1 | l::_=>l)=⟨#[]⟩
  ·exact h
  exact absurd (h2.2 h) c),P.s]
theorem PW.extIs:fO p 0=r.ext:=by
 rcases P.words with ⟨h1,_,hr,_⟩ | ⟨_,_,R,_⟩
 ·rw[hr];unfold fO;rw[if_neg bF,h1];rfl
 exact R.ext
theorem PW.fmtIs {comp:ByteArray} {ty:Int} (hc:p.comp=comp):aB3 p=(wV st comp T n r e ty).fmt:=by
 show _=if eW comp=true∧chooseB r.fmt r.fmt1=⟨#[]⟩∧eY n≠[]∧iB st r.ext=true then r.ext else chooseB r.fmt r.fmt1
 have hx:=P.extIs;unfold aB3 chooseB;rcases P.words with ⟨h1,h2,hr,_,_,h3,_,_,h4,_⟩ | ⟨h1,h2,R,_⟩
 ·rw[if_pos h4,h3,hr,if_neg (fun h=>h.2.2.1 h2)];rfl
 rcases R.ix.pfmt with ⟨a1,a2⟩ | ⟨a1,a2⟩
 ·rw[if_pos a1,a2,if_pos rfl];rcases R.ix.fmt with ⟨b1,b2⟩ | ⟨b1,b2⟩
  ·rw[b1,b2];unfold fmt0;rw[hc]
   by_cases c:(eW comp && iB st r.ext)=true
   ·rw[if_pos c,hx];rw[Bool.and_eq_true] at c;rw[if_pos ⟨c.1,rfl,h2,c.2⟩]
   rw[if_neg c,if_neg (fun h=>c (by rw[Bool.and_eq_true];exact ⟨h.1,h.2.2.2⟩))];rfl
  rw[b2.str,if_neg (fun h=>b1 h.2.1)]
 rw[if_neg (by have:=a1.1;omega),a1.str,if_neg a2,if_neg (fun h=>a2 h.2.1)]
theorem PW.kindIs:yA p=chooseB r.kind r.kind1:=by
 unfold yA chooseB;rcases P.words with ⟨h1,h2,hr,_,_,_,h3,_,_,h4,_⟩ | ⟨h1,h2,R,_⟩
 ·rw[if_pos h4,h3,hr];rfl
 rcases R.ix.pkind with ⟨a1,a2⟩ | ⟨a1,a2⟩
 ·rw[if_pos a1,a2,if_pos rfl];exact R.ix.kind.str
 rw[if_neg (by have:=a1.1;omega),a1.str,if_neg a2]
theorem PW.layIs:sO p=chooseB r.lay r.lay1:=by
 unfold sO chooseB;rcases P.words with ⟨h1,h2,hr,_,_,_,_,_,_,_,h4,h3,_⟩ | ⟨h1,h2,R,_⟩
 ·rw[if_pos h4,h3,hr];rfl
 rcases R.ix.play with ⟨a1,a2⟩ | ⟨a1,a2⟩
 ·rw[if_pos a1,a2,if_pos rfl];exact R.lay
 rw[if_neg (by have:=a1.1;omega),a1.str,if_neg a2]
theorem PW.custIs:pX p=r.cust:=by
 unfold pX;have h0:(⟨(Lib.trimSuffix (Lib.trimPrefix (L (fO p (-1))) [95]) [95]).toArray⟩:ByteArray)=⟨#[]⟩:=rfl;rcases P.words with ⟨h1,h2,hr,_,_,_,_,h3,_⟩ | ⟨h1,h2,R,_⟩
 ·rw[h3,hr];rfl
 rcases R.ix.cust with ⟨a1,a2⟩ | ⟨w,a1,a2,a3⟩
 ·rw[a1,a2];rfl
 rw[a1.str,a3];exact aBd a2
theorem PW.lists:kW p=r.ids∧mQ p=r.unk∧lZ p=r.langs∧p.dis=r.dis:=by
 rcases P.words with ⟨h1,h2,hr,_,_,_,_,_,_,_,_,_,h3,h4,h5⟩ | ⟨h1,h2,R,_⟩
 ·unfold kW mQ lZ;rw[h1,h3,h4,h5,hr];exact ⟨rfl,rfl,rfl,rfl⟩
 exact ⟨R.ids.symm,R.unk.symm,R.ix.langs.symm,R.dis⟩
end
def yF (w:WV) (t:Int) (b:Bool):gV :=
 { sB w with
  section_:=qQ w.path t
  containerDir:=nrm b (mR w)
  dir:=nrm b (iG w.path)
  path:=nrm b w.path
  pathNoLang:=nrm b (mJ w)
  pathNoId:=nrm b (kQ w)
  pathBefore:=nrm b (kU w w.path)
  base:=nrm b (lW w)
  idBase:=nrm b (if eW w.comp=true then w.path else lW w) }
theorem aE7 (w:WV):yF w w.typ false=sB w:=rfl
theorem aIe {st:fP} {T:ByteArray} {q:Nat} {n:List UInt8} {p:eQ} {r:RV} {e sc:Nat} {t:Int} (P:PW st T q n p r e sc t) (comp:ByteArray) (hc:p.comp=comp) :
 oQ p=yF (wV st comp T n r e p.typ) t p.trim:=by
 obtain ⟨l1,l2,l3,l4⟩:=P.lists
 have hb:rB p=nrm p.trim (if eW comp=true then T else lW (wV st comp T n r e p.typ)):=by
  unfold rB eW;rw[hc]
  by_cases c:comp.toList=[108,97,121,111,117,116,115]
  ·rw[if_pos c,if_pos (beq_iff_eq.2 c),P.s]
  rw[if_neg c,if_neg (fun h=>c (beq_iff_eq.1 h))];exact P.base
 have hbn:qK p=if jR p.typ=true then jG T else (lastB T).extract 0 e:=by
  unfold qK jR
  by_cases c:3≤p.typ∧p.typ≤5
  ·rw[if_pos c,if_pos (decide_eq_true c)];exact P.cont
  rw[if_neg c,if_neg (by rw[decide_eq_false c];decide)];exact P.nameNoId
 unfold oQ;rw[hc,P.cont,P.contDir (comp:=comp),P.section_,P.name,P.noExt (comp:=comp) (ty:=p.typ),hbn,P.nameNoId,P.dir,P.s,P.noLang (comp:=comp) (ty:=p.typ),P.noId (comp:=comp) (ty:=p.typ),P.before (comp:=comp) (ty:=p.typ),P.base (comp:=comp),hb,P.extIs,P.fmtIs (ty:=p.typ) hc,P.kindIs,P.layIs,P.langIs.1,P.custIs,l1,l2,l3,l4];rfl
theorem aIt {st:fP} {comp T:ByteArray} {q:Nat} {n:List UInt8} {p:eQ} {e sc:Nat} {t:Int}
 (P:PW st T q n p (gU st comp (fH (L T) gC) (lastB T) (eY n)) e sc t):wOf st comp T=wV st comp T n (gU st comp (fH (L T) gC) (lastB T) (eY n)) e (aFd st comp T n (gU st comp (fH (L T) gC) (lastB T) (eY n)) e):=by
 have hn:=P.nameL
 have he:(kL (gU st comp (fH (L T) gC) (lastB T) (eY n)).marks ((lastB T).size:Int)).toNat=e:=by
  rw[P.nameZ,P.rend];exact Int.toNat_natCast e
 have ht:L ((lastB T).extract 0 e)=n.take e:=by rw[eX,hn];rfl
 unfold wOf wV aFd;simp only[];rw[hn,he,ht];rfl
theorem aGg {st:fP} (SE:qT st) (comp s:ByteArray) (K:oB (eW comp) ((iJ (L s)).drop (behind (iJ (L s))))) (hno:∀ i:Nat,¬ ((L s)[i]? = some 47∧(L s)[i+1]? = some 47)) (t:Int) (b:Bool) :
 oQ { jN (eS st) comp s with typ:=t,trim:=b }=yF { wOf st comp ⟨(iJ (L s)).toArray⟩ with typ:=t } (wOf st comp ⟨(iJ (L s)).toArray⟩).typ b∧(jN (eS st) comp s).typ=(wOf st comp ⟨(iJ (L s)).toArray⟩).typ∧(jN (eS st) comp s).trim=false:=by
 obtain ⟨T,q,n,e,sc,hT,hn,P,ht,hc,htr⟩:=aI2 SE comp s K hno;have hw:=aIt P;have P2:=P.turn (p':={ jN (eS st) comp s with typ:=t,trim:=b }) ⟨t,b,rfl⟩;have h:=aIe P2 comp hc;rw[← hT,hw];exact ⟨h,ht,htr⟩
theorem aI4 {st:fP} {comp s:ByteArray} (K:sL st comp s):qT st where
 lang:=by
  intro w h hw;subst hw
  have key:∀ l:List ByteArray,(∀ x∈l,mS x)→listed l ⟨#[]⟩=true→False:=by
   intro l hl h;unfold listed at h;rw[List.any_eq_true] at h;obtain ⟨x,hx,he⟩:=h;rw[beq_iff_eq,L_toList,L_toList] at he;have h1:=(hl x hx).pos;rw[L_inj he] at h1;exact absurd h1 bF
  rw[Bool.or_eq_true] at h;rcases h with h | h
  ·exact key _ K.site.langs h
  exact key _ K.site.dis h
 fmt:=by
  intro w h hw;subst hw;unfold iB at h;rw[List.any_eq_true] at h;obtain ⟨x,hx,he⟩:=h;rw[beq_iff_eq,L_toList,L_toList] at he;have h1:=(K.site.fmts (mkF x) (List.mem_map_of_mem hx)).1.pos;have h2:(mkF x).f0=⟨#[]⟩:=L_inj he;rw[h2] at h1;exact absurd h1 bF
theorem aHi {st:fP} {comp s:ByteArray} (K:sL st comp s) (t:Int) (b:Bool) :
 oQ { jN (eS st) comp (norm s) with typ:=t,trim:=b }=yF { wOf st comp (pathOf s false) with typ:=t } (wOf st comp (pathOf s false)).typ b∧(jN (eS st) comp (norm s)).typ=(wOf st comp (pathOf s false)).typ∧(jN (eS st) comp (norm s)).trim=false:=by
 have W:=K.low;unfold pathOf at W;simp only[Bool.false_eq_true,if_false] at W;rw[kR] at W;exact aGg (aI4 K) comp (norm s) W (aB8 K.slashes) t b
end Go.Proofs.YtbkobfoaphcamaaGreatDoor.Path
namespace Go.Proofs.YtbkobfoaphcamaaGreatDoor.Path
open Go.RowKit Go.WideMaps Go.Proofs.YtbkobfoaphcamaaGreatDoorW.PrintWords Go.Proofs.YtbkobfoaphcamaaGreatDoor.Base Go.Proofs.YtbkobfoaphcamaaGreatDoor.Lower Go.Proofs.YtbkobfoaphcamaaGreatDoor.Total Go.Proofs.YtbkobfoaphcamaaGreatDoor.PCore
open Go.Proofs.YtbkobfoaphcamaaGreatDoorW.PrintLast
theorem qP {P:Program} {fn:Func} {tmps:Array Value} {a b u:Nat} {t:TypeId} {v1 v2:Value} {w:World} {x y:Addr} (hf:fn.results = #[.cell a t,.cell b t,.tmp u]) (l1:(loadVar t x).run P w = .ok v1 w) (l2:(loadVar t y).run P w = .ok v2 w) (ha:tmps.getD a undef = .pointer (some x):=by first | rfl | assumption) (hb:tmps.getD b undef = .pointer (some y):=by first | rfl | assumption) :
 (results fn tmps).run P w = .ok (.tuple #[v1,v2,tmps.getD u undef]) w:=by
 unfold results;rw[hf];have ha' : tmps[a]?.getD undef = .pointer (some x):=by simpa using ha
 have hb' : tmps[b]?.getD undef = .pointer (some y):=by simpa using hb
 simp[Sem.run_bind,ha',hb',l1,l2,asAddr]
theorem fY {w:World} {b b' : Nat} {cs:List Value} (H:Row w b cs) (hne:b≠b') (C:Array Value):Row (w.setCells b' 0 C.toList) b cs:=H.step (mC _ _ _ hne)
theorem pM {w:World} {b:Nat} {C:Array Value} (hR:Row w b C.toList) (hC:C.size=31):(loadVar 28 ⟨b,0,none⟩).run Tryz.prog w = .ok (.agg C) w:=by
 have hl:C.toList.length=31:=by simpa using hC
 have hr:w.rangeAt b 0 C.toList:=by
  intro j v hv;rw[Nat.zero_add];exact hR.at j v hv
 have hld:=run_loadVar_mid (P:=Tryz.prog) _ b 0 28 C.toList _ hr Tryz.underlying28 rfl (by rw[hl];kernel_rfl)
 simpa using hld
theorem yJ {ops:Array Oper} {oi:Oper} {a:Act} {w:World} {K:Act→World→Prop} {Q:Exit→Act→World→Prop} {b:Nat} {C:Array Value} {cs:List Value} (hw:Region.wanted oi (yielded ops a.tmps)=true) (hN:oi.dst=none) (x y:Operand) (ho:oi.op = .store 28 x y)
 (hx:a.eval x = .pointer (some ⟨b,0,none⟩)) (hy:a.eval y = .agg C) (hR:Row w b cs) (hcs:cs.length=31) (hC:C.size=31) (hone:C.all (·.oneCell')=true) (h:K a (w.setCells b 0 C.toList)) :
 if Region.wanted oi (yielded ops a.tmps)=true then Oper.wp Tryz.prog oi a w K Q else K (a.put none undef) w:=by
 have ht:w.there b 0 31:=hcs▸hR.there;rw[if_pos hw];refine wp_store_mid 28 x y ho b 0 C hx hy (by rw[hC];exact ht) (by rw[hC];kernel_rfl) hone ?_;rw[hN];exact h
theorem aFx {st:fP} {comp s:ByteArray} (h:shortS st comp s=true):yP st:=by
 obtain ⟨_,_,_,h1,h2,h3,h4,h5,h6,_,h7⟩:=tL h;have hlen:(st.fmts.map mkF).length=st.fmts.length:=by simp
 exact ⟨aR,aR,aR,aR,fun x hx=>Nat.le_trans (h5 x hx) bA,fun x hx=>Nat.le_trans (h6 x hx) bA,fun x hx=>Nat.le_trans (h7 x hx) bA⟩
theorem aHj {st:fP} {comp s:ByteArray} (K:sL st comp s):sB (wOf st comp (pathOf s false))=oQ (jN (eS st) comp (norm s)):=by
 obtain ⟨h1,h2,h3⟩:=aHi K (wOf st comp (pathOf s false)).typ false;have e:{ jN (eS st) comp (norm s) with typ:=(wOf st comp (pathOf s false)).typ,trim:=false }=jN (eS st) comp (norm s):=by rw[← h2,← h3]
 rw[e] at h1;rw[h1,aE7]
section
variable {w:World} {st:fP} {vl vd vf vc:Value}
set_option maxRecDepth 100000 in
set_option maxHeartbeats 8000000 in
theorem kH (S:kC w st vl vd vf vc) (hf:nU st=true) (comp s:ByteArray) (hc:comp.size≤MM) (hs:s.size≤MM) :
 ∃ ok:Bool,(ok=true→jT st∧asc s∧asc comp∧s.size≤400∧comp.size≤2000∧sL st comp s) ∧
 Calls Tryz.prog 16 #[.agg #[vl,vd,vf,vc],.string comp,.string s] w fun e w' =>
  ∃ t v1 v2 v3 u1 u2 u3,e = .returned (.tuple #[iI t v1 v2 v3,iI t u1 u2 u3,.bool ok])∧pC w' w.heap.size t v1 v2 v3∧pC w' w.heap.size t u1 u2 u3 ∧
   (ok=true→t=oQ (jN (eS st) comp (norm s)))∧Below w.heap.size w w':=by
 obtain ⟨b1,hb1⟩:∃ b1,shortS st comp s=b1:=⟨_,rfl⟩
 obtain ⟨b2,hb2,hk2⟩:∃ b2:Bool,(b1=true→b2=true→asc s∧asc comp∧s.size≤400∧sL st comp s)∧(b1=true→∀ w',Below w.heap.size w w'→Calls Tryz.prog 21 #[.agg #[vl,vd,vf,vc],.string comp,.string s] w' fun e w''=>e = .returned (.bool b2)∧Below w'.heap.size w' w''):=by
  cases b1 with
  | false=>exact ⟨false,fun h=>(by cases h),fun h=>(by cases h)⟩
  | true =>
   obtain ⟨r,h1,h2⟩:=yE S comp s hb1;exact ⟨r,fun _=>h1,fun _=>h2⟩
 refine ⟨b1 && b2,fun h=>?_,?_⟩
 ·simp only[Bool.and_eq_true] at h;obtain ⟨h1,h2⟩:=h;rw[h1] at hb1;have h3:=tL hb1;have h4:=hb2 h1 h2;exact ⟨h3.1,h4.1,h4.2.1,h4.2.2.1,h3.2.1,h4.2.2.2⟩
 have HSA:=cD S;have HB1:=cD hb1;have HB2:=cD hb2;have HK2:=cD hk2;obtain ⟨Al,cl,rfl,_,_⟩:=S.l;obtain ⟨Ad,cd,rfl,_,_⟩:=S.d;obtain ⟨Af,cf,rfl,_,_⟩:=S.f;obtain ⟨Ac,cc,rfl,_,_⟩:=S.c;clear S hb1 hb2 hk2;have hB1:Below w.heap.size w (w.alloc (.cells #[.slice Al st.langs.length cl,.slice Ad st.dis.length cd,.slice Af st.fmts.length cf,.slice Ac st.cont.length cc] 25)):=(Below.refl _ _).alloc (Nat.le_refl _) _;have hR1:=Row.new w [.slice Al st.langs.length cl,.slice Ad st.dis.length cd,.slice Af st.fmts.length cf,.slice Ac st.cont.length cc] 25;have hs1:w.heap.size < (w.alloc (.cells #[.slice Al st.langs.length cl,.slice Ad st.dis.length cd,.slice Af st.fmts.length cf,.slice Ac st.cont.length cc] 25)).heap.size:=by simp
 go_enter Tryz.func16,Tryz.ntmps16;go_upto_region 1 with fail
 obtain ⟨w1,hw1⟩:∃ w1,w.alloc (.cells #[.slice Al st.langs.length cl,.slice Ad st.dis.length cd,.slice Af st.fmts.length cf,.slice Ac st.cont.length cc] 25)=w1:=⟨_,rfl⟩
 have hz1:w1.heap.size=w.heap.size+1:=by rw[← hw1];simp
 rw[hw1] at hB1 hR1 hs1 ⊢;clear hw1;have hBa:Below w1.heap.size w1 (w1.alloc (.cells eJ.toArray 28)):=(Below.refl _ _).alloc (Nat.le_refl _) _;have hRa:Row (w1.alloc (.cells eJ.toArray 28)) w1.heap.size eJ:=Row.new w1 eJ _;have hBb:Below w1.heap.size w1 ((w1.alloc (.cells eJ.toArray 28)).alloc (.cells eJ.toArray 28)):=hBa.alloc bL _;have hRb:Row ((w1.alloc (.cells eJ.toArray 28)).alloc (.cells eJ.toArray 28)) (w1.alloc (.cells eJ.toArray 28)).heap.size eJ:=Row.new _ eJ _;have hRa':=hRa.alloc (hRa.lt bF) (.cells eJ.toArray 28);rw[show (w1.alloc (.cells eJ.toArray 28)).heap.size=w.heap.size+2 by simp[hz1]] at hRb;rw[hz1] at hRa';rw[show eJ.toArray=TZ from rfl] at hBb hRb hRa';clear hBa hRa
 obtain ⟨w2,hw2⟩:∃ w2,(w1.alloc (.cells TZ 28)).alloc (.cells TZ 28)=w2:=⟨_,rfl⟩
 rw[hw2] at hBb hRb hRa';change Code.wp _ _ _ _ ((w1.alloc (.cells TZ 28)).alloc (.cells TZ 28));rw[hw2];clear hw2;have hB:Below w.heap.size w w2:=hB1.trans (hBb.mono bA);have hRs:=hR1.below hBb hs1;have HRS:=cD hRs;have r0:=hRs.at 0 _ rfl;have r1:=hRs.at 1 _ rfl;have r2:=hRs.at 2 _ rfl;have r3:=hRs.at 3 _ rfl;have HB:=cD hB;have HRA:=cD hRa';have HRB:=cD hRb;have hlt2:w.heap.size+2 < w2.heap.size:=hRb.lt bF;have hS2:=HSA.out.below hB;have cs:=aDt hS2 hf comp s hc hs;rw[HB1.out] at cs;clear hB1 hR1 hs1 hBb hRb hRa' hB hRs hz1 hS2;go_wp2_with fail
 refine cs.mono ?_;rintro e w3 ⟨rfl,hb3⟩;have HB3:=cD hb3;clear cs r0 r1 r2 r3;have hRs:=HRS.out.below hb3 bA;have r0:=hRs.at 0 _ rfl;have r1:=hRs.at 1 _ rfl;have r2:=hRs.at 2 _ rfl;have r3:=hRs.at 3 _ rfl;clear hb3 hRs;cases b1
 ·have HRa:=cD (HRA.out.below HB3.out bA);have HRb:=cD (HRB.out.below HB3.out hlt2);go_upto_region 2 with fail
  clear r0 r1 r2 r3
  go_wp2_with (first | (refine gY rfl (.tmp 6) (.tmp 21) rfl (w.heap.size+1) TZ rfl rfl ?q4 (cs:=eJ) rfl rfl bB ?_;(case q4=>exact HRa.out)) | (refine gY rfl (.tmp 7) (.tmp 22) rfl (w.heap.size+2) TZ rfl rfl ?q4 (cs:=eJ) rfl rfl bB ?_;(case q4=>exact fY HRb.out (Nat.succ_ne_self _) _)) | fail)
  have hbel:Below w.heap.size w ((w3.setCells (w.heap.size+1) 0 TZ.toList).setCells (w.heap.size+2) 0 TZ.toList):=below_setCells bA _ _ _ (below_setCells bA _ _ _ (HB.out.trans (HB3.out.mono HB.out.size)));refine bodyPost_ret (qP Tryz.results16 (pM (fY (Row.setAll (ds:=TZ.toList) HRa.out rfl) bA _) rfl) (pM (Row.setAll (ds:=TZ.toList) (fY HRb.out (Nat.succ_ne_self _) TZ) rfl) rfl)) rfl ⟨aHp,.slice none 0 0,.slice none 0 0,.slice none 0 0,.slice none 0 0,.slice none 0 0,.slice none 0 0,rfl,⟨fM.nil _ _ _ _,fM.nil _ _ _ _,fM.nil _ _ _ _⟩,⟨fM.nil _ _ _ _,fM.nil _ _ _ _,fM.nil _ _ _ _⟩,(fun h=>by cases h),hbel⟩
 have cp:=HK2.out rfl w3 (HB.out.trans (HB3.out.mono HB.out.size));go_wp2_with fail
 refine cp.mono ?_;rintro e w4 ⟨rfl,hb4⟩;have HB4:=cD (eH HB3.out hb4);clear cp r0 r1 r2 r3;have hRs:=(HRS.out.below HB3.out bA).below hb4 (by have:=HB3.out.size;omega);have r0:=hRs.at 0 _ rfl;have r1:=hRs.at 1 _ rfl;have r2:=hRs.at 2 _ rfl;have r3:=hRs.at 3 _ rfl;clear hb4 hRs;have HRa:=cD (HRA.out.below HB4.out bA);have HRb:=cD (HRB.out.below HB4.out hlt2);cases b2
 ·go_upto_region 2 with fail
  clear r0 r1 r2 r3
  go_wp2_with (first | (refine gY rfl (.tmp 6) (.tmp 21) rfl (w.heap.size+1) TZ rfl rfl ?q4 (cs:=eJ) rfl rfl bB ?_;(case q4=>exact HRa.out)) | (refine gY rfl (.tmp 7) (.tmp 22) rfl (w.heap.size+2) TZ rfl rfl ?q4 (cs:=eJ) rfl rfl bB ?_;(case q4=>exact fY HRb.out (Nat.succ_ne_self _) _)) | fail)
  have hbel:Below w.heap.size w ((w4.setCells (w.heap.size+1) 0 TZ.toList).setCells (w.heap.size+2) 0 TZ.toList):=below_setCells bA _ _ _ (below_setCells bA _ _ _ (HB.out.trans (HB4.out.mono HB.out.size)));refine bodyPost_ret (qP Tryz.results16 (pM (fY (Row.setAll (ds:=TZ.toList) HRa.out rfl) bA _) rfl) (pM (Row.setAll (ds:=TZ.toList) (fY HRb.out (Nat.succ_ne_self _) TZ) rfl) rfl)) rfl ⟨aHp,.slice none 0 0,.slice none 0 0,.slice none 0 0,.slice none 0 0,.slice none 0 0,.slice none 0 0,rfl,⟨fM.nil _ _ _ _,fM.nil _ _ _ _,fM.nil _ _ _ _⟩,⟨fM.nil _ _ _ _,fM.nil _ _ _ _,fM.nil _ _ _ _⟩,(fun h=>by cases h),hbel⟩
 have hok:=HB2.out (by first | rfl | trivial) (by first | rfl | trivial);have ho:=tL HB1.out;have hfew:=aFx HB1.out;have HB4d:Aside0 (Below w2.heap.size w2 w4.drew):=cD HB4.out.drew;have HSI:=cD (HSA.out.toSiteIn.below (HB.out.trans (HB4d.out.mono HB.out.size)));have HOK:=cD hok;have HOS:=cD ho.1;have HFW:=cD hfew;have hs9:Aside0 (s.size≤900000):=cD bA;have hz4:w2.heap.size≤w4.heap.size:=HB4.out.size;clear hok ho hfew;go_upto_region 3 with fail
 refine iH (n:=11) (S:=fun w'=>w'.cell? ⟨w.heap.size,0,none⟩=some (.slice Al st.langs.length cl)∧w'.cell? ⟨w.heap.size,1,none⟩=some (.slice Ad st.dis.length cd)∧w'.cell? ⟨w.heap.size,2,none⟩=some (.slice Af st.fmts.length cf)∧w'.cell? ⟨w.heap.size,3,none⟩=some (.slice Ac st.cont.length cc)) (ds:=[8,9]) #[false,false,false,false,false,false,false,false,false,false,false] bB rfl rfl ⟨r0,r1,r2,r3⟩ (fun hHeld=>?_);refine sA1 1 (some 24) sB1 ?_
 refine sA1 2 (some 25) sB1 ?_
 refine sA1 5 (some 28) sB1 ?_
 refine sA1 6 (some 29) sB1 ?_
 refine sC1 0 (some 23) sK1 ?_
 refine sC1 4 (some 27) sK1 ?_
 refine hL (i:=3) (N:=some 26) #[true,true,true,true,true,true,true,false,false,false,false] rfl rfl bB bF (fun K hK=>?_);refine lE Tryz.func22 bB rfl #[.agg #[.slice Al st.langs.length cl,.slice Ad st.dis.length cd,.slice Af st.fmts.length cf,.slice Ac st.cont.length cc],.string comp,.string s] bH rfl rfl bJ ?_
 with_reducible refine ((xV HSI.out HOS.out comp s hs9.out HOK.out.1)).mono ?_
 rintro e w5 ⟨v1,v2,v3,rfl,hT,hb5⟩;refine ⟨_,rfl,?_⟩;have HT:Aside0 (pC w5 w4.heap.size (oQ (jN (eS st) comp (norm s))) v1 v2 v3):=cD hT;have HB5:=cD (eH HB4d.out hb5);have r0_5:=cell_far (w:=w4.drew) r0 hb5;have r1_5:=cell_far (w:=w4.drew) r1 hb5;have r2_5:=cell_far (w:=w4.drew) r2 hb5;have r3_5:=cell_far (w:=w4.drew) r3 hb5;have HS5:=cD (HSI.out.below hb5);have hz5:w4.heap.size≤w5.heap.size:=hb5.size;clear hT;generalize hC:iI (oQ (jN (eS st) comp (norm s))) v1 v2 v3=TV;have HTV:=cD hC;clear hC;refine hK.out _ _ ⟨r0_5,r1_5,r2_5,r3_5⟩ (fun hHeld=>?_);clear hK K;refine gO (a':=?_) ?_ ?_;rotate_left
 ·show Act.put _ (some 26) _=_;simp only[Act.put,cE,cG,cH,fE,fI];rfl
 refine hL (i:=7) (N:=some 30) #[true,true,true,true,true,true,true,true,false,false,false] rfl rfl bB bF (fun K hK=>?_);refine lE Tryz.func23 bB rfl #[.agg #[.slice Al st.langs.length cl,.slice Ad st.dis.length cd,.slice Af st.fmts.length cf,.slice Ac st.cont.length cc],.string comp,.string s] bH rfl rfl bJ ?_
 with_reducible refine ((aHj HOK.out.2.2.2▸yI ⟨HS5.out.l,HS5.out.d,HS5.out.f,HS5.out.c⟩ HFW.out comp s hs9.out)).mono ?_
 rintro e w6 ⟨u1,u2,u3,rfl,hU,hb6⟩;refine ⟨_,rfl,?_⟩;have HU:=cD hU;have HT6:=cD (HT.out.below hb6);have HB6:=cD (eH HB5.out hb6);have HRa:=cD (HRA.out.below HB6.out bA);have HRb:=cD (HRB.out.below HB6.out hlt2);have hz6:w5.heap.size≤w6.heap.size:=hb6.size
 obtain ⟨t,ht⟩:∃ t,oQ (jN (eS st) comp (norm s))=t:=⟨_,rfl⟩
 rw[ht] at HT6 HU HTV ⊢
 obtain ⟨A,hA⟩:∃ A:Array Value,jX t v1 v2 v3=A:=⟨_,rfl⟩
 obtain ⟨D,hD⟩:∃ D:Array Value,jX t u1 u2 u3=D:=⟨_,rfl⟩
 have HAS:=cD (show A.size=31 by rw[← hA];rfl);have HDS:=cD (show D.size=31 by rw[← hD];rfl);have HAO:=cD (show A.all (·.oneCell')=true by rw[← hA];exact HT6.out.one);have HDO:=cD (show D.all (·.oneCell')=true by rw[← hD];exact HU.out.one);have hval:iI t u1 u2 u3 = .agg D:=by rw[← hD];rfl
 have HV:=cD hval;obtain rfl:TV = .agg A:=by rw[← HTV.out,← hA];rfl
 have HTR:=cD ht;rw[hval];clear hval hA hD ht hU;refine hK.out _ _ ⟨(cell_far (w:=w5) r0_5 hb6),(cell_far (w:=w5) r1_5 hb6),(cell_far (w:=w5) r2_5 hb6),(cell_far (w:=w5) r3_5 hb6)⟩ (fun hHeld=>?_);clear hK K;refine gO (a':=?_) ?_ ?_;rotate_left
 ·show Act.put _ (some 30) _=_;simp only[Act.put,cE,cG,cH,fE,fI];rfl
 refine iX (i:=8) (N:=none) #[true,true,true,true,true,true,true,true,true,false,false] rfl rfl bB bF (fun K hK=>?_);refine yJ bH rfl (.tmp 6) (.tmp 26) rfl rfl rfl HRa.out rfl HAS.out HAO.out ?_;refine hK.out _ _ ?_;clear hK K;refine iX (i:=9) (N:=none) #[true,true,true,true,true,true,true,true,true,true,false] rfl rfl bB bF (fun K hK=>?_);refine yJ bH rfl (.tmp 7) (.tmp 30) rfl rfl rfl (fY HRb.out (Nat.succ_ne_self _) A) rfl HDS.out HDO.out ?_;refine hK.out _ _ ?_;clear hK K;refine sA1 10 (some 8) sB1 ?_
 refine iT bB ?_;have hbel:Below w.heap.size w ((w6.setCells (w.heap.size+1) 0 A.toList).setCells (w.heap.size+2) 0 D.toList):=below_setCells bA _ _ _ (below_setCells bA _ _ _ (HB.out.trans (HB6.out.mono HB.out.size)));have hfar:∀ k,w4.heap.size≤k→((w6.setCells (w.heap.size+1) 0 A.toList).setCells (w.heap.size+2) 0 D.toList).heap[k]? = w6.heap[k]?:=fun k hk=>(mC _ _ k bA).trans (mC _ _ k bA);have s1:=HT6.out.far fun k hk _=>hfar k hk;have s2:=HU.out.far fun k hk _=>hfar k bA;have hzw:w.heap.size≤w4.heap.size:=by omega
 have l1:=pM (fY (Row.setAll (ds:=A.toList) HRa.out (by rw[Array.length_toList,HAS.out];rfl)) (show w.heap.size+1≠w.heap.size+2 by omega) D) HAS.out;have l2:=pM (Row.setAll (ds:=D.toList) (fY HRb.out (Nat.succ_ne_self _) A) bP) HDS.out;have HBEL:=cD hbel;have HS1:=cD s1;have HS2:=cD s2;clear hbel hfar s1 s2 r0 r1 r2 r3 r0_5 r1_5 r2_5 r3_5
 obtain ⟨W,hW⟩:∃ W,(w6.setCells (w.heap.size+1) 0 A.toList).setCells (w.heap.size+2) 0 D.toList=W:=⟨_,rfl⟩
 rw[hW] at l1 l2 HBEL HS1 HS2 ⊢;clear hW;have HL1:=cD l1;have HL2:=cD l2;clear l1 l2;go_wp2_with fail
 refine bodyPost_ret (qP Tryz.results16 HL1.out HL2.out) rfl ⟨t,v1,v2,v3,u1,u2,u3,?_,HS1.out.mono hzw,HS2.out.mono bA,fun _=>HTR.out.symm,HBEL.out⟩;rw[HV.out,HTV.out];rfl
end
end Go.Proofs.YtbkobfoaphcamaaGreatDoor.Path
namespace Go.Proofs.YtbkobfoaphcamaaGreatDoor.PTexts
open Go.RowKit Go.Proofs.YtbkobfoaphcamaaGreatDoorW.PrintWords Go.Proofs.YtbkobfoaphcamaaGreatDoorW.PrintLast Go.Proofs.YtbkobfoaphcamaaGreatDoorW.PrintMore
attribute [local go_sem] kX kZ lR lS kF kG kY lA   -- for this text's walks alone
def aBj:Option Int→Value
 | none=>.nilIface
 | some c=>.iface 0 (.int .i64 c)
theorem oC:aBj none = .nilIface:=rfl
theorem oD (c:Int):aBj (some c) = .iface 0 (.int .i64 c):=rfl
end Go.Proofs.YtbkobfoaphcamaaGreatDoor.PTexts
namespace Go.Proofs.YtbkobfoaphcamaaGreatDoor.PTexts
open Go.RowKit Go.Proofs.YtbkobfoaphcamaaGreatDoorW.PrintWords Go.Proofs.YtbkobfoaphcamaaGreatDoorW.PrintLast Go.Proofs.YtbkobfoaphcamaaGreatDoorW.PrintMore
attribute [local go_sem] kX kZ lR lS kF kG kY lA   -- for this text's walks alone
def laws_texts.l0:Nat→List ByteArray→List ByteArray→Int→Int→Option (Bool)
 | 0,_,_,_,_=>none
 | k+1,x0,x1,x12,x13=>if x13 < x12 then (if 0≤x13 then (if x13 < (x0.length:Int) then (if x13 < (x1.length:Int) then (if (gW ByteArray.empty x0 x13).toList=(gW ByteArray.empty x1 x13).toList then (laws_texts.l0 k x0 x1 x12 (wrap64 (x13+1))) else (some false)) else (none)) else (none)) else (none)) else (some true)
def laws_texts.f (k:Nat) (l0:List ByteArray) (l1:List ByteArray):Option (Bool):=if (l0.length:Int)=(l1.length:Int) then (laws_texts.l0 k l0 l1 (l0.length:Int) 0) else (some false)
theorem laws_texts.mono_l:∀ k,(∀ y0 y1 y2 y3,LeO (laws_texts.l0 k y0 y1 y2 y3) (laws_texts.l0 (k+1) y0 y1 y2 y3))
 | 0=>fun _ _ _ _ r h=>by simp[laws_texts.l0] at h
 | k+1=>by
  have ih0:=laws_texts.mono_l k
  intro y0 y1 y2 y3;unfold laws_texts.l0
  exact dC
theorem laws_texts.mono:∀ a0 a1 k,LeO (laws_texts.f k a0 a1) (laws_texts.f (k+1) a0 a1):=by
 intro a0 a1 k;have ih0:=laws_texts.mono_l k;unfold laws_texts.f
 exact dC
set_option maxHeartbeats 8000000 in
set_option maxRecDepth 100000 in
theorem laws_texts.calls (k:Nat) (A0:Option Addr) (c0:Nat) (l0:List ByteArray) (A1:Option Addr) (c1:Nat) (l1:List ByteArray) (r:Bool) (w:World) (hr0:Kd.C Kd.string w A0 l0.length l0) (hc0:l0.length≤c0) (hr1:Kd.C Kd.string w A1 l1.length l1) (hc1:l1.length≤c1) (h:laws_texts.f k l0 l1=some r) :
 Calls Tryz.prog 17 #[.slice A0 l0.length c0,.slice A1 l1.length c1] w fun e w'=>e = .returned (.bool r)∧fD w w':=by
 have HR0:=cD hr0;have HC0:=cD hc0;clear hr0 hc0;have HR1:=cD hr1;have HC1:=cD hc1;clear hr1 hc1;have H:(if (l0.length:Int)=(l1.length:Int) then (laws_texts.l0 k l0 l1 (l0.length:Int) 0) else (some false))=some r:=h;clear h
 by_cases c3:(l0.length:Int)=(l1.length:Int)
 ·rw[if_pos c3] at H;have c3b0:=beq_iff_eq.mpr c3;have c3b1:=bne_eq_false_iff_eq.mpr c3;have c3b2:(l0.length==l1.length)=true:=by first | simpa using c3 | (simp at c3 ⊢;omega)
  clear c3;have H':=cD H;clear H;go_enter Tryz.func17,Tryz.ntmps17;go_wp2
  repeat (go_quiet (fail);try go_wp2)
  go_loopg [13] k (fun kq v13 w'=>∃ (x13_1:Int),v13 = .int .i64 x13_1∧Aside0 (laws_texts.l0 kq l0 l1 (l0.length:Int) x13_1=some r)∧Aside0 (kq≤k)∧fD w w')
  case atStart=>exact ⟨(0),bE,H',⟨Nat.le_refl _⟩,dO⟩
  case round =>
   clear H'
   (try clear c1);(try clear c3);(try clear c3b0);(try clear c3b1);(try clear c3b2)
   obtain ⟨x13_1,rfl,HA,HK1,⟨m1,rfl⟩⟩:=hrel
   cases gk with
   | zero=>exact absurd HA.out (by simp[laws_texts.l0])
   | succ k1 =>
    have H:=HA.out;clear HA;simp only[laws_texts.l0] at H
    by_cases c4:x13_1 < (l0.length:Int)
    ·rw[if_pos c4] at H;have c4b0:=decide_eq_true c4;clear c4
     by_cases c5:0≤x13_1
     ·rw[if_pos c5] at H;have c5b0:=decide_eq_true c5;clear c5
      by_cases c6:x13_1 < (l0.length:Int)
      ·rw[if_pos c6] at H;have c6b0:=decide_eq_true c6;clear c6
       by_cases c7:x13_1 < (l1.length:Int)
       ·rw[if_pos c7] at H;have c7b0:=decide_eq_true c7;clear c7
        by_cases c8:(gW ByteArray.empty l0 x13_1).toList=(gW ByteArray.empty l1 x13_1).toList
        ·rw[if_pos c8] at H;have c8b0:=beq_iff_eq.mpr c8;have c8b1:=bne_eq_false_iff_eq.mpr c8;clear c8;have H':=cD H;clear H;have p101:0≤(x13_1:Int):=cC;have q101:x13_1 < (l0.length:Int):=cC;obtain ⟨ad101,e101,hx101_0⟩:=Kd.at_string HR0.out x13_1 p101 q101;cases e101;replace p101:=eq_true p101;replace q101:=eq_true q101;have p102:0≤(x13_1:Int):=cC;have q102:x13_1 < (l1.length:Int):=cC
         obtain ⟨ad102,e102,hx102_0⟩:=Kd.at_string HR1.out x13_1 p102 q102;cases e102;replace p102:=eq_true p102;replace q102:=eq_true q102;go_wp2
         repeat (go_quiet (fail);try go_wp2)
         go_roundg k1
         case measure=>have:=HK1.out;omega
         case rel=>exact ⟨(wrap64 (x13_1+1)),bE,H',⟨aW⟩,dO⟩
        rw[if_neg c8] at H;have c8b0:=beq_eq_false_iff_ne.mpr c8;have c8b1:=bne_iff_ne.mpr c8;obtain rfl:=Option.some.inj H;have p101:0≤(x13_1:Int):=cC;have q101:x13_1 < (l0.length:Int):=cC;obtain ⟨ad101,e101,hx101_0⟩:=Kd.at_string HR0.out x13_1 p101 q101;cases e101;replace p101:=eq_true p101;replace q101:=eq_true q101;have p102:0≤(x13_1:Int):=cC;have q102:x13_1 < (l1.length:Int):=cC
        obtain ⟨ad102,e102,hx102_0⟩:=Kd.at_string HR1.out x13_1 p102 q102;cases e102;replace p102:=eq_true p102;replace q102:=eq_true q102;go_wp2
        repeat (go_quiet (fail);try go_wp2)
        go_ret;exact ⟨bE,dO⟩
       rw[if_neg c7] at H;exact absurd H bL
      rw[if_neg c6] at H;exact absurd H bL
     rw[if_neg c5] at H;exact absurd H bL
    rw[if_neg c4] at H;have c4b0:=decide_eq_false c4;clear c4;obtain rfl:=Option.some.inj H;go_wp2
    repeat (go_quiet (fail);try go_wp2)
    go_ret;exact ⟨bE,dO⟩
 rw[if_neg c3] at H;have c3b0:=beq_eq_false_iff_ne.mpr c3;have c3b1:=bne_iff_ne.mpr c3;have c3b2:(l0.length==l1.length)=false:=by first | simpa using c3 | (simp at c3 ⊢;omega)
 obtain rfl:=Option.some.inj H;go_enter Tryz.func17,Tryz.ntmps17;go_wp2
 repeat (go_quiet (fail);try go_wp2)
 go_ret;exact ⟨bE,dO⟩
end Go.Proofs.YtbkobfoaphcamaaGreatDoor.PTexts
namespace Go.Proofs.YtbkobfoaphcamaaGreatDoor.PTexts
open Go.RowKit Go.Proofs.YtbkobfoaphcamaaGreatDoorW.PrintWords Go.Proofs.YtbkobfoaphcamaaGreatDoorW.PrintLast Go.Proofs.YtbkobfoaphcamaaGreatDoorW.PrintMore
attribute [local go_sem] kX kZ lR lS kF kG kY lA   -- for this text's walks alone
end Go.Proofs.YtbkobfoaphcamaaGreatDoor.PTexts
namespace Go.Proofs.YtbkobfoaphcamaaGreatDoor.Path
open Go.RowKit Go.WideMaps Go.Proofs.YtbkobfoaphcamaaGreatDoorW.PrintWords Go.Proofs.YtbkobfoaphcamaaGreatDoor.Base Go.Proofs.YtbkobfoaphcamaaGreatDoor.Lower
section
variable {w:World}
theorem aC5 (l:List ByteArray) (hl:l.length≤1000000):∀ (n j:Nat),l.length - j=n→j≤l.length→Ev (fun k=>Go.Proofs.YtbkobfoaphcamaaGreatDoor.PTexts.laws_texts.l0 k l l (l.length:Int) (j:Int)) true:=by
 intro n
 induction n with
 | zero =>
  intro j h1 h2;refine Ev.step (f:=fun _=>some true) (fun k=>?_) (Ev.now _);simp only[Go.Proofs.YtbkobfoaphcamaaGreatDoor.PTexts.laws_texts.l0];rw[if_neg bA]
 | succ n ih =>
  intro j h1 h2;refine Ev.step (fun k=>?_) (ih (j+1) bA bA);simp only[Go.Proofs.YtbkobfoaphcamaaGreatDoor.PTexts.laws_texts.l0];rw[if_pos bA,if_pos bA,if_pos bA,if_pos bA,if_pos trivial,w64 bA bA];rfl
theorem aDx {v u:Value} {l:List ByteArray} (H:fM w 0 v l) (H' : fM w 0 u l) (hl:l.length≤1000000):Calls Tryz.prog 17 #[v,u] w fun e w'=>e = .returned (.bool true)∧Below w.heap.size w w':=by
 have h:Ev (fun k=>Go.Proofs.YtbkobfoaphcamaaGreatDoor.PTexts.laws_texts.f k l l) true:=by
  refine Ev.congr (fun k=>?_) (aC5 l hl l.length 0 bA bA);unfold Go.Proofs.YtbkobfoaphcamaaGreatDoor.PTexts.laws_texts.f;rw[if_pos rfl];rfl
 obtain ⟨k,hk⟩:=h.rounds;obtain ⟨A0,c0,rfl,h0,r0⟩:=H.kd bA;obtain ⟨A1,c1,rfl,h1,r1⟩:=H'.kd bA
 exact (Go.Proofs.YtbkobfoaphcamaaGreatDoor.PTexts.laws_texts.calls k A0 c0 l A1 c1 l true w r0 h0 r1 h1 hk).mono fun _ _ ⟨h1,h2⟩=>⟨h1,h2.below⟩
end
end Go.Proofs.YtbkobfoaphcamaaGreatDoor.Path
