/- Texts that the law leans on: Spec5, PTextsx0, PTextsx1, PTextsx, ViewPure, Typed. Condition: as told at each. -/
import Derived.Test.YtlkoeeccebmjmaaGreatDoorProg
import Derived.Below
import Derived.Deep.Draws
import Derived.Deep.AppendLies
import Derived.Maps.AppendAt
import Derived.OwnWalk
import Derived.Laws.BytesArg
import Derived.Laws.MakeOwn
import Derived.Laws.OwnMore
import Derived.Deep.OwnRows
import Derived.Tactics
import Derived.Lib.ConvBytes
import Derived.Laws.Slices
import Derived.WalkKit
import Derived.KernelRfl
import Derived.RowKit3
import Derived.Deep.LoopGhost
import Derived.Deep.QuietTactic
import Derived.BigQuiet
import Derived.WideLaws
import Derived.Deep.DeepCutAuto
import Derived.Deep.CutBlock
import Derived.Deep.RegionHeld3
import Derived.Laws.Rows
import Derived.Lib.AppendStr
import Derived.ArgAppend
import Derived.Laws.IdiomCopy
import Derived.OrdersHeld
import Derived.Laws.BitsLemmas
import Derived.RowKit
import Derived.Laws.StructEq
import Derived.Test.YtlkoeeccebmjmaaGreatDoorQa
import Derived.Test.YtlkoeeccebmjmaaGreatDoorQ20
set_option linter.unusedVariables false
set_option linter.unusedSimpArgs false
set_option maxRecDepth 100000
set_option maxHeartbeats 16000000
namespace Go.Proofs.YtlkoeeccebmjmaaGreatDoor.Path
open Go.RowKit Go.ZW.PrintWords Go.Proofs.YtlkoeeccebmjmaaGreatDoor.Base Go.Proofs.YtlkoeeccebmjmaaGreatDoor.Total Go.Proofs.YtlkoeeccebmjmaaGreatDoor.Lower
def wV (st:fO) (comp T:ByteArray) (n:List UInt8) (r:RV) (e:Nat) (t:Int):WV :=
 { comp:=comp,path:=T,name:=lastB T,nEnd:=e,ids:=r.ids,unk:=r.unk,langs:=r.langs,ext:=r.ext,fmt:=if eQ comp=true∧chooseB r.fmt r.fmt1=⟨#[]⟩∧eS n≠[]∧gZ st r.ext=true then r.ext else chooseB r.fmt r.fmt1,kind:=chooseB r.kind r.kind1,lay:=chooseB r.lay r.lay1,lang:=(match r.langs with | []=>r.lang1 | l::_=>l),cust:=r.cust,dis:=r.dis,typ:=t }
theorem aCd {b:Bool} {x:ByteArray} (h:(L x).head?≠some 47):nrm b x=x:=by
 unfold nrm;split
 ·refine L_inj ?_;rw[kJ];unfold Lib.trimPrefix Lib.hasPrefix;rw[if_neg];intro hp;rw[List.isPrefixOf_iff_prefix] at hp;obtain ⟨t,ht⟩:=hp;exact h (by rw[← ht];rfl)
 rfl
theorem aFp {p:eI} {k0:Int×Int} (h:p.known=[k0]) (b:Bool):jI p true b=nrm p.trim p.s:=by
 unfold jI;rw[h];simp
theorem xQ {p:eI} {k0 k1:Int×Int} {rest:List (Int×Int)} (h:p.known=k0::k1::rest) {b:Bool}:jI p true b=nrm p.trim (sub p.s 0 (lJ p b)++sub p.s (k0.1 - 1) k0.2):=by
 unfold jI;rw[h];simp
theorem aH9 (b:Bool):nrm b ⟨#[]⟩=⟨#[]⟩:=aCd (by rw[show L (⟨#[]⟩:ByteArray)=[] from rfl];decide)
theorem aBh {w:ByteArray} (h:iH (L w)=true):(⟨(Lib.trimSuffix (Lib.trimPrefix (L w) [95]) [95]).toArray⟩:ByteArray)=fR w:=by
 refine L_inj ?_;unfold iH at h;simp only[Bool.and_eq_true,decide_eq_true_eq,beq_iff_eq] at h;obtain ⟨h1,h2,h3⟩:=h;have hz:=eF w;rw[kJ];unfold fR;rw[eR]
 cases hl:L w with
 | nil=>rw[hl] at h1;simp at h1
 | cons a m =>
  rw[hl] at h1 h2 h3 hz;simp only[List.getElem?_cons_zero,Option.some.injEq] at h2;subst h2
  have e1:Lib.trimPrefix (95::m) [95]=m:=by
   unfold Lib.trimPrefix Lib.hasPrefix;rw[if_pos (by rw[List.isPrefixOf_iff_prefix];exact ⟨m,rfl⟩)];rfl
  have hm:m≠[]:=by rintro rfl;simp at h1
  have e2:m.getLast? = some 95:=by
   rw[List.getLast?_eq_getElem?]
   have:(95::m)[(95::m).length - 1]? = m[m.length - 1]?:=by
    rw[show (95::m).length - 1=(m.length - 1)+1 by have:=List.length_pos_iff.2 hm;simp;omega,List.getElem?_cons_succ]
   rw[← this];exact h3
  rw[e1];unfold Lib.trimSuffix Lib.hasSuffix;rw[if_pos]
  ·show m.take (m.length - 1)=((95::m).drop 1).take (w.size - 1 - 1);rw[show (95::m).drop 1=m from rfl];congr 1;rw[← hz];simp
  rw[List.isSuffixOf_iff_suffix];rw[List.getLast?_eq_some_iff] at e2;obtain ⟨t,ht⟩:=e2;exact ⟨t,ht.symm⟩
section
variable {st:fO} {T:ByteArray} {q:Nat} {n:List UInt8} {p:eI} {r:RV} {e sc:Nat} {t:Int} (P:PW st T q n p r e sc t)
include P
theorem PW.turn {p' : eI} (h:∃ ty tr,p' = { p with typ:=ty,trim:=tr }):PW st T q n p' r e sc t:=by
 obtain ⟨ty,tr,rfl⟩:=h
 have G:Grown p { p with typ:=ty,trim:=tr }:=⟨rfl,.inr (.inr ⟨rfl,rfl⟩)⟩
 refine ⟨P.split,P.head,P.h47,P.no,P.s,P.cHigh,P.cLow,P.sec,P.sc,P.nLow,P.nHigh,P.le,P.rend,?_⟩;rcases P.words with h | ⟨h1,h2,R,h3⟩
 ·exact .inl h
 exact .inr ⟨h1,h2,⟨R.ids,R.unk,R.ix.grown G,R.lay,R.dis,R.ext⟩,h3⟩
theorem PW.size:T.size=q+1+n.length:=by
 obtain ⟨pre,S,hp⟩:=P.split;rw[← eF,S.eq,List.length_append,hp]
theorem PW.ns (j:Nat) (h:q < j):(L T)[j]?≠some 47:=by
 obtain ⟨pre,S,hp⟩:=P.split;rw[S.eq,List.getElem?_append_right bA];exact S.no _
theorem PW.sl:slB (L T) T.size=some q:=xG P.h47 _ (by have:=P.size;omega) (fun j h _=>P.ns j h)
theorem PW.nameL:L (lastB T)=n:=by
 obtain ⟨pre,S,hp⟩:=P.split;unfold lastB;rw[kJ,S.behind.1,← S.behind.2]
theorem PW.nameZ:(lastB T).size=n.length:=by rw[← eF,P.nameL]
theorem PW.text (a b:Nat):T.extract (q+1+a) (q+1+b)=(lastB T).extract a b:=by
 obtain ⟨pre,S,hp⟩:=P.split;exact sH S hp P.nameL a b
theorem PW.name:vQ p=lastB T:=by
 obtain ⟨pre,S,hp⟩:=P.split;refine L_inj ?_;unfold vQ;rw[P.cHigh,P.s,show (q:Int)+1=((q+1:Nat):Int) by omega,aI0,P.nameL,← hp,S.eq,List.drop_left]
theorem PW.nameNoId:nK p=(lastB T).extract 0 e:=by
 unfold nK;rw[P.nLow,P.nHigh,P.s,show (q:Int)+1=((q+1:Nat):Int) by omega,iV];exact P.text 0 e
theorem PW.dir:wY p=nrm p.trim (hY T):=by
 have h:=P.sl;unfold wY hY;rw[h]
 cases q with
 | zero=>rw[if_pos (by rw[P.cHigh];rfl)]
 | succ a =>
  rw[if_neg (by rw[P.cHigh];omega),P.cHigh,P.s,show ((a+1:Nat):Int)+1 - 1=((a+1:Nat):Int) by omega];rfl
theorem PW.low {a:Nat} (h:q=a+1):∃ j:Nat,slB (L T) (a+1)=some j∧p.cLow=(j:Int)+1∧j < a∧(L T)[j]? = some 47∧∀ i,j < i→i < a+1→(L T)[i]?≠some 47:=by
 subst h;obtain ⟨j,hj⟩:=xF P.head (a+1) bA;obtain ⟨h1,h2,h3⟩:=aCm _ hj;refine ⟨j,hj,?_,?_,h1,h3⟩
 ·rw[P.cLow,aD5,hj]
 by_cases c:j=a
 ·subst c;exact absurd ⟨h1,P.h47⟩ (P.no j)
 omega
theorem PW.low0 (h:q=0):p.cLow = -1:=by subst h;rw[P.cLow];rfl
theorem PW.lastOf {a j:Nat} (h:q=a+1) (h1:(L T)[j]? = some 47) (h2:j < a) (h3:∀ i,j < i→i < a+1→(L T)[i]?≠some 47):lastB (T.extract 0 (a+1))=T.extract (j+1) (a+1):=by
 have hlen:a+1 < (L T).length:=by rw[eF,P.size];omega
 refine L_inj ?_;have e1:L (T.extract 0 (a+1))=(L T).take (a+1):=by rw[eR];rfl
 have S:mV ((L T).take (a+1)) ((L T).take (j+1)) (((L T).take (a+1)).drop (j+1)):=by
  refine ⟨?_,⟨(L T).take j,?_⟩,fun k=>?_⟩
  ·have:=(List.take_append_drop (j+1) ((L T).take (a+1))).symm;rwa[List.take_take,Nat.min_eq_left bA] at this
  ·obtain ⟨g1,g2⟩:=List.getElem?_eq_some_iff.1 h1;rw[List.take_succ_eq_append_getElem g1,g2]
  rw[List.getElem?_drop,List.getElem?_take];split
  ·exact h3 _ bA bA
  simp
 unfold lastB;rw[kJ,e1,S.behind.1,eR,List.drop_take];congr 2
 all_goals rw[List.length_take];omega
theorem PW.cont:mW p=jA T:=by
 have h:=P.sl;unfold mW jA;rw[h]
 cases q with
 | zero=>rw[if_pos (P.low0 rfl)];rfl
 | succ a =>
  obtain ⟨j,hj,h1,h2,h3,h4⟩:=P.low rfl;rw[if_neg bA,h1,P.cHigh,P.s,show ((a+1:Nat):Int)+1 - 1=((a+1:Nat):Int) by omega,show (j:Int)+1=((j+1:Nat):Int) by omega,iV];simp only[];rw[P.lastOf rfl h3 h2 h4];refine aCd ?_;rw[eR,List.head?_take,if_neg bA,List.head?_drop];exact h4 _ bA bA
theorem PW.contNe {a:Nat} (h:q=a+1):jA T≠⟨#[]⟩:=by
 subst h;obtain ⟨j,hj,h1,h2,h3,h4⟩:=P.low rfl;unfold jA;rw[P.sl];simp only[];rw[P.lastOf rfl h3 h2 h4];intro hh;have h9:=congrArg ByteArray.size hh;rw[← eF,eR,List.length_take,List.length_drop,eF,P.size] at h9;have h0:(⟨#[]⟩:ByteArray).size=0:=rfl;omega
theorem PW.contDir {comp:ByteArray}:mP p=nrm p.trim (mJ (wV st comp T n r e p.typ)):=by
 unfold mP mJ;show _=nrm p.trim (if jL p.typ=true∧jA T≠⟨#[]⟩ then (hY T).extract 0 ((slB (L (hY T)) (hY T).size).getD 0) else hY T)
 by_cases h0:q=0
 ·have hc:jA T=⟨#[]⟩:=by
   unfold jA;rw[P.sl,h0]
  rw[if_pos (.inl (P.low0 h0)),if_neg (fun h=>h.2 hc)];exact P.dir
 obtain ⟨a,ha⟩:∃ a,q=a+1:=⟨q - 1,aR⟩
 obtain ⟨j,hj,h1,h2,h3,h4⟩:=P.low ha;have hne:=P.contNe ha
 by_cases hb:3≤p.typ∧p.typ≤5
 ·rw[if_neg (by rintro (h | h) <;> first | omega | exact h hb),if_pos ⟨by unfold jL;exact decide_eq_true hb,hne⟩,h1,P.s,show (j:Int)+1 - 1=(j:Int) by omega]
  have hd:hY T=T.extract 0 (a+1):=by
   unfold hY;rw[P.sl,ha]
  have hz:(T.extract 0 (a+1)).size=a+1:=by
   rw[← eF,eR,List.length_take,List.length_drop,eF,P.size];omega
  have hs:slB (L (hY T)) (hY T).size=some j:=by
   rw[hd,hz];refine xG ?_ _ bA (fun i g1 g2=>?_)
   ·rw[eR,List.drop_zero,List.getElem?_take,if_pos bA];exact h3
   rw[eR,List.drop_zero,List.getElem?_take,if_pos bA];exact h4 i g1 bA
  rw[hs,Option.getD_some,hd];congr 1;refine L_inj ?_;rw[show (0:Int)=((0:Nat):Int) from rfl,iV,eR,eR,eR,List.drop_zero,List.drop_zero,List.take_take];congr 1;omega
 rw[if_pos (.inr hb),if_neg (by rintro ⟨h,_⟩;unfold jL at h;exact hb (of_decide_eq_true h))];exact P.dir
theorem PW.section_:pR p=pK T t:=by
 obtain ⟨pre,S,hp⟩:=P.split;obtain ⟨c1,c2⟩:=aC0 S hp P.head;unfold pR pK;rw[c1]
 by_cases h0:q=0
 ·have a1:cntF (L T) q=0∨(cntF (L T) q=1∧t=3):=.inl (c2.2 h0)
  have a2:p.sec≤0:=by
   rw[P.sec,h0,if_neg (by omega:¬ 0 < 0)];split
   ·exact Int.le_refl _
   show (-1:Int)≤0;decide
  rw[if_pos a2,if_pos a1];rfl
 have hne:cntF (L T) q≠0:=fun h=>h0 (c2.1 h);obtain ⟨f,f1,f2,f3,f4,f5⟩:=zL (l:=L T) q q (Nat.le_refl _) bA P.h47 (fun j a b c=>by omega)
 by_cases h3:t=3∧sc=2
 ·have a1:cntF (L T) q=0∨(cntF (L T) q=1∧t=3):=.inr ⟨by have:=P.sc;omega,h3.1⟩;have a2:p.sec≤0:=by rw[P.sec,if_pos h3];exact Int.le_refl _
  rw[if_pos a2,if_pos a1];rfl
 have hs:p.sec=(f:Int):=by rw[P.sec,if_neg h3,if_pos bA,f1]
 have a1:¬ (cntF (L T) q=0∨(cntF (L T) q=1∧t=3)):=by
  rintro (h | ⟨h,h'⟩)
  ·exact hne h
  exact h3 ⟨h',by have:=P.sc;omega⟩
 have a2:¬ (p.sec≤0):=by rw[hs];omega
 rw[if_neg a2,if_neg a1,hs,P.s,show (1:Int)=((1:Nat):Int) from rfl,iV]
 have htw:((L T).drop 1).takeWhile (fun c=>c != 47)=((L T).drop 1).take (f - 1):=by
  refine rT _ _ ?_ (fun j hj=>?_)
  ·rw[List.getElem?_drop,show 1+(f - 1)=f by omega];exact f4
  rw[List.getElem?_drop];exact f5 _ bA bA
 rw[htw];have e1:(⟨(((L T).drop 1).take (f - 1)).toArray⟩:ByteArray)=T.extract 1 f:=L_inj (by rw[kJ,eR]);rw[e1];refine aCd ?_;rw[eR,List.head?_take];split
 ·simp
 rw[List.head?_drop];intro h;exact P.no 0 ⟨P.head,h⟩
theorem PW.high:lJ p false=((q+1+e:Nat):Int):=by
 unfold lJ;simp only[Bool.false_eq_true,if_false];rw[P.nHigh,if_neg bA]
theorem PW.cat:T.extract 0 (T.size - (lastB T).size)++(lastB T).extract 0 e=T.extract 0 (q+1+e):=by
 refine L_inj ?_;have hz:=P.size;rw[nA,P.nameZ,← P.text 0 e,eR,eR,eR,hz,show q+1+n.length - n.length=q+1 by omega,List.drop_zero,Nat.sub_zero,Nat.sub_zero,Nat.add_zero,show q+1+e - (q+1)=e by omega];exact (List.take_add ..).symm
theorem PW.idsNe (h:p.known≠[]):r.ids≠[]:=by
 rcases P.words with ⟨h1,_⟩ | ⟨_,_,R,_⟩
 ·exact absurd h1 h
 rw[R.ids];unfold kL;simpa using h
theorem PW.none (h:p.known=[]):r=kZ∧eS n=[]∧e=n.length:=by
 rcases P.words with ⟨_,h1,h2,h3,_⟩ | ⟨h1,_⟩
 ·exact ⟨h2,h1,h3⟩
 exact absurd h h1
theorem PW.point (h:p.known≠[]):∃ (c:Nat) (rest:List (Int×Int)),p.known=(((q+1+c+1:Nat):Int),(T.size:Int))::rest∧c < n.length∧r.ext=T.extract (q+1+c+1) T.size∧r.ext.size=n.length - c - 1∧(L T)[q+1+c]? = some 46∧e≤c:=by
 rcases P.words with ⟨h1,_⟩ | ⟨_,_,R,_,_,c,h1,h2,h46,hec⟩
 ·exact absurd h1 h
 cases hk:p.known with
 | nil=>exact absurd hk h
 | cons x rest =>
  rw[hk] at h1;injection h1 with h1
  subst h1
  have e1:r.ext=T.extract (q+1+c+1) T.size:=by
   rw[← R.ext];unfold fG;rw[if_neg bG,hk,P.s];exact iV _ _ _
  refine ⟨c,rest,rfl,h2,e1,?_,?_,hec⟩;rotate_left
  ·obtain ⟨pre,S,hp⟩:=P.split;rw[S.eq,List.getElem?_append_right bA,show q+1+c - pre.length=c by omega];exact h46
  rw[e1,← eF,eR,List.length_take,List.length_drop,eF,P.size];omega
theorem PW.noId {comp:ByteArray} {ty:Int}:jI p false false=nrm p.trim (kI (wV st comp T n r e ty)):=by
 unfold jI kI qY;show _=nrm p.trim (if r.ids=[] then T else T.extract 0 (T.size - (lastB T).size)++(lastB T).extract 0 e)
 cases hk:p.known with
 | nil =>
  obtain ⟨hr,_⟩:=P.none hk;rw[if_pos (by rw[hr];rfl),P.s]
 | cons k0 rest =>
  rw[if_neg (P.idsNe (by rw[hk];simp)),P.cat];simp only[Bool.false_eq_true,false_and,if_false];rw[P.high,P.s];rfl
theorem PW.noExt {comp:ByteArray} {ty:Int}:oJ p=kR (wV st comp T n r e ty) (lastB T):=by
 unfold oJ kR;show _=if r.ids=[] then lastB T else (lastB T).extract 0 ((lastB T).size - r.ext.size - 1)
 cases hk:p.known with
 | nil =>
  obtain ⟨hr,_⟩:=P.none hk;rw[if_pos (by rw[hr];rfl)];exact P.name
 | cons k0 rest =>
  have hne:p.known≠[]:=by rw[hk];simp
  obtain ⟨c,rest',h1,h2,h3,h4,_⟩:=P.point hne;rw[hk] at h1;injection h1 with h1 _
  rw[if_neg (P.idsNe hne),h1,h4,P.nameZ,P.cHigh,P.s];show sub T ((q:Int)+1) (((q+1+c+1:Nat):Int) - 1)=_;rw[show (q:Int)+1=((q+1+0:Nat):Int) by omega,show ((q+1+c+1:Nat):Int) - 1=((q+1+c:Nat):Int) by omega,iV,P.text 0 c];congr 1;omega
theorem PW.before {comp:ByteArray} {ty:Int}:rA p=nrm p.trim (kR (wV st comp T n r e ty) T):=by
 unfold rA kR;show _=nrm p.trim (if r.ids=[] then T else T.extract 0 (T.size - r.ext.size - 1))
 cases hk:p.known with
 | nil =>
  obtain ⟨hr,_⟩:=P.none hk;rw[if_pos (by rw[hr];rfl),P.s]
 | cons k0 rest =>
  have hne:p.known≠[]:=by rw[hk];simp
  obtain ⟨c,rest',h1,h2,h3,h4,_⟩:=P.point hne;rw[hk] at h1;injection h1 with h1 _
  rw[if_neg (P.idsNe hne),h1,h4,P.s];show nrm p.trim (sub T 0 (((q+1+c+1:Nat):Int) - 1))=_;rw[show ((q+1+c+1:Nat):Int) - 1=((q+1+c:Nat):Int) by omega,show (0:Int)=((0:Nat):Int) from rfl,iV,P.size];congr 2;omega
theorem PW.withExt (h:p.known≠[]):∃ k0 rest,p.known=k0::rest∧sub p.s 0 (lJ p false)++sub p.s (k0.1 - 1) k0.2=T.extract 0 (T.size - (lastB T).size)++(lastB T).extract 0 e++⟨#[46]⟩++r.ext:=by
 obtain ⟨c,rest,h1,h2,h3,h4,hdot,_⟩:=P.point h;refine ⟨_,rest,h1,?_⟩;rw[P.cat,P.high,P.s];show sub T 0 ((q+1+e:Nat):Int)++sub T (((q+1+c+1:Nat):Int) - 1) (T.size:Int)=_;rw[show ((q+1+c+1:Nat):Int) - 1=((q+1+c:Nat):Int) by omega,show (0:Int)=((0:Nat):Int) from rfl,iV,iV,h3];refine L_inj ?_;rw[nA,nA,nA,List.append_assoc];congr 1;rw[eR,eR];have hlt:q+1+c < (L T).length:=by rw[eF,P.size];omega
 rw[List.take_of_length_le (by rw[List.length_drop,eF];omega),List.take_of_length_le (by rw[List.length_drop,eF];omega),List.drop_eq_getElem_cons hlt];rw[List.getElem?_eq_getElem hlt] at hdot;injection hdot with hdot
 rw[hdot];rfl
theorem PW.oneKnown:r.ids.length=p.known.length:=by
 rcases P.words with ⟨h1,_,h2,_⟩ | ⟨_,_,R,_⟩
 ·rw[h1,h2];rfl
 rw[R.ids];unfold kL;rw[List.length_map]
theorem PW.pathNe (x:ByteArray) (hx:∃ k,L x=(L T).take k) (b:Bool):L (nrm b x)=[47]→b=false∧L x=[47]:=by
 intro h;obtain ⟨k,hk⟩:=hx
 cases b with
 | false=>exact ⟨rfl,h⟩
 | true =>
  exfalso;unfold nrm at h;rw[if_pos rfl,kJ,hk] at h
  cases k with
  | zero=>rw[List.take_zero] at h;cases h
  | succ k =>
   have h0:=P.head
   cases hl:L T with
   | nil=>rw[hl] at h0;cases h0
   | cons a m =>
    rw[hl] at h0 h;simp only[List.getElem?_cons_zero,Option.some.injEq] at h0;subst h0;rw[List.take_succ_cons] at h;unfold Lib.trimPrefix Lib.hasPrefix at h;rw[if_pos (by rw[List.isPrefixOf_iff_prefix];exact ⟨_,rfl⟩)] at h;have h2:(m.take k)=[47]:=h
    have h3:m[0]? = some 47:=by
     have:=congrArg (fun l=>l[0]?) h2;simp only[List.getElem?_cons_zero] at this;rw[List.getElem?_take] at this;split at this
     ·exact this
     cases this
    exact P.no 0 ⟨by rw[hl];rfl,by rw[hl];exact h3⟩
theorem PW.base {comp:ByteArray}:tE p=nrm p.trim (lQ (wV st comp T n r e p.typ)):=by
 unfold tE lQ;show (if _ then _ else _)=nrm p.trim (if r.ids=[] then (if T=⟨#[47]⟩∧2≤p.typ∧p.typ≤5 then ⟨#[]⟩ else T) else if jL p.typ=true then (if hY T=⟨#[47]⟩ then ⟨#[]⟩ else hY T) else if p.typ=2 then kI (wV st comp T n r e p.typ) else if r.ids.length=1 then T else kI (wV st comp T n r e p.typ)++⟨#[46]⟩++r.ext)
 have hone:∀ x:ByteArray,x=⟨#[47]⟩↔L x=[47]:=fun x=>⟨fun h=>by rw[h];rfl,fun h=>L_inj (by rw[h];rfl)⟩
 have empt:(ByteArray.empty:ByteArray)=nrm p.trim ⟨#[]⟩:=by rw[aH9];rfl
 have take:∀ (x:ByteArray) (k:Nat),x=T.extract 0 k→∃ k,L x=(L T).take k:=by
  rintro x k rfl;exact ⟨k,by rw[eR];rfl⟩
 have whole:∃ k,L T=(L T).take k:=⟨(L T).length,(List.take_of_length_le (Nat.le_refl _)).symm⟩
 -- whatever the base is: where it is not / alone,or it is no page
 have key:∀ (B0 x y:ByteArray),B0=nrm p.trim x→(∃ k,L x=(L T).take k)→(2≤p.typ∧p.typ≤5)→y=(if L x=[47] then ⟨#[]⟩ else x)→(if B0.toList=[47]∧2≤p.typ∧p.typ≤5 then ByteArray.empty else B0)=nrm p.trim y:=by
  rintro B0 x y rfl hx hc rfl;rw[L_toList]
  by_cases h:L x=[47]
  ·rw[if_pos h,← empt]
   by_cases h2:L (nrm p.trim x)=[47]
   ·rw[if_pos ⟨h2,hc⟩]
   rw[if_neg (fun hh=>h2 hh.1)]
   cases hb:p.trim with
   | false=>rw[hb] at h2;exact absurd h h2
   | true =>
    refine L_inj ?_;unfold nrm;rw[if_pos rfl,kJ,h];rfl
  rw[if_neg h,if_neg (fun hh=>h (P.pathNe x hx _ hh.1).2)]
 cases hk:p.known with
 | nil =>
  obtain ⟨hr,_⟩:=P.none hk
  have hb:∀ a b,jI p a b=nrm p.trim T:=by
   intro a b;unfold jI;rw[hk,P.s]
  have a1:r.ids=[]:=by rw[hr];rfl
  rw[if_pos a1,hb]
  by_cases hc:2≤p.typ∧p.typ≤5
  ·refine key _ T _ rfl whole hc ?_
   by_cases h:L T=[47]
   ·rw[if_pos h,if_pos ⟨(hone T).2 h,hc⟩]
   rw[if_neg h,if_neg (fun hh=>h ((hone T).1 hh.1))]
  rw[if_neg (fun h=>hc h.2:¬ ((nrm p.trim T).toList=[47]∧2≤p.typ∧p.typ≤5)),if_neg (fun h=>hc h.2:¬ (T=⟨#[47]⟩∧2≤p.typ∧p.typ≤5))]
 | cons k0 rest =>
  have hne:p.known≠[]:=by rw[hk];simp
  have a1:¬ (r.ids=[]):=P.idsNe hne;rw[if_neg a1]
  by_cases hc:2≤p.typ∧p.typ≤5
  ·have e1:(!decide (2≤p.typ∧p.typ≤5))=false:=by rw[decide_eq_true hc];rfl
   rw[e1]
   by_cases hbn:3≤p.typ∧p.typ≤5
   ·have e2:decide (3≤p.typ∧p.typ≤5)=true:=decide_eq_true hbn;rw[e2,if_pos (show jL p.typ=true from e2)]
    have hb:jI p false true=nrm p.trim (T.extract 0 (if q=0 then 1 else q)):=by
     unfold jI;rw[hk];simp only[Bool.false_eq_true,false_and,if_false];unfold lJ;simp only[if_true];rw[P.cHigh,P.s,show (q:Int)+1 - 1=(q:Int) by omega]
     by_cases h0:q=0
     ·rw[if_pos bA,if_pos h0];rfl
     rw[if_neg bA,if_neg h0];rfl
    refine key _ (T.extract 0 (if q=0 then 1 else q)) _ hb (take _ _ rfl) hc ?_
    have hd:hY T=if q=0 then ⟨#[47]⟩ else T.extract 0 q:=by
     unfold hY;rw[P.sl]
     cases q with
     | zero=>rfl
     | succ a=>rfl
    by_cases h0:q=0
    ·rw[if_pos h0] at hd;rw[if_pos h0,hd,if_pos rfl,if_pos];have hlt:0 < (L T).length:=by rw[eF,P.size];omega
     rw[eR,List.drop_zero];have hh:=P.head
     cases hl:L T with
     | nil=>rw[hl] at hlt;simp at hlt
     | cons a m =>
      rw[hl] at hh;simp only[List.getElem?_cons_zero,Option.some.injEq] at hh;rw[hh];rfl
    rw[if_neg h0] at hd;rw[if_neg h0,hd]
    have hne2:L (T.extract 0 q)≠[47]:=by
     intro h
     obtain ⟨a,ha⟩:∃ a,q=a+1:=⟨q - 1,aR⟩
     obtain ⟨j,_,_,h2,_⟩:=P.low ha;have:=congrArg List.length h;rw[eR,List.length_take,List.length_drop,eF,P.size] at this
     simp at this
     omega
    rw[if_neg hne2,if_neg (fun h=>hne2 ((hone _).1 h))]
   have e2:decide (3≤p.typ∧p.typ≤5)=false:=decide_eq_false hbn;rw[e2,if_neg (show ¬ (jL p.typ=true) by unfold jL;rw[e2];decide),if_pos (by omega:p.typ=2)]
   have hw:kI (wV st comp T n r e p.typ)=T.extract 0 (q+1+e):=by
    unfold kI;show (if r.ids=[] then T else qY _++_)=_;rw[if_neg (P.idsNe hne)];exact P.cat
   refine key _ (T.extract 0 (q+1+e)) _ ?_ (take _ _ rfl) hc ?_
   ·rw[P.noId (comp:=comp) (ty:=p.typ),hw]
   have hpos:0 < e:=by
    rcases P.words with ⟨h1,_⟩ | ⟨_,_,_,h,_⟩
    ·exact absurd h1 hne
    exact h
   rw[hw,if_neg];intro h;have:=congrArg List.length h;rw[eR,List.length_take,List.length_drop,eF,P.size] at this;have hle:=P.le
   simp at this
   omega
  have e1:(!decide (2≤p.typ∧p.typ≤5))=true:=by rw[decide_eq_false hc];rfl
  have e2:decide (3≤p.typ∧p.typ≤5)=false:=decide_eq_false (fun h=>hc ⟨aR,h.2⟩);have b1:¬ ((jI p (!decide (2≤p.typ∧p.typ≤5)) (decide (3≤p.typ∧p.typ≤5))).toList=[47]∧2≤p.typ∧p.typ≤5):=fun h=>hc h.2;have b2:¬ (jL p.typ=true):=by unfold jL;rw[e2];decide
  have b3:¬ (p.typ=2):=fun h=>hc bA;rw[if_neg b1,if_neg b2,if_neg b3,e1,e2,P.oneKnown];obtain ⟨k0',rest',hk',hw⟩:=P.withExt hne;rw[hk] at hk';injection hk' with h1 h2
  subst h1 h2
  cases rest with
  | nil =>
   have b4:p.known.length=1:=by rw[hk];rfl
   rw[if_pos b4,aFp hk,P.s]
  | cons k1 rest =>
   have b4:¬ (p.known.length=1):=by rw[hk];simp
   rw[if_neg b4,xQ hk,hw];unfold kI;show _=nrm p.trim ((if r.ids=[] then T else qY _++_)++_++_);rw[if_neg a1];rfl
theorem PW.langIs:vP p=(match r.langs with | []=>r.lang1 | l::_=>l)∧((p.plangs≠[]∨mH p p.lang≠-1)↔(match r.langs with | []=>r.lang1 | l::_=>l)≠⟨#[]⟩)∧((p.plangs≠[]∨mH p p.lang≠-1)→2≤p.known.length):=by
 unfold vP;rcases P.words with ⟨h1,_,hr,_,h2,_,_,_,_,_,_,_,h3,_⟩ | ⟨h1,_,R,_⟩
 ·rw[h3,h2,hr];refine ⟨rfl,⟨?_,fun h=>absurd rfl h⟩,?_⟩
  ·rintro (h | h)
   ·exact absurd rfl h
   exact absurd (by unfold mH;rw[if_pos (.inl bG)]) h
  rintro (h | h)
  ·exact absurd rfl h
  exact absurd (by unfold mH;rw[if_pos (.inl bG)]) h
 have I:=R.ix
 cases hp:p.plangs with
 | nil =>
  have hl:r.langs=[]:=by rw[I.langs,hp];rfl
  rw[hl];refine ⟨I.lang.str,?_,?_⟩
  ·simp only[ne_eq,not_true_eq_false,false_or];rcases I.lang with ⟨h2,h3⟩ | ⟨h2,h3⟩
   ·rw[h2,h3];exact ⟨fun h=>absurd (by unfold mH;rw[if_pos (.inl bG)]) h,fun h=>absurd rfl h⟩
   obtain ⟨g0,_,x,g1,_⟩:=h2;have:=(List.getElem?_eq_some_iff.1 g1).1;refine ⟨fun _=>h3,fun _=>?_⟩;unfold mH;rw[if_neg bA];omega
  rintro (h | h)
  ·exact absurd rfl h
  unfold mH at h;split at h
  ·exact absurd rfl h
  rename_i hh
  have:=I.pos.1;omega
 | cons i rest =>
  have hl:r.langs=fG p i::rest.map (fG p):=by rw[I.langs,hp];rfl
  rw[hl];refine ⟨rfl,⟨fun _=>I.lne _ (by rw[hl];exact List.mem_cons_self ..),fun _=>.inl bL⟩,fun _=>?_⟩;obtain ⟨g0,_,x,g1,_⟩:=I.pl i (by rw[hp];exact List.mem_cons_self ..);have:=(List.getElem?_eq_some_iff.1 g1).1;have:=I.pos.2 i (by rw[hp];exact List.mem_cons_self ..);omega
theorem PW.noLang {comp:ByteArray} {ty:Int}:rC p=nrm p.trim (mD (wV st comp T n r e ty)):=by
 obtain ⟨h1,h2,h3⟩:=P.langIs;unfold rC mD;show _=nrm p.trim (if (match r.langs with | []=>r.lang1 | l::_=>l)=⟨#[]⟩ then T else T.extract 0 (T.size - (lastB T).size)++(lastB T).extract 0 e++⟨#[46]⟩++r.ext)
 by_cases c:p.plangs≠[]∨mH p p.lang≠-1
 ·have hlen:=h3 c;have hne:p.known≠[]:=by intro h;rw[h] at hlen;simp at hlen
  obtain ⟨k0,rest,hk,hw⟩:=P.withExt hne;have a1:¬ ((match r.langs with | []=>r.lang1 | l::_=>l)=⟨#[]⟩):=h2.1 c;rw[if_pos c,if_neg a1,← hw]
  cases rest with
  | nil=>rw[hk] at hlen;simp at hlen
  | cons k1 rest=>exact xQ hk
 rw[if_neg c,if_pos (by
  by_cases h:(match r.langs with | []=>r.lang1 | l::_=>l)=⟨#[]⟩
  ·exact h
  exact absurd (h2.2 h) c),P.s]
theorem PW.extIs:fG p 0=r.ext:=by
 rcases P.words with ⟨h1,_,hr,_⟩ | ⟨_,_,R,_⟩
 ·rw[hr];unfold fG;rw[if_neg bG,h1];rfl
 exact R.ext
theorem PW.fmtIs {comp:ByteArray} {ty:Int} (hc:p.comp=comp):aB8 p=(wV st comp T n r e ty).fmt:=by
 show _=if eQ comp=true∧chooseB r.fmt r.fmt1=⟨#[]⟩∧eS n≠[]∧gZ st r.ext=true then r.ext else chooseB r.fmt r.fmt1
 have hx:=P.extIs;unfold aB8 chooseB;rcases P.words with ⟨h1,h2,hr,_,_,h3,_,_,h4,_⟩ | ⟨h1,h2,R,_⟩
 ·rw[if_pos h4,h3,hr,if_neg (fun h=>h.2.2.1 h2)];rfl
 rcases R.ix.pfmt with ⟨a1,a2⟩ | ⟨a1,a2⟩
 ·rw[if_pos a1,a2,if_pos rfl];rcases R.ix.fmt with ⟨b1,b2⟩ | ⟨b1,b2⟩
  ·rw[b1,b2];unfold fmt0;rw[hc]
   by_cases c:(eQ comp && gZ st r.ext)=true
   ·rw[if_pos c,hx];rw[Bool.and_eq_true] at c;rw[if_pos ⟨c.1,rfl,h2,c.2⟩]
   rw[if_neg c,if_neg (fun h=>c (by rw[Bool.and_eq_true];exact ⟨h.1,h.2.2.2⟩))];rfl
  rw[b2.str,if_neg (fun h=>b1 h.2.1)]
 rw[if_neg (by have:=a1.1;omega),a1.str,if_neg a2,if_neg (fun h=>a2 h.2.1)]
theorem PW.kindIs:yB p=chooseB r.kind r.kind1:=by
 unfold yB chooseB;rcases P.words with ⟨h1,h2,hr,_,_,_,h3,_,_,h4,_⟩ | ⟨h1,h2,R,_⟩
 ·rw[if_pos h4,h3,hr];rfl
 rcases R.ix.pkind with ⟨a1,a2⟩ | ⟨a1,a2⟩
 ·rw[if_pos a1,a2,if_pos rfl];exact R.ix.kind.str
 rw[if_neg (by have:=a1.1;omega),a1.str,if_neg a2]
theorem PW.layIs:sQ p=chooseB r.lay r.lay1:=by
 unfold sQ chooseB;rcases P.words with ⟨h1,h2,hr,_,_,_,_,_,_,_,h4,h3,_⟩ | ⟨h1,h2,R,_⟩
 ·rw[if_pos h4,h3,hr];rfl
 rcases R.ix.play with ⟨a1,a2⟩ | ⟨a1,a2⟩
 ·rw[if_pos a1,a2,if_pos rfl];exact R.lay
 rw[if_neg (by have:=a1.1;omega),a1.str,if_neg a2]
theorem PW.custIs:pQ p=r.cust:=by
 unfold pQ;have h0:(⟨(Lib.trimSuffix (Lib.trimPrefix (L (fG p (-1))) [95]) [95]).toArray⟩:ByteArray)=⟨#[]⟩:=rfl;rcases P.words with ⟨h1,h2,hr,_,_,_,_,h3,_⟩ | ⟨h1,h2,R,_⟩
 ·rw[h3,hr];rfl
 rcases R.ix.cust with ⟨a1,a2⟩ | ⟨w,a1,a2,a3⟩
 ·rw[a1,a2];rfl
 rw[a1.str,a3];exact aBh a2
theorem PW.lists:kL p=r.ids∧lL p=r.unk∧kU p=r.langs∧p.dis=r.dis:=by
 rcases P.words with ⟨h1,h2,hr,_,_,_,_,_,_,_,_,_,h3,h4,h5⟩ | ⟨h1,h2,R,_⟩
 ·unfold kL lL kU;rw[h1,h3,h4,h5,hr];exact ⟨rfl,rfl,rfl,rfl⟩
 exact ⟨R.ids.symm,R.unk.symm,R.ix.langs.symm,R.dis⟩
end
def yG (w:WV) (t:Int) (b:Bool):gF :=
 { vR w with
  section_:=pK w.path t
  containerDir:=nrm b (mJ w)
  dir:=nrm b (hY w.path)
  path:=nrm b w.path
  pathNoLang:=nrm b (mD w)
  pathNoId:=nrm b (kI w)
  pathBefore:=nrm b (kR w w.path)
  base:=nrm b (lQ w)
  idBase:=nrm b (if eQ w.comp=true then w.path else lQ w) }
theorem aIh {st:fO} {T:ByteArray} {q:Nat} {n:List UInt8} {p:eI} {r:RV} {e sc:Nat} {t:Int} (P:PW st T q n p r e sc t) (comp:ByteArray) (hc:p.comp=comp) :
 pH p=yG (wV st comp T n r e p.typ) t p.trim:=by
 obtain ⟨l1,l2,l3,l4⟩:=P.lists
 have hb:rB p=nrm p.trim (if eQ comp=true then T else lQ (wV st comp T n r e p.typ)):=by
  unfold rB eQ;rw[hc]
  by_cases c:comp.toList=[108,97,121,111,117,116,115]
  ·rw[if_pos c,if_pos (beq_iff_eq.2 c),P.s]
  rw[if_neg c,if_neg (fun h=>c (beq_iff_eq.1 h))];exact P.base
 have hbn:qG p=if jL p.typ=true then jA T else (lastB T).extract 0 e:=by
  unfold qG jL
  by_cases c:3≤p.typ∧p.typ≤5
  ·rw[if_pos c,if_pos (decide_eq_true c)];exact P.cont
  rw[if_neg c,if_neg (by rw[decide_eq_false c];decide)];exact P.nameNoId
 unfold pH;rw[hc,P.cont,P.contDir (comp:=comp),P.section_,P.name,P.noExt (comp:=comp) (ty:=p.typ),hbn,P.nameNoId,P.dir,P.s,P.noLang (comp:=comp) (ty:=p.typ),P.noId (comp:=comp) (ty:=p.typ),P.before (comp:=comp) (ty:=p.typ),P.base (comp:=comp),hb,P.extIs,P.fmtIs (ty:=p.typ) hc,P.kindIs,P.layIs,P.langIs.1,P.custIs,l1,l2,l3,l4];rfl
theorem aIw {st:fO} {comp T:ByteArray} {q:Nat} {n:List UInt8} {p:eI} {e sc:Nat} {t:Int}
 (P:PW st T q n p (gL st comp (fA (L T) fV) (lastB T) (eS n)) e sc t):wOf st comp T=wV st comp T n (gL st comp (fA (L T) fV) (lastB T) (eS n)) e (aFg st comp T n (gL st comp (fA (L T) fV) (lastB T) (eS n)) e):=by
 have hn:=P.nameL
 have he:(kF (gL st comp (fA (L T) fV) (lastB T) (eS n)).marks ((lastB T).size:Int)).toNat=e:=by
  rw[P.nameZ,P.rend];exact Int.toNat_natCast e
 have ht:L ((lastB T).extract 0 e)=n.take e:=by rw[eR,hn];rfl
 unfold wOf wV aFg;simp only[];rw[hn,he,ht];rfl
theorem aGi {st:fO} (SE:qR st) (comp s:ByteArray) (K:nW (eQ comp) ((iC (L s)).drop (behind (iC (L s))))) (hno:∀ i:Nat,¬ ((L s)[i]? = some 47∧(L s)[i+1]? = some 47)) (t:Int) (b:Bool) :
 pH { jF (eK st) comp s with typ:=t,trim:=b }=yG { wOf st comp ⟨(iC (L s)).toArray⟩ with typ:=t } (wOf st comp ⟨(iC (L s)).toArray⟩).typ b∧(jF (eK st) comp s).typ=(wOf st comp ⟨(iC (L s)).toArray⟩).typ∧(jF (eK st) comp s).trim=false:=by
 obtain ⟨T,q,n,e,sc,hT,hn,P,ht,hc,htr⟩:=aI7 SE comp s K hno;have hw:=aIw P;have P2:=P.turn (p':={ jF (eK st) comp s with typ:=t,trim:=b }) ⟨t,b,rfl⟩;have h:=aIh P2 comp hc;rw[← hT,hw];exact ⟨h,ht,htr⟩
theorem aI9 {st:fO} {comp s:ByteArray} (K:rI st comp s):qR st where
 lang:=by
  intro w h hw;subst hw
  have key:∀ l:List ByteArray,(∀ x∈l,mK x)→listed l ⟨#[]⟩=true→False:=by
   intro l hl h;unfold listed at h;rw[List.any_eq_true] at h;obtain ⟨x,hx,he⟩:=h;rw[beq_iff_eq,L_toList,L_toList] at he;have h1:=(hl x hx).pos;rw[L_inj he] at h1;exact absurd h1 bG
  rw[Bool.or_eq_true] at h;rcases h with h | h
  ·exact key _ K.site.langs h
  exact key _ K.site.dis h
 fmt:=by
  intro w h hw;subst hw;unfold gZ at h;rw[List.any_eq_true] at h;obtain ⟨x,hx,he⟩:=h;rw[beq_iff_eq,L_toList,L_toList] at he;have h1:=(K.site.fmts (mkF x) (List.mem_map_of_mem hx)).1.pos;have h2:(mkF x).f0=⟨#[]⟩:=L_inj he;rw[h2] at h1;exact absurd h1 bG
theorem aHm {st:fO} {comp s:ByteArray} (K:rI st comp s) (t:Int) (b:Bool) :
 pH { jF (eK st) comp (norm s) with typ:=t,trim:=b }=yG { wOf st comp (pathOf s false) with typ:=t } (wOf st comp (pathOf s false)).typ b∧(jF (eK st) comp (norm s)).typ=(wOf st comp (pathOf s false)).typ∧(jF (eK st) comp (norm s)).trim=false:=by
 have W:=K.low;unfold pathOf at W;simp only[Bool.false_eq_true,if_false] at W;rw[kJ] at W;exact aGi (aI9 K) comp (norm s) W (aCc K.slashes) t b
end Go.Proofs.YtlkoeeccebmjmaaGreatDoor.Path
namespace Go.Proofs.YtlkoeeccebmjmaaGreatDoor.PTexts
open Go.RowKit Go.ZW.PrintWords Go.ZW.PrintLast Go.ZW.PrintMore
attribute [local go_sem] kM kO lF lG jT jU kN kP   -- for this text's walks alone
def aBn:Option Int→Value
 | none=>.nilIface
 | some c=>.iface 0 (.int .i64 c)
theorem nX:aBn none = .nilIface:=rfl
theorem nY (c:Int):aBn (some c) = .iface 0 (.int .i64 c):=rfl
end Go.Proofs.YtlkoeeccebmjmaaGreatDoor.PTexts
namespace Go.Proofs.YtlkoeeccebmjmaaGreatDoor.PTexts
open Go.RowKit Go.ZW.PrintWords Go.ZW.PrintLast Go.ZW.PrintMore
attribute [local go_sem] kM kO lF lG jT jU kN kP   -- for this text's walks alone
end Go.Proofs.YtlkoeeccebmjmaaGreatDoor.PTexts
namespace Go.Proofs.YtlkoeeccebmjmaaGreatDoor.PTexts
open Go.RowKit Go.ZW.PrintWords Go.ZW.PrintLast Go.ZW.PrintMore
attribute [local go_sem] kM kO lF lG jT jU kN kP   -- for this text's walks alone
end Go.Proofs.YtlkoeeccebmjmaaGreatDoor.PTexts
namespace Go.Proofs.YtlkoeeccebmjmaaGreatDoor.Path
open Go.RowKit Go.WideMaps Go.ZW.PrintWords Go.Proofs.YtlkoeeccebmjmaaGreatDoor.Base Go.Proofs.YtlkoeeccebmjmaaGreatDoor.Lower Go.Proofs.YtlkoeeccebmjmaaGreatDoor.Total
def qK (x:WV) (t:Int):gF:={ vR { x with typ:=t } with section_:=pK x.path x.typ }
theorem aGj (x:WV) (t:Int):qK x t=yG { x with typ:=t } x.typ false:=rfl
theorem yL {st:fO} {comp s:ByteArray} (K:rI st comp s) (t:Int):pH { jF (eK st) comp (norm s) with typ:=t }=qK (wOf st comp (pathOf s false)) t:=by
 obtain ⟨h1,h2,h3⟩:=aHm K t false;rw[aGj,← h1,← h3]
open Go.RowKit Go.WideMaps Go.ZW.PrintWords Go.Proofs.YtlkoeeccebmjmaaGreatDoor.Base Go.Proofs.YtlkoeeccebmjmaaGreatDoor.Lower Go.Proofs.YtlkoeeccebmjmaaGreatDoor.Total Go.Proofs.YtlkoeeccebmjmaaGreatDoor.PCore
theorem aI6 {x:WV} (O:rK x) (t:Int):rK { x with typ:=t }:=⟨O.path,O.head,O.name,O.nEnd,O.ext,O.extz,O.ids,O.unk,O.langs⟩
section
variable {w:World} {x:WV} {A0 A1 A2:Option Addr} {c0 c1 c2:Nat}
theorem aD0 (O:rK x) (t:Int) (S0:fN w 0 (.slice A0 x.ids.length c0) x.ids) (S1:fN w 0 (.slice A1 x.unk.length c1) x.unk) (S2:fN w 0 (.slice A2 x.langs.length c2) x.langs) :
 Calls Tryz.prog 52 #[.agg #[.string x.comp,.string x.path,.string x.name,.int .i64 (x.nEnd:Int),.slice A0 x.ids.length c0,.slice A1 x.unk.length c1,.slice A2 x.langs.length c2,.string x.ext,.string x.fmt,.string x.kind,.string x.lay,.string x.lang,.string x.cust,.bool x.dis,.int .i64 x.typ],.int .i64 t] w fun e w'=>e = .returned (gH (qK x t) (.slice A2 x.langs.length c2) (.slice A0 x.ids.length c0) (.slice A1 x.unk.length c1))∧Below w.heap.size w w':=by
 have HS0:=bX S0;have HS1:=bX S1;have HS2:=bX S2;have HO:=bX O;clear S0 S1 S2 O;have hR1:=Row.new w [.string x.comp,.string x.path,.string x.name,.int .i64 (x.nEnd:Int),.slice A0 x.ids.length c0,.slice A1 x.unk.length c1,.slice A2 x.langs.length c2,.string x.ext,.string x.fmt,.string x.kind,.string x.lay,.string x.lang,.string x.cust,.bool x.dis,.int .i64 x.typ] 58;have hB1:Below w.heap.size w (w.alloc (.cells #[.string x.comp,.string x.path,.string x.name,.int .i64 (x.nEnd:Int),.slice A0 x.ids.length c0,.slice A1 x.unk.length c1,.slice A2 x.langs.length c2,.string x.ext,.string x.fmt,.string x.kind,.string x.lay,.string x.lang,.string x.cust,.bool x.dis,.int .i64 x.typ] 58)):=(Below.refl _ _).alloc (Nat.le_refl _) _;go_enter Tryz.func52,Tryz.ntmps52;go_upto_region 1 with fail
 obtain ⟨w1,hw1⟩:∃ z,w.alloc (.cells #[.string x.comp,.string x.path,.string x.name,.int .i64 (x.nEnd:Int),.slice A0 x.ids.length c0,.slice A1 x.unk.length c1,.slice A2 x.langs.length c2,.string x.ext,.string x.fmt,.string x.kind,.string x.lay,.string x.lang,.string x.cust,.bool x.dis,.int .i64 x.typ] 58)=z:=⟨_,rfl⟩
 rw[hw1] at hR1 hB1 ⊢;have hz1:w1.heap.size=w.heap.size+1:=by rw[← hw1];simp
 clear hw1;have hR2:=Row.new w1 fB 28;have hB2:Below w1.heap.size w1 (w1.alloc (.cells fB.toArray 28)):=(Below.refl _ _).alloc (Nat.le_refl _) _;change Code.wp _ _ _ _ (w1.alloc (.cells fB.toArray 28))
 obtain ⟨w2,hw2⟩:∃ z,w1.alloc (.cells fB.toArray 28)=z:=⟨_,rfl⟩
 have hz2:w2.heap.size=w.heap.size+2:=by rw[← hw2];simp[hz1]
 rw[hw2] at hR2 hB2 ⊢;rw[hz1] at hR2 hB2;clear hw2;have HW2:=bX (hR1.below hB2 bA);have HZ2:=bX hR2;have HB2:=bX (hB1.trans (hB2.mono bA));clear hR1 hB1 hR2 hB2 hz1;have rc0:=HW2.out.at 0 _ rfl;have rc1:=HW2.out.at 1 _ rfl;have rc2:=HW2.out.at 2 _ rfl;have rc3:=HW2.out.at 3 _ rfl;have rc4:=HW2.out.at 4 _ rfl;have rc5:=HW2.out.at 5 _ rfl;have rc6:=HW2.out.at 6 _ rfl;have rc7:=HW2.out.at 7 _ rfl;have rc8:=HW2.out.at 8 _ rfl;have rc9:=HW2.out.at 9 _ rfl;have rc10:=HW2.out.at 10 _ rfl;have rc11:=HW2.out.at 11 _ rfl;have rc12:=HW2.out.at 12 _ rfl;have rc13:=HW2.out.at 13 _ rfl;have rc14:=HW2.out.at 14 _ rfl;have cs:=sD HO.out (HS0.out.below HB2.out) (HS1.out.below HB2.out) (HS2.out.below HB2.out);go_wp2_with fail
 refine cs.mono ?_;rintro e w3 ⟨rfl,hb3⟩;have HW3:=bX (HW2.out.below hb3 bA);have HZ3:=bX (HZ2.out.below hb3 bA);have HB3:=bX (HB2.out.trans (hb3.mono bA));have hz3:w.heap.size+2≤w3.heap.size:=by have:=hb3.size;omega
 clear cs hb3 HW2 HZ2 HB2 rc0 rc1 rc2 rc3 rc4 rc5 rc6 rc7 rc8 rc9 rc10 rc11 rc12 rc13 rc14;have rc14:=HW3.out.at 14 _ rfl;have rf14:=HW3.out.free 14 (show 14 < 15 by decide);go_upto_region 3 with fail
 have hW4:Row (w3.setCell ⟨w.heap.size,14,none⟩ (.int .i64 t)) w.heap.size [.string x.comp,.string x.path,.string x.name,.int .i64 (x.nEnd:Int),.slice A0 x.ids.length c0,.slice A1 x.unk.length c1,.slice A2 x.langs.length c2,.string x.ext,.string x.fmt,.string x.kind,.string x.lay,.string x.lang,.string x.cust,.bool x.dis,.int .i64 t]:=HW3.out.set 14 (.int .i64 t) (show 14 < 15 by decide);have HZ4:=bX (HZ3.out.other (a:=⟨w.heap.size,14,none⟩) (by show w.heap.size≠w.heap.size+1;omega) (.int .i64 t));have HB4:=bX (HB3.out.setCell (p:=⟨w.heap.size,14,none⟩) (Nat.le_refl _) (.int .i64 t));have hz4:w.heap.size+2≤(w3.setCell ⟨w.heap.size,14,none⟩ (.int .i64 t)).heap.size:=by simpa using hz3
 obtain ⟨w4,hw4⟩:∃ z,w3.setCell ⟨w.heap.size,14,none⟩ (.int .i64 t)=z:=⟨_,rfl⟩
 rw[hw4] at hW4 HZ4 HB4 hz4 ⊢;have HW4:=bX hW4;clear hw4 hW4 rc14 rf14 HW3 HZ3 HB3 hz3;have rc0:=HW4.out.at 0 _ rfl;have rc1:=HW4.out.at 1 _ rfl;have rc2:=HW4.out.at 2 _ rfl;have rc3:=HW4.out.at 3 _ rfl;have rc4:=HW4.out.at 4 _ rfl;have rc5:=HW4.out.at 5 _ rfl;have rc6:=HW4.out.at 6 _ rfl;have rc7:=HW4.out.at 7 _ rfl;have rc8:=HW4.out.at 8 _ rfl;have rc9:=HW4.out.at 9 _ rfl;have rc10:=HW4.out.at 10 _ rfl;have rc11:=HW4.out.at 11 _ rfl;have rc12:=HW4.out.at 12 _ rfl;have rc13:=HW4.out.at 13 _ rfl;have rc14:=HW4.out.at 14 _ rfl;have ca:=aAn (x:={ x with typ:=t }) (aI6 HO.out t) (HS0.out.below HB4.out) (HS1.out.below HB4.out) (HS2.out.below HB4.out);go_wp2_with fail
 refine ca.mono ?_;rintro e w5 ⟨rfl,hb5⟩;have HZ5:=bX (HZ4.out.below hb5 bA);have HB5:=bX (HB4.out.trans (hb5.mono bA));have hz5:w.heap.size+2≤w5.heap.size:=by have:=hb5.size;omega
 clear ca hb5 HW4 HZ4 HB4 hz4 rc0 rc1 rc2 rc3 rc4 rc5 rc6 rc7 rc8 rc9 rc10 rc11 rc12 rc13 rc14
 obtain ⟨C,hC⟩:∃ C:Array Value,qX (vR { x with typ:=t }) (.slice A2 x.langs.length c2) (.slice A0 x.ids.length c0) (.slice A1 x.unk.length c1)=C:=⟨_,rfl⟩
 have hval:gH (vR { x with typ:=t }) (.slice A2 x.langs.length c2) (.slice A0 x.ids.length c0) (.slice A1 x.unk.length c1) = .agg C:=by rw[← hC];rfl
 have HCS:=bX (show C.size=31 by rw[← hC];rfl);have HON:=bX (show C.all (·.oneCell')=true by rw[← hC];exact sG _ _ _ _ _ _ _ _ _ _);rw[hval];have HC:=bX hC;clear hval hC;have hRZ:=Row.new w5 fB 28;have HRT:=bX (Row.setAll (ds:=C.toList) hRZ (by rw[Array.length_toList,HCS.out];rfl));have hbn:Below w5.heap.size w5 ((w5.alloc (.cells fB.toArray 28)).setCells w5.heap.size 0 C.toList):=below_setCells (Nat.le_refl _) _ _ _ ((Below.refl _ _).alloc (Nat.le_refl _) _);have HZ6:=bX (HZ5.out.below hbn bA);have HB6:=bX (HB5.out.trans (hbn.mono bA));have hth:(w5.alloc (.cells fB.toArray 28)).there w5.heap.size 0 C.size:=by rw[HCS.out];exact hRZ.there
 have hin:(Tryz.prog.info? 28).map (·.size)=some C.size:=by rw[HCS.out];kernel_rfl
 go_upto_region 4 with (first | (refine wpList_store_mid rfl 28 (.tmp 6) (.tmp 12) rfl w5.heap.size 0 C rfl rfl hth hin HON.out ?_) | fail)
 clear hth hin;change Code.wp _ _ _ _ ((w5.alloc (.cells fB.toArray 28)).setCells w5.heap.size 0 C.toList)
 obtain ⟨w6,hw6⟩:∃ z,(w5.alloc (.cells fB.toArray 28)).setCells w5.heap.size 0 C.toList=z:=⟨_,rfl⟩
 rw[hw6] at HRT HZ6 HB6 ⊢
 obtain ⟨bt,hbt⟩:∃ b,w5.heap.size=b:=⟨_,rfl⟩
 rw[hbt] at HRT hz5 ⊢;clear hw6 hbt hRZ hbn HZ5 HB5
 obtain ⟨sec,hsec⟩:∃ z,pK x.path x.typ=z:=⟨_,rfl⟩
 rw[hsec];have HSE:=bX hsec;clear hsec;have k3:=HRT.out.at 3 (.string (vR { x with typ:=t }).section_) (by rw[← HC.out];rfl);have f3:=HRT.out.free 3 (by rw[Array.length_toList,HCS.out];decide);go_upto_region 5 with fail
 have HRX:=bX (HRT.out.set 3 (.string sec) (by rw[Array.length_toList,HCS.out];decide));have HZ7:=bX (HZ6.out.other (a:=⟨bt,3,none⟩) (by show bt≠w.heap.size+1;omega) (.string sec));have HB7:=bX (HB6.out.setCell (p:=⟨bt,3,none⟩) (by show w.heap.size≤bt;omega) (.string sec))
 obtain ⟨w7,hw7⟩:∃ z,w6.setCell ⟨bt,3,none⟩ (.string sec)=z:=⟨_,rfl⟩
 rw[hw7] at HRX HZ7 HB7 ⊢;clear hw7 k3 f3 HRT HZ6 HB6
 obtain ⟨CL,hCL⟩:∃ c,C.toList.set 3 (.string sec)=c:=⟨_,rfl⟩
 rw[hCL] at HRX;have hv:gH (qK x t) (.slice A2 x.langs.length c2) (.slice A0 x.ids.length c0) (.slice A1 x.unk.length c1) = .agg CL.toArray:=by rw[← hCL,← HC.out,← HSE.out];rfl
 have hlen:CL.length=31:=by rw[← hCL,List.length_set,Array.length_toList,HCS.out]
 have hone:CL.toArray.all (·.oneCell')=true:=by rw[← hCL,← HC.out,← HSE.out];kernel_rfl
 have hinf:(Tryz.prog.info? 28).map (·.size)=some CL.length:=by rw[hlen];kernel_rfl
 have hinf2:(Tryz.prog.info? 28).map (·.size)=some CL.toArray.size:=by rw[List.size_toArray];exact hinf
 have hsz:CL.toArray.size=31:=by rw[List.size_toArray];exact hlen
 have hrng:w7.rangeAt bt 0 CL:=by
  intro j v hj;rw[Nat.zero_add];exact HRX.out.at j v hj
 have hthere:w7.there (w.heap.size+1) 0 CL.toArray.size:=by rw[hsz];exact HZ7.out.there
 have hr:=World.rangeAt_setCells_same w7 (w.heap.size+1) 0 CL.toArray.toList (by simpa using hthere);have hld:=run_loadVar_mid (P:=Tryz.prog) _ (w.heap.size+1) 0 28 CL.toArray.toList _ hr Tryz.underlying28 rfl (by simpa using hinf);have HLD:=bX hld;have HBF:=bX (show Below w.heap.size w (w7.setCells (w.heap.size+1) 0 CL.toArray.toList) from below_setCells (Nat.le_succ _) _ _ _ HB7.out);have HV:=bX hv;clear hCL hlen hsz hr hld hv HRX HZ7 HB7
 go_wp2_with (first | (refine wpList_load_mid rfl 28 _ rfl bt 0 rfl CL _ hrng Tryz.underlying28 rfl hinf ?_) | (refine wpList_store_mid rfl 28 _ _ rfl (w.heap.size+1) 0 CL.toArray rfl rfl hthere hinf2 hone ?_) | fail)
 refine bodyPost_ret (v:=.agg CL.toArray.toList.toArray) (nJ Tryz.results52 rfl (by simpa using HLD.out)) rfl ⟨?_,HBF.out⟩;rw[HV.out]
end
end Go.Proofs.YtlkoeeccebmjmaaGreatDoor.Path
