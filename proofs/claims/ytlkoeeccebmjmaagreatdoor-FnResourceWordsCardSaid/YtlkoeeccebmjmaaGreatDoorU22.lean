/- Texts that the law leans on: Spec5, PTextsx0, PTextsx1, PTextsx, ViewPure. Condition: as told at each. -/
import Derived.Test.YtlkoeeccebmjmaaGreatDoorProg
import Derived.Below
import Derived.Deep.Draws
import Derived.Deep.AppendLies
import Derived.Maps.AppendAt
import Derived.OwnWalk
import Derived.Laws.BytesArg
import Derived.Laws.MakeOwn
import Derived.Laws.OwnMore
import Derived.Deep.OwnRows
import Derived.Tactics
import Derived.Lib.ConvBytes
import Derived.Laws.Slices
import Derived.WalkKit
import Derived.KernelRfl
import Derived.RowKit3
import Derived.Deep.LoopGhost
import Derived.Deep.QuietTactic
import Derived.BigQuiet
import Derived.WideLaws
import Derived.Deep.DeepCutAuto
import Derived.Deep.CutBlock
import Derived.Deep.RegionHeld3
import Derived.Laws.Rows
import Derived.Lib.AppendStr
import Derived.ArgAppend
import Derived.Laws.IdiomCopy
import Derived.OrdersHeld
import Derived.Laws.BitsLemmas
import Derived.RowKit
import Derived.Laws.StructEq
import Derived.Test.YtlkoeeccebmjmaaGreatDoorUa
import Derived.Test.YtlkoeeccebmjmaaGreatDoorU17
set_option linter.unusedVariables false
set_option linter.unusedSimpArgs false
set_option maxRecDepth 100000
set_option maxHeartbeats 16000000
namespace Go.Proofs.YtlkoeeccebmjmaaGreatDoor.Path
open Go.RowKit Go.ZW.PrintWords Go.Proofs.YtlkoeeccebmjmaaGreatDoor.Base Go.Proofs.YtlkoeeccebmjmaaGreatDoor.Total Go.Proofs.YtlkoeeccebmjmaaGreatDoor.Lower
def wV (st:fM) (comp T:ByteArray) (n:List UInt8) (r:RV) (e:Nat) (t:Int):WV :=
 { comp:=comp,path:=T,name:=lastB T,nEnd:=e,ids:=r.ids,unk:=r.unk,langs:=r.langs,ext:=r.ext,fmt:=if eQ comp=true∧chooseB r.fmt r.fmt1=⟨#[]⟩∧eS n≠[]∧gZ st r.ext=true then r.ext else chooseB r.fmt r.fmt1,kind:=chooseB r.kind r.kind1,lay:=chooseB r.lay r.lay1,lang:=(match r.langs with | []=>r.lang1 | l::_=>l),cust:=r.cust,dis:=r.dis,typ:=t }
theorem aCm {b:Bool} {x:ByteArray} (h:(L x).head?≠some 47):nrm b x=x:=by
 unfold nrm;split
 ·refine L_inj ?_;rw[kD];unfold Lib.trimPrefix Lib.hasPrefix;rw[if_neg];intro hp;rw[List.isPrefixOf_iff_prefix] at hp;obtain ⟨t,ht⟩:=hp;exact h (by rw[← ht];rfl)
 rfl
theorem aFy {p:eG} {k0:Int×Int} (h:p.known=[k0]) (b:Bool):jJ p true b=nrm p.trim p.s:=by
 unfold jJ;rw[h];simp
theorem yB {p:eG} {k0 k1:Int×Int} {rest:List (Int×Int)} (h:p.known=k0::k1::rest) {b:Bool}:jJ p true b=nrm p.trim (sub p.s 0 (lK p b)++sub p.s (k0.1 - 1) k0.2):=by
 unfold jJ;rw[h];simp
theorem aIl (b:Bool):nrm b ⟨#[]⟩=⟨#[]⟩:=aCm (by rw[show L (⟨#[]⟩:ByteArray)=[] from rfl];decide)
theorem aBp {w:ByteArray} (h:iI (L w)=true):(⟨(Lib.trimSuffix (Lib.trimPrefix (L w) [95]) [95]).toArray⟩:ByteArray)=fR w:=by
 refine L_inj ?_;unfold iI at h;simp only[Bool.and_eq_true,decide_eq_true_eq,beq_iff_eq] at h;obtain ⟨h1,h2,h3⟩:=h;have hz:=eF w;rw[kD];unfold fR;rw[eR]
 cases hl:L w with
 | nil=>rw[hl] at h1;simp at h1
 | cons a m =>
  rw[hl] at h1 h2 h3 hz;simp only[List.getElem?_cons_zero,Option.some.injEq] at h2;subst h2
  have e1:Lib.trimPrefix (95::m) [95]=m:=by
   unfold Lib.trimPrefix Lib.hasPrefix;rw[if_pos (by rw[List.isPrefixOf_iff_prefix];exact ⟨m,rfl⟩)];rfl
  have hm:m≠[]:=by rintro rfl;simp at h1
  have e2:m.getLast? = some 95:=by
   rw[List.getLast?_eq_getElem?]
   have:(95::m)[(95::m).length - 1]? = m[m.length - 1]?:=by
    rw[show (95::m).length - 1=(m.length - 1)+1 by have:=List.length_pos_iff.2 hm;simp;omega,List.getElem?_cons_succ]
   rw[← this];exact h3
  rw[e1];unfold Lib.trimSuffix Lib.hasSuffix;rw[if_pos]
  ·show m.take (m.length - 1)=((95::m).drop 1).take (w.size - 1 - 1);rw[show (95::m).drop 1=m from rfl];congr 1;rw[← hz];simp
  rw[List.isSuffixOf_iff_suffix];rw[List.getLast?_eq_some_iff] at e2;obtain ⟨t,ht⟩:=e2;exact ⟨t,ht.symm⟩
section
variable {st:fM} {T:ByteArray} {q:Nat} {n:List UInt8} {p:eG} {r:RV} {e sc:Nat} {t:Int} (P:PW st T q n p r e sc t)
include P
theorem PW.turn {p' : eG} (h:∃ ty tr,p' = { p with typ:=ty,trim:=tr }):PW st T q n p' r e sc t:=by
 obtain ⟨ty,tr,rfl⟩:=h
 have G:Grown p { p with typ:=ty,trim:=tr }:=⟨rfl,.inr (.inr ⟨rfl,rfl⟩)⟩
 refine ⟨P.split,P.head,P.h47,P.no,P.s,P.cHigh,P.cLow,P.sec,P.sc,P.nLow,P.nHigh,P.le,P.rend,?_⟩;rcases P.words with h | ⟨h1,h2,R,h3⟩
 ·exact .inl h
 exact .inr ⟨h1,h2,⟨R.ids,R.unk,R.ix.grown G,R.lay,R.dis,R.ext⟩,h3⟩
theorem PW.size:T.size=q+1+n.length:=by
 obtain ⟨pre,S,hp⟩:=P.split;rw[← eF,S.eq,List.length_append,hp]
theorem PW.ns (j:Nat) (h:q < j):(L T)[j]?≠some 47:=by
 obtain ⟨pre,S,hp⟩:=P.split;rw[S.eq,List.getElem?_append_right bA];exact S.no _
theorem PW.sl:slB (L T) T.size=some q:=xS P.h47 _ (by have:=P.size;omega) (fun j h _=>P.ns j h)
theorem PW.nameL:L (lastB T)=n:=by
 obtain ⟨pre,S,hp⟩:=P.split;unfold lastB;rw[kD,S.behind.1,← S.behind.2]
theorem PW.nameZ:(lastB T).size=n.length:=by rw[← eF,P.nameL]
theorem PW.text (a b:Nat):T.extract (q+1+a) (q+1+b)=(lastB T).extract a b:=by
 obtain ⟨pre,S,hp⟩:=P.split;exact sJ S hp P.nameL a b
theorem PW.name:wB p=lastB T:=by
 obtain ⟨pre,S,hp⟩:=P.split;refine L_inj ?_;unfold wB;rw[P.cHigh,P.s,show (q:Int)+1=((q+1:Nat):Int) by omega,aJb,P.nameL,← hp,S.eq,List.drop_left]
theorem PW.nameNoId:nM p=(lastB T).extract 0 e:=by
 unfold nM;rw[P.nLow,P.nHigh,P.s,show (q:Int)+1=((q+1:Nat):Int) by omega,iW];exact P.text 0 e
theorem PW.dir:xL p=nrm p.trim (iB T):=by
 have h:=P.sl;unfold xL iB;rw[h]
 cases q with
 | zero=>rw[if_pos (by rw[P.cHigh];rfl)]
 | succ a =>
  rw[if_neg (by rw[P.cHigh];omega),P.cHigh,P.s,show ((a+1:Nat):Int)+1 - 1=((a+1:Nat):Int) by omega];rfl
theorem PW.low {a:Nat} (h:q=a+1):∃ j:Nat,slB (L T) (a+1)=some j∧p.cLow=(j:Int)+1∧j < a∧(L T)[j]? = some 47∧∀ i,j < i→i < a+1→(L T)[i]?≠some 47:=by
 subst h;obtain ⟨j,hj⟩:=xR P.head (a+1) bA;obtain ⟨h1,h2,h3⟩:=aCu _ hj;refine ⟨j,hj,?_,?_,h1,h3⟩
 ·rw[P.cLow,aEd,hj]
 by_cases c:j=a
 ·subst c;exact absurd ⟨h1,P.h47⟩ (P.no j)
 omega
theorem PW.low0 (h:q=0):p.cLow = -1:=by subst h;rw[P.cLow];rfl
theorem PW.lastOf {a j:Nat} (h:q=a+1) (h1:(L T)[j]? = some 47) (h2:j < a) (h3:∀ i,j < i→i < a+1→(L T)[i]?≠some 47):lastB (T.extract 0 (a+1))=T.extract (j+1) (a+1):=by
 have hlen:a+1 < (L T).length:=by rw[eF,P.size];omega
 refine L_inj ?_;have e1:L (T.extract 0 (a+1))=(L T).take (a+1):=by rw[eR];rfl
 have S:mX ((L T).take (a+1)) ((L T).take (j+1)) (((L T).take (a+1)).drop (j+1)):=by
  refine ⟨?_,⟨(L T).take j,?_⟩,fun k=>?_⟩
  ·have:=(List.take_append_drop (j+1) ((L T).take (a+1))).symm;rwa[List.take_take,Nat.min_eq_left bA] at this
  ·obtain ⟨g1,g2⟩:=List.getElem?_eq_some_iff.1 h1;rw[List.take_succ_eq_append_getElem g1,g2]
  rw[List.getElem?_drop,List.getElem?_take];split
  ·exact h3 _ bA bA
  simp
 unfold lastB;rw[kD,e1,S.behind.1,eR,List.drop_take];congr 2
 all_goals rw[List.length_take];omega
theorem PW.cont:mY p=jB T:=by
 have h:=P.sl;unfold mY jB;rw[h]
 cases q with
 | zero=>rw[if_pos (P.low0 rfl)];rfl
 | succ a =>
  obtain ⟨j,hj,h1,h2,h3,h4⟩:=P.low rfl;rw[if_neg bA,h1,P.cHigh,P.s,show ((a+1:Nat):Int)+1 - 1=((a+1:Nat):Int) by omega,show (j:Int)+1=((j+1:Nat):Int) by omega,iW];simp only[];rw[P.lastOf rfl h3 h2 h4];refine aCm ?_;rw[eR,List.head?_take,if_neg bA,List.head?_drop];exact h4 _ bA bA
theorem PW.contNe {a:Nat} (h:q=a+1):jB T≠⟨#[]⟩:=by
 subst h;obtain ⟨j,hj,h1,h2,h3,h4⟩:=P.low rfl;unfold jB;rw[P.sl];simp only[];rw[P.lastOf rfl h3 h2 h4];intro hh;have h9:=congrArg ByteArray.size hh;rw[← eF,eR,List.length_take,List.length_drop,eF,P.size] at h9;have h0:(⟨#[]⟩:ByteArray).size=0:=rfl;omega
theorem PW.contDir {comp:ByteArray}:mR p=nrm p.trim (mL (wV st comp T n r e p.typ)):=by
 unfold mR mL;show _=nrm p.trim (if jM p.typ=true∧jB T≠⟨#[]⟩ then (iB T).extract 0 ((slB (L (iB T)) (iB T).size).getD 0) else iB T)
 by_cases h0:q=0
 ·have hc:jB T=⟨#[]⟩:=by
   unfold jB;rw[P.sl,h0]
  rw[if_pos (.inl (P.low0 h0)),if_neg (fun h=>h.2 hc)];exact P.dir
 obtain ⟨a,ha⟩:∃ a,q=a+1:=⟨q - 1,aR⟩
 obtain ⟨j,hj,h1,h2,h3,h4⟩:=P.low ha;have hne:=P.contNe ha
 by_cases hb:3≤p.typ∧p.typ≤5
 ·rw[if_neg (by rintro (h | h) <;> first | omega | exact h hb),if_pos ⟨by unfold jM;exact decide_eq_true hb,hne⟩,h1,P.s,show (j:Int)+1 - 1=(j:Int) by omega]
  have hd:iB T=T.extract 0 (a+1):=by
   unfold iB;rw[P.sl,ha]
  have hz:(T.extract 0 (a+1)).size=a+1:=by
   rw[← eF,eR,List.length_take,List.length_drop,eF,P.size];omega
  have hs:slB (L (iB T)) (iB T).size=some j:=by
   rw[hd,hz];refine xS ?_ _ bA (fun i g1 g2=>?_)
   ·rw[eR,List.drop_zero,List.getElem?_take,if_pos bA];exact h3
   rw[eR,List.drop_zero,List.getElem?_take,if_pos bA];exact h4 i g1 bA
  rw[hs,Option.getD_some,hd];congr 1;refine L_inj ?_;rw[show (0:Int)=((0:Nat):Int) from rfl,iW,eR,eR,eR,List.drop_zero,List.drop_zero,List.take_take];congr 1;omega
 rw[if_pos (.inr hb),if_neg (by rintro ⟨h,_⟩;unfold jM at h;exact hb (of_decide_eq_true h))];exact P.dir
theorem PW.section_:pZ p=pR T t:=by
 obtain ⟨pre,S,hp⟩:=P.split;obtain ⟨c1,c2⟩:=aC9 S hp P.head;unfold pZ pR;rw[c1]
 by_cases h0:q=0
 ·have a1:cntF (L T) q=0∨(cntF (L T) q=1∧t=3):=.inl (c2.2 h0)
  have a2:p.sec≤0:=by
   rw[P.sec,h0,if_neg (by omega:¬ 0 < 0)];split
   ·exact Int.le_refl _
   show (-1:Int)≤0;decide
  rw[if_pos a2,if_pos a1];rfl
 have hne:cntF (L T) q≠0:=fun h=>h0 (c2.1 h);obtain ⟨f,f1,f2,f3,f4,f5⟩:=zT (l:=L T) q q (Nat.le_refl _) bA P.h47 (fun j a b c=>by omega)
 by_cases h3:t=3∧sc=2
 ·have a1:cntF (L T) q=0∨(cntF (L T) q=1∧t=3):=.inr ⟨by have:=P.sc;omega,h3.1⟩;have a2:p.sec≤0:=by rw[P.sec,if_pos h3];exact Int.le_refl _
  rw[if_pos a2,if_pos a1];rfl
 have hs:p.sec=(f:Int):=by rw[P.sec,if_neg h3,if_pos bA,f1]
 have a1:¬ (cntF (L T) q=0∨(cntF (L T) q=1∧t=3)):=by
  rintro (h | ⟨h,h'⟩)
  ·exact hne h
  exact h3 ⟨h',by have:=P.sc;omega⟩
 have a2:¬ (p.sec≤0):=by rw[hs];omega
 rw[if_neg a2,if_neg a1,hs,P.s,show (1:Int)=((1:Nat):Int) from rfl,iW]
 have htw:((L T).drop 1).takeWhile (fun c=>c != 47)=((L T).drop 1).take (f - 1):=by
  refine rU _ _ ?_ (fun j hj=>?_)
  ·rw[List.getElem?_drop,show 1+(f - 1)=f by omega];exact f4
  rw[List.getElem?_drop];exact f5 _ bA bA
 rw[htw];have e1:(⟨(((L T).drop 1).take (f - 1)).toArray⟩:ByteArray)=T.extract 1 f:=L_inj (by rw[kD,eR]);rw[e1];refine aCm ?_;rw[eR,List.head?_take];split
 ·simp
 rw[List.head?_drop];intro h;exact P.no 0 ⟨P.head,h⟩
theorem PW.high:lK p false=((q+1+e:Nat):Int):=by
 unfold lK;simp only[Bool.false_eq_true,if_false];rw[P.nHigh,if_neg bA]
theorem PW.cat:T.extract 0 (T.size - (lastB T).size)++(lastB T).extract 0 e=T.extract 0 (q+1+e):=by
 refine L_inj ?_;have hz:=P.size;rw[nC,P.nameZ,← P.text 0 e,eR,eR,eR,hz,show q+1+n.length - n.length=q+1 by omega,List.drop_zero,Nat.sub_zero,Nat.sub_zero,Nat.add_zero,show q+1+e - (q+1)=e by omega];exact (List.take_add ..).symm
theorem PW.idsNe (h:p.known≠[]):r.ids≠[]:=by
 rcases P.words with ⟨h1,_⟩ | ⟨_,_,R,_⟩
 ·exact absurd h1 h
 rw[R.ids];unfold kM;simpa using h
theorem PW.none (h:p.known=[]):r=lA∧eS n=[]∧e=n.length:=by
 rcases P.words with ⟨_,h1,h2,h3,_⟩ | ⟨h1,_⟩
 ·exact ⟨h2,h1,h3⟩
 exact absurd h h1
theorem PW.point (h:p.known≠[]):∃ (c:Nat) (rest:List (Int×Int)),p.known=(((q+1+c+1:Nat):Int),(T.size:Int))::rest∧c < n.length∧r.ext=T.extract (q+1+c+1) T.size∧r.ext.size=n.length - c - 1∧(L T)[q+1+c]? = some 46∧e≤c:=by
 rcases P.words with ⟨h1,_⟩ | ⟨_,_,R,_,_,c,h1,h2,h46,hec⟩
 ·exact absurd h1 h
 cases hk:p.known with
 | nil=>exact absurd hk h
 | cons x rest =>
  rw[hk] at h1;injection h1 with h1
  subst h1
  have e1:r.ext=T.extract (q+1+c+1) T.size:=by
   rw[← R.ext];unfold fH;rw[if_neg bG,hk,P.s];exact iW _ _ _
  refine ⟨c,rest,rfl,h2,e1,?_,?_,hec⟩;rotate_left
  ·obtain ⟨pre,S,hp⟩:=P.split;rw[S.eq,List.getElem?_append_right bA,show q+1+c - pre.length=c by omega];exact h46
  rw[e1,← eF,eR,List.length_take,List.length_drop,eF,P.size];omega
theorem PW.noId {comp:ByteArray} {ty:Int}:jJ p false false=nrm p.trim (kK (wV st comp T n r e ty)):=by
 unfold jJ kK rB;show _=nrm p.trim (if r.ids=[] then T else T.extract 0 (T.size - (lastB T).size)++(lastB T).extract 0 e)
 cases hk:p.known with
 | nil =>
  obtain ⟨hr,_⟩:=P.none hk;rw[if_pos (by rw[hr];rfl),P.s]
 | cons k0 rest =>
  rw[if_neg (P.idsNe (by rw[hk];simp)),P.cat];simp only[Bool.false_eq_true,false_and,if_false];rw[P.high,P.s];rfl
theorem PW.noExt {comp:ByteArray} {ty:Int}:oO p=kS (wV st comp T n r e ty) (lastB T):=by
 unfold oO kS;show _=if r.ids=[] then lastB T else (lastB T).extract 0 ((lastB T).size - r.ext.size - 1)
 cases hk:p.known with
 | nil =>
  obtain ⟨hr,_⟩:=P.none hk;rw[if_pos (by rw[hr];rfl)];exact P.name
 | cons k0 rest =>
  have hne:p.known≠[]:=by rw[hk];simp
  obtain ⟨c,rest',h1,h2,h3,h4,_⟩:=P.point hne;rw[hk] at h1;injection h1 with h1 _
  rw[if_neg (P.idsNe hne),h1,h4,P.nameZ,P.cHigh,P.s];show sub T ((q:Int)+1) (((q+1+c+1:Nat):Int) - 1)=_;rw[show (q:Int)+1=((q+1+0:Nat):Int) by omega,show ((q+1+c+1:Nat):Int) - 1=((q+1+c:Nat):Int) by omega,iW,P.text 0 c];congr 1;omega
theorem PW.before {comp:ByteArray} {ty:Int}:rD p=nrm p.trim (kS (wV st comp T n r e ty) T):=by
 unfold rD kS;show _=nrm p.trim (if r.ids=[] then T else T.extract 0 (T.size - r.ext.size - 1))
 cases hk:p.known with
 | nil =>
  obtain ⟨hr,_⟩:=P.none hk;rw[if_pos (by rw[hr];rfl),P.s]
 | cons k0 rest =>
  have hne:p.known≠[]:=by rw[hk];simp
  obtain ⟨c,rest',h1,h2,h3,h4,_⟩:=P.point hne;rw[hk] at h1;injection h1 with h1 _
  rw[if_neg (P.idsNe hne),h1,h4,P.s];show nrm p.trim (sub T 0 (((q+1+c+1:Nat):Int) - 1))=_;rw[show ((q+1+c+1:Nat):Int) - 1=((q+1+c:Nat):Int) by omega,show (0:Int)=((0:Nat):Int) from rfl,iW,P.size];congr 2;omega
theorem PW.withExt (h:p.known≠[]):∃ k0 rest,p.known=k0::rest∧sub p.s 0 (lK p false)++sub p.s (k0.1 - 1) k0.2=T.extract 0 (T.size - (lastB T).size)++(lastB T).extract 0 e++⟨#[46]⟩++r.ext:=by
 obtain ⟨c,rest,h1,h2,h3,h4,hdot,_⟩:=P.point h;refine ⟨_,rest,h1,?_⟩;rw[P.cat,P.high,P.s];show sub T 0 ((q+1+e:Nat):Int)++sub T (((q+1+c+1:Nat):Int) - 1) (T.size:Int)=_;rw[show ((q+1+c+1:Nat):Int) - 1=((q+1+c:Nat):Int) by omega,show (0:Int)=((0:Nat):Int) from rfl,iW,iW,h3];refine L_inj ?_;rw[nC,nC,nC,List.append_assoc];congr 1;rw[eR,eR];have hlt:q+1+c < (L T).length:=by rw[eF,P.size];omega
 rw[List.take_of_length_le (by rw[List.length_drop,eF];omega),List.take_of_length_le (by rw[List.length_drop,eF];omega),List.drop_eq_getElem_cons hlt];rw[List.getElem?_eq_getElem hlt] at hdot;injection hdot with hdot
 rw[hdot];rfl
theorem PW.oneKnown:r.ids.length=p.known.length:=by
 rcases P.words with ⟨h1,_,h2,_⟩ | ⟨_,_,R,_⟩
 ·rw[h1,h2];rfl
 rw[R.ids];unfold kM;rw[List.length_map]
theorem PW.pathNe (x:ByteArray) (hx:∃ k,L x=(L T).take k) (b:Bool):L (nrm b x)=[47]→b=false∧L x=[47]:=by
 intro h;obtain ⟨k,hk⟩:=hx
 cases b with
 | false=>exact ⟨rfl,h⟩
 | true =>
  exfalso;unfold nrm at h;rw[if_pos rfl,kD,hk] at h
  cases k with
  | zero=>rw[List.take_zero] at h;cases h
  | succ k =>
   have h0:=P.head
   cases hl:L T with
   | nil=>rw[hl] at h0;cases h0
   | cons a m =>
    rw[hl] at h0 h;simp only[List.getElem?_cons_zero,Option.some.injEq] at h0;subst h0;rw[List.take_succ_cons] at h;unfold Lib.trimPrefix Lib.hasPrefix at h;rw[if_pos (by rw[List.isPrefixOf_iff_prefix];exact ⟨_,rfl⟩)] at h;have h2:(m.take k)=[47]:=h
    have h3:m[0]? = some 47:=by
     have:=congrArg (fun l=>l[0]?) h2;simp only[List.getElem?_cons_zero] at this;rw[List.getElem?_take] at this;split at this
     ·exact this
     cases this
    exact P.no 0 ⟨by rw[hl];rfl,by rw[hl];exact h3⟩
theorem PW.base {comp:ByteArray}:tI p=nrm p.trim (lR (wV st comp T n r e p.typ)):=by
 unfold tI lR;show (if _ then _ else _)=nrm p.trim (if r.ids=[] then (if T=⟨#[47]⟩∧2≤p.typ∧p.typ≤5 then ⟨#[]⟩ else T) else if jM p.typ=true then (if iB T=⟨#[47]⟩ then ⟨#[]⟩ else iB T) else if p.typ=2 then kK (wV st comp T n r e p.typ) else if r.ids.length=1 then T else kK (wV st comp T n r e p.typ)++⟨#[46]⟩++r.ext)
 have hone:∀ x:ByteArray,x=⟨#[47]⟩↔L x=[47]:=fun x=>⟨fun h=>by rw[h];rfl,fun h=>L_inj (by rw[h];rfl)⟩
 have empt:(ByteArray.empty:ByteArray)=nrm p.trim ⟨#[]⟩:=by rw[aIl];rfl
 have take:∀ (x:ByteArray) (k:Nat),x=T.extract 0 k→∃ k,L x=(L T).take k:=by
  rintro x k rfl;exact ⟨k,by rw[eR];rfl⟩
 have whole:∃ k,L T=(L T).take k:=⟨(L T).length,(List.take_of_length_le (Nat.le_refl _)).symm⟩
 -- whatever the base is: where it is not / alone,or it is no page
 have key:∀ (B0 x y:ByteArray),B0=nrm p.trim x→(∃ k,L x=(L T).take k)→(2≤p.typ∧p.typ≤5)→y=(if L x=[47] then ⟨#[]⟩ else x)→(if B0.toList=[47]∧2≤p.typ∧p.typ≤5 then ByteArray.empty else B0)=nrm p.trim y:=by
  rintro B0 x y rfl hx hc rfl;rw[L_toList]
  by_cases h:L x=[47]
  ·rw[if_pos h,← empt]
   by_cases h2:L (nrm p.trim x)=[47]
   ·rw[if_pos ⟨h2,hc⟩]
   rw[if_neg (fun hh=>h2 hh.1)]
   cases hb:p.trim with
   | false=>rw[hb] at h2;exact absurd h h2
   | true =>
    refine L_inj ?_;unfold nrm;rw[if_pos rfl,kD,h];rfl
  rw[if_neg h,if_neg (fun hh=>h (P.pathNe x hx _ hh.1).2)]
 cases hk:p.known with
 | nil =>
  obtain ⟨hr,_⟩:=P.none hk
  have hb:∀ a b,jJ p a b=nrm p.trim T:=by
   intro a b;unfold jJ;rw[hk,P.s]
  have a1:r.ids=[]:=by rw[hr];rfl
  rw[if_pos a1,hb]
  by_cases hc:2≤p.typ∧p.typ≤5
  ·refine key _ T _ rfl whole hc ?_
   by_cases h:L T=[47]
   ·rw[if_pos h,if_pos ⟨(hone T).2 h,hc⟩]
   rw[if_neg h,if_neg (fun hh=>h ((hone T).1 hh.1))]
  rw[if_neg (fun h=>hc h.2:¬ ((nrm p.trim T).toList=[47]∧2≤p.typ∧p.typ≤5)),if_neg (fun h=>hc h.2:¬ (T=⟨#[47]⟩∧2≤p.typ∧p.typ≤5))]
 | cons k0 rest =>
  have hne:p.known≠[]:=by rw[hk];simp
  have a1:¬ (r.ids=[]):=P.idsNe hne;rw[if_neg a1]
  by_cases hc:2≤p.typ∧p.typ≤5
  ·have e1:(!decide (2≤p.typ∧p.typ≤5))=false:=by rw[decide_eq_true hc];rfl
   rw[e1]
   by_cases hbn:3≤p.typ∧p.typ≤5
   ·have e2:decide (3≤p.typ∧p.typ≤5)=true:=decide_eq_true hbn;rw[e2,if_pos (show jM p.typ=true from e2)]
    have hb:jJ p false true=nrm p.trim (T.extract 0 (if q=0 then 1 else q)):=by
     unfold jJ;rw[hk];simp only[Bool.false_eq_true,false_and,if_false];unfold lK;simp only[if_true];rw[P.cHigh,P.s,show (q:Int)+1 - 1=(q:Int) by omega]
     by_cases h0:q=0
     ·rw[if_pos bA,if_pos h0];rfl
     rw[if_neg bA,if_neg h0];rfl
    refine key _ (T.extract 0 (if q=0 then 1 else q)) _ hb (take _ _ rfl) hc ?_
    have hd:iB T=if q=0 then ⟨#[47]⟩ else T.extract 0 q:=by
     unfold iB;rw[P.sl]
     cases q with
     | zero=>rfl
     | succ a=>rfl
    by_cases h0:q=0
    ·rw[if_pos h0] at hd;rw[if_pos h0,hd,if_pos rfl,if_pos];have hlt:0 < (L T).length:=by rw[eF,P.size];omega
     rw[eR,List.drop_zero];have hh:=P.head
     cases hl:L T with
     | nil=>rw[hl] at hlt;simp at hlt
     | cons a m =>
      rw[hl] at hh;simp only[List.getElem?_cons_zero,Option.some.injEq] at hh;rw[hh];rfl
    rw[if_neg h0] at hd;rw[if_neg h0,hd]
    have hne2:L (T.extract 0 q)≠[47]:=by
     intro h
     obtain ⟨a,ha⟩:∃ a,q=a+1:=⟨q - 1,aR⟩
     obtain ⟨j,_,_,h2,_⟩:=P.low ha;have:=congrArg List.length h;rw[eR,List.length_take,List.length_drop,eF,P.size] at this
     simp at this
     omega
    rw[if_neg hne2,if_neg (fun h=>hne2 ((hone _).1 h))]
   have e2:decide (3≤p.typ∧p.typ≤5)=false:=decide_eq_false hbn;rw[e2,if_neg (show ¬ (jM p.typ=true) by unfold jM;rw[e2];decide),if_pos (by omega:p.typ=2)]
   have hw:kK (wV st comp T n r e p.typ)=T.extract 0 (q+1+e):=by
    unfold kK;show (if r.ids=[] then T else rB _++_)=_;rw[if_neg (P.idsNe hne)];exact P.cat
   refine key _ (T.extract 0 (q+1+e)) _ ?_ (take _ _ rfl) hc ?_
   ·rw[P.noId (comp:=comp) (ty:=p.typ),hw]
   have hpos:0 < e:=by
    rcases P.words with ⟨h1,_⟩ | ⟨_,_,_,h,_⟩
    ·exact absurd h1 hne
    exact h
   rw[hw,if_neg];intro h;have:=congrArg List.length h;rw[eR,List.length_take,List.length_drop,eF,P.size] at this;have hle:=P.le
   simp at this
   omega
  have e1:(!decide (2≤p.typ∧p.typ≤5))=true:=by rw[decide_eq_false hc];rfl
  have e2:decide (3≤p.typ∧p.typ≤5)=false:=decide_eq_false (fun h=>hc ⟨aR,h.2⟩);have b1:¬ ((jJ p (!decide (2≤p.typ∧p.typ≤5)) (decide (3≤p.typ∧p.typ≤5))).toList=[47]∧2≤p.typ∧p.typ≤5):=fun h=>hc h.2;have b2:¬ (jM p.typ=true):=by unfold jM;rw[e2];decide
  have b3:¬ (p.typ=2):=fun h=>hc bA;rw[if_neg b1,if_neg b2,if_neg b3,e1,e2,P.oneKnown];obtain ⟨k0',rest',hk',hw⟩:=P.withExt hne;rw[hk] at hk';injection hk' with h1 h2
  subst h1 h2
  cases rest with
  | nil =>
   have b4:p.known.length=1:=by rw[hk];rfl
   rw[if_pos b4,aFy hk,P.s]
  | cons k1 rest =>
   have b4:¬ (p.known.length=1):=by rw[hk];simp
   rw[if_neg b4,yB hk,hw];unfold kK;show _=nrm p.trim ((if r.ids=[] then T else rB _++_)++_++_);rw[if_neg a1];rfl
theorem PW.langIs:wA p=(match r.langs with | []=>r.lang1 | l::_=>l)∧((p.plangs≠[]∨mJ p p.lang≠-1)↔(match r.langs with | []=>r.lang1 | l::_=>l)≠⟨#[]⟩)∧((p.plangs≠[]∨mJ p p.lang≠-1)→2≤p.known.length):=by
 unfold wA;rcases P.words with ⟨h1,_,hr,_,h2,_,_,_,_,_,_,_,h3,_⟩ | ⟨h1,_,R,_⟩
 ·rw[h3,h2,hr];refine ⟨rfl,⟨?_,fun h=>absurd rfl h⟩,?_⟩
  ·rintro (h | h)
   ·exact absurd rfl h
   exact absurd (by unfold mJ;rw[if_pos (.inl bG)]) h
  rintro (h | h)
  ·exact absurd rfl h
  exact absurd (by unfold mJ;rw[if_pos (.inl bG)]) h
 have I:=R.ix
 cases hp:p.plangs with
 | nil =>
  have hl:r.langs=[]:=by rw[I.langs,hp];rfl
  rw[hl];refine ⟨I.lang.str,?_,?_⟩
  ·simp only[ne_eq,not_true_eq_false,false_or];rcases I.lang with ⟨h2,h3⟩ | ⟨h2,h3⟩
   ·rw[h2,h3];exact ⟨fun h=>absurd (by unfold mJ;rw[if_pos (.inl bG)]) h,fun h=>absurd rfl h⟩
   obtain ⟨g0,_,x,g1,_⟩:=h2;have:=(List.getElem?_eq_some_iff.1 g1).1;refine ⟨fun _=>h3,fun _=>?_⟩;unfold mJ;rw[if_neg bA];omega
  rintro (h | h)
  ·exact absurd rfl h
  unfold mJ at h;split at h
  ·exact absurd rfl h
  rename_i hh
  have:=I.pos.1;omega
 | cons i rest =>
  have hl:r.langs=fH p i::rest.map (fH p):=by rw[I.langs,hp];rfl
  rw[hl];refine ⟨rfl,⟨fun _=>I.lne _ (by rw[hl];exact List.mem_cons_self ..),fun _=>.inl bK⟩,fun _=>?_⟩;obtain ⟨g0,_,x,g1,_⟩:=I.pl i (by rw[hp];exact List.mem_cons_self ..);have:=(List.getElem?_eq_some_iff.1 g1).1;have:=I.pos.2 i (by rw[hp];exact List.mem_cons_self ..);omega
theorem PW.noLang {comp:ByteArray} {ty:Int}:rG p=nrm p.trim (mE (wV st comp T n r e ty)):=by
 obtain ⟨h1,h2,h3⟩:=P.langIs;unfold rG mE;show _=nrm p.trim (if (match r.langs with | []=>r.lang1 | l::_=>l)=⟨#[]⟩ then T else T.extract 0 (T.size - (lastB T).size)++(lastB T).extract 0 e++⟨#[46]⟩++r.ext)
 by_cases c:p.plangs≠[]∨mJ p p.lang≠-1
 ·have hlen:=h3 c;have hne:p.known≠[]:=by intro h;rw[h] at hlen;simp at hlen
  obtain ⟨k0,rest,hk,hw⟩:=P.withExt hne;have a1:¬ ((match r.langs with | []=>r.lang1 | l::_=>l)=⟨#[]⟩):=h2.1 c;rw[if_pos c,if_neg a1,← hw]
  cases rest with
  | nil=>rw[hk] at hlen;simp at hlen
  | cons k1 rest=>exact yB hk
 rw[if_neg c,if_pos (by
  by_cases h:(match r.langs with | []=>r.lang1 | l::_=>l)=⟨#[]⟩
  ·exact h
  exact absurd (h2.2 h) c),P.s]
theorem PW.extIs:fH p 0=r.ext:=by
 rcases P.words with ⟨h1,_,hr,_⟩ | ⟨_,_,R,_⟩
 ·rw[hr];unfold fH;rw[if_neg bG,h1];rfl
 exact R.ext
theorem PW.fmtIs {comp:ByteArray} {ty:Int} (hc:p.comp=comp):aCg p=(wV st comp T n r e ty).fmt:=by
 show _=if eQ comp=true∧chooseB r.fmt r.fmt1=⟨#[]⟩∧eS n≠[]∧gZ st r.ext=true then r.ext else chooseB r.fmt r.fmt1
 have hx:=P.extIs;unfold aCg chooseB;rcases P.words with ⟨h1,h2,hr,_,_,h3,_,_,h4,_⟩ | ⟨h1,h2,R,_⟩
 ·rw[if_pos h4,h3,hr,if_neg (fun h=>h.2.2.1 h2)];rfl
 rcases R.ix.pfmt with ⟨a1,a2⟩ | ⟨a1,a2⟩
 ·rw[if_pos a1,a2,if_pos rfl];rcases R.ix.fmt with ⟨b1,b2⟩ | ⟨b1,b2⟩
  ·rw[b1,b2];unfold fmt0;rw[hc]
   by_cases c:(eQ comp && gZ st r.ext)=true
   ·rw[if_pos c,hx];rw[Bool.and_eq_true] at c;rw[if_pos ⟨c.1,rfl,h2,c.2⟩]
   rw[if_neg c,if_neg (fun h=>c (by rw[Bool.and_eq_true];exact ⟨h.1,h.2.2.2⟩))];rfl
  rw[b2.str,if_neg (fun h=>b1 h.2.1)]
 rw[if_neg (by have:=a1.1;omega),a1.str,if_neg a2,if_neg (fun h=>a2 h.2.1)]
theorem PW.kindIs:yM p=chooseB r.kind r.kind1:=by
 unfold yM chooseB;rcases P.words with ⟨h1,h2,hr,_,_,_,h3,_,_,h4,_⟩ | ⟨h1,h2,R,_⟩
 ·rw[if_pos h4,h3,hr];rfl
 rcases R.ix.pkind with ⟨a1,a2⟩ | ⟨a1,a2⟩
 ·rw[if_pos a1,a2,if_pos rfl];exact R.ix.kind.str
 rw[if_neg (by have:=a1.1;omega),a1.str,if_neg a2]
theorem PW.layIs:sT p=chooseB r.lay r.lay1:=by
 unfold sT chooseB;rcases P.words with ⟨h1,h2,hr,_,_,_,_,_,_,_,h4,h3,_⟩ | ⟨h1,h2,R,_⟩
 ·rw[if_pos h4,h3,hr];rfl
 rcases R.ix.play with ⟨a1,a2⟩ | ⟨a1,a2⟩
 ·rw[if_pos a1,a2,if_pos rfl];exact R.lay
 rw[if_neg (by have:=a1.1;omega),a1.str,if_neg a2]
theorem PW.custIs:pY p=r.cust:=by
 unfold pY;have h0:(⟨(Lib.trimSuffix (Lib.trimPrefix (L (fH p (-1))) [95]) [95]).toArray⟩:ByteArray)=⟨#[]⟩:=rfl;rcases P.words with ⟨h1,h2,hr,_,_,_,_,h3,_⟩ | ⟨h1,h2,R,_⟩
 ·rw[h3,hr];rfl
 rcases R.ix.cust with ⟨a1,a2⟩ | ⟨w,a1,a2,a3⟩
 ·rw[a1,a2];rfl
 rw[a1.str,a3];exact aBp a2
theorem PW.lists:kM p=r.ids∧lM p=r.unk∧kV p=r.langs∧p.dis=r.dis:=by
 rcases P.words with ⟨h1,h2,hr,_,_,_,_,_,_,_,_,_,h3,h4,h5⟩ | ⟨h1,h2,R,_⟩
 ·unfold kM lM kV;rw[h1,h3,h4,h5,hr];exact ⟨rfl,rfl,rfl,rfl⟩
 exact ⟨R.ids.symm,R.unk.symm,R.ix.langs.symm,R.dis⟩
end
def sW (w:WV) (t:Int) (b:Bool):gG :=
 { pA w with
  section_:=pR w.path t
  containerDir:=nrm b (mL w)
  dir:=nrm b (iB w.path)
  path:=nrm b w.path
  pathNoLang:=nrm b (mE w)
  pathNoId:=nrm b (kK w)
  pathBefore:=nrm b (kS w w.path)
  base:=nrm b (lR w)
  idBase:=nrm b (if eQ w.comp=true then w.path else lR w) }
theorem aFj (w:WV):sW w w.typ false=pA w:=rfl
theorem aIt {st:fM} {T:ByteArray} {q:Nat} {n:List UInt8} {p:eG} {r:RV} {e sc:Nat} {t:Int} (P:PW st T q n p r e sc t) (comp:ByteArray) (hc:p.comp=comp) :
 nF p=sW (wV st comp T n r e p.typ) t p.trim:=by
 obtain ⟨l1,l2,l3,l4⟩:=P.lists
 have hb:rE p=nrm p.trim (if eQ comp=true then T else lR (wV st comp T n r e p.typ)):=by
  unfold rE eQ;rw[hc]
  by_cases c:comp.toList=[108,97,121,111,117,116,115]
  ·rw[if_pos c,if_pos (beq_iff_eq.2 c),P.s]
  rw[if_neg c,if_neg (fun h=>c (beq_iff_eq.1 h))];exact P.base
 have hbn:qN p=if jM p.typ=true then jB T else (lastB T).extract 0 e:=by
  unfold qN jM
  by_cases c:3≤p.typ∧p.typ≤5
  ·rw[if_pos c,if_pos (decide_eq_true c)];exact P.cont
  rw[if_neg c,if_neg (by rw[decide_eq_false c];decide)];exact P.nameNoId
 unfold nF;rw[hc,P.cont,P.contDir (comp:=comp),P.section_,P.name,P.noExt (comp:=comp) (ty:=p.typ),hbn,P.nameNoId,P.dir,P.s,P.noLang (comp:=comp) (ty:=p.typ),P.noId (comp:=comp) (ty:=p.typ),P.before (comp:=comp) (ty:=p.typ),P.base (comp:=comp),hb,P.extIs,P.fmtIs (ty:=p.typ) hc,P.kindIs,P.layIs,P.langIs.1,P.custIs,l1,l2,l3,l4];rfl
theorem aI8 {st:fM} {comp T:ByteArray} {q:Nat} {n:List UInt8} {p:eG} {e sc:Nat} {t:Int}
 (P:PW st T q n p (gL st comp (fC (L T) fV) (lastB T) (eS n)) e sc t):wOf st comp T=wV st comp T n (gL st comp (fC (L T) fV) (lastB T) (eS n)) e (aFo st comp T n (gL st comp (fC (L T) fV) (lastB T) (eS n)) e):=by
 have hn:=P.nameL
 have he:(kH (gL st comp (fC (L T) fV) (lastB T) (eS n)).marks ((lastB T).size:Int)).toNat=e:=by
  rw[P.nameZ,P.rend];exact Int.toNat_natCast e
 have ht:L ((lastB T).extract 0 e)=n.take e:=by rw[eR,hn];rfl
 unfold wOf wV aFo;simp only[];rw[hn,he,ht];rfl
theorem aAs {st:fM} (SE:qV st) (comp s:ByteArray) (K:oB (eQ comp) ((iE (L s)).drop (behind (iE (L s))))) (hno:∀ i:Nat,¬ ((L s)[i]? = some 47∧(L s)[i+1]? = some 47)) (t:Int) (b:Bool) :
 nF { hJ (eJ st) comp s with typ:=t,trim:=b }=sW { wOf st comp ⟨(iE (L s)).toArray⟩ with typ:=t } (wOf st comp ⟨(iE (L s)).toArray⟩).typ b∧(hJ (eJ st) comp s).typ=(wOf st comp ⟨(iE (L s)).toArray⟩).typ∧(hJ (eJ st) comp s).trim=false:=by
 obtain ⟨T,q,n,e,sc,hT,hn,P,ht,hc,htr⟩:=aJi SE comp s K hno;have hw:=aI8 P;have P2:=P.turn (p':={ hJ (eJ st) comp s with typ:=t,trim:=b }) ⟨t,b,rfl⟩;have h:=aIt P2 comp hc;rw[← hT,hw];exact ⟨h,ht,htr⟩
theorem aH4 {st:fM} {comp s:ByteArray} (K:oW st comp s):qV st where
 lang:=by
  intro w h hw;subst hw
  have key:∀ l:List ByteArray,(∀ x∈l,mM x)→listed l ⟨#[]⟩=true→False:=by
   intro l hl h;unfold listed at h;rw[List.any_eq_true] at h;obtain ⟨x,hx,he⟩:=h;rw[beq_iff_eq,L_toList,L_toList] at he;have h1:=(hl x hx).pos;rw[L_inj he] at h1;exact absurd h1 bG
  rw[Bool.or_eq_true] at h;rcases h with h | h
  ·exact key _ K.site.langs h
  exact key _ K.site.dis h
 fmt:=by
  intro w h hw;subst hw;unfold gZ at h;rw[List.any_eq_true] at h;obtain ⟨x,hx,he⟩:=h;rw[beq_iff_eq,L_toList,L_toList] at he;have h1:=(K.site.fmts (mkF x) (List.mem_map_of_mem hx)).1.pos;have h2:(mkF x).f0=⟨#[]⟩:=L_inj he;rw[h2] at h1;exact absurd h1 bG
theorem aC0 {st:fM} {comp s:ByteArray} (K:oW st comp s) (t:Int) (b:Bool) :
 nF { hJ (eJ st) comp (norm s) with typ:=t,trim:=b }=sW { wOf st comp (pathOf s false) with typ:=t } (wOf st comp (pathOf s false)).typ b∧(hJ (eJ st) comp (norm s)).typ=(wOf st comp (pathOf s false)).typ∧(hJ (eJ st) comp (norm s)).trim=false:=by
 have W:=K.low;unfold pathOf at W;simp only[Bool.false_eq_true,if_false] at W;rw[kD] at W;exact aAs (aH4 K) comp (norm s) W (aCl K.slashes) t b
theorem aHv {st:fM} {comp s:ByteArray} (K:oW st comp s) (t:Int) (b:Bool) :
 nF { hJ (eJ st) comp s with typ:=t,trim:=b }=sW { wOf st comp (pathOf s true) with typ:=t } (wOf st comp (pathOf s true)).typ b∧(hJ (eJ st) comp s).typ=(wOf st comp (pathOf s true)).typ∧(hJ (eJ st) comp s).trim=false:=by
 have W:=K.own;unfold pathOf at W;simp only[if_true] at W;rw[kD] at W;exact aAs (aH4 K) comp s W K.slashes t b
end Go.Proofs.YtlkoeeccebmjmaaGreatDoor.Path
namespace Go.Proofs.YtlkoeeccebmjmaaGreatDoor.PTexts
open Go.RowKit Go.ZW.PrintWords Go.ZW.PrintLast Go.ZW.PrintMore
attribute [local go_sem] kN kP lG lH jV jW kO kQ   -- for this text's walks alone
def aBv:Option Int→Value
 | none=>.nilIface
 | some c=>.iface 0 (.int .i64 c)
theorem oC:aBv none = .nilIface:=rfl
theorem oD (c:Int):aBv (some c) = .iface 0 (.int .i64 c):=rfl
end Go.Proofs.YtlkoeeccebmjmaaGreatDoor.PTexts
namespace Go.Proofs.YtlkoeeccebmjmaaGreatDoor.PTexts
open Go.RowKit Go.ZW.PrintWords Go.ZW.PrintLast Go.ZW.PrintMore
attribute [local go_sem] kN kP lG lH jV jW kO kQ   -- for this text's walks alone
def laws_texts.l0:Nat→List ByteArray→List ByteArray→Int→Int→Option (Bool)
 | 0,_,_,_,_=>none
 | k+1,x0,x1,x12,x13=>if x13 < x12 then (if 0≤x13 then (if x13 < (x0.length:Int) then (if x13 < (x1.length:Int) then (if (hE ByteArray.empty x0 x13).toList=(hE ByteArray.empty x1 x13).toList then (laws_texts.l0 k x0 x1 x12 (wrap64 (x13+1))) else (some false)) else (none)) else (none)) else (none)) else (some true)
def laws_texts.f (k:Nat) (l0:List ByteArray) (l1:List ByteArray):Option (Bool):=if (l0.length:Int)=(l1.length:Int) then (laws_texts.l0 k l0 l1 (l0.length:Int) 0) else (some false)
theorem laws_texts.mono_l:∀ k,(∀ y0 y1 y2 y3,LeO (laws_texts.l0 k y0 y1 y2 y3) (laws_texts.l0 (k+1) y0 y1 y2 y3))
 | 0=>fun _ _ _ _ r h=>by simp[laws_texts.l0] at h
 | k+1=>by
  have ih0:=laws_texts.mono_l k
  intro y0 y1 y2 y3;unfold laws_texts.l0
  exact cX
theorem laws_texts.mono:∀ a0 a1 k,LeO (laws_texts.f k a0 a1) (laws_texts.f (k+1) a0 a1):=by
 intro a0 a1 k;have ih0:=laws_texts.mono_l k;unfold laws_texts.f
 exact cX
theorem laws_texts.calls (k:Nat) (A0:Option Addr) (c0:Nat) (l0:List ByteArray) (A1:Option Addr) (c1:Nat) (l1:List ByteArray) (r:Bool) (w:World) (hr0:Kd.C Kd.string w A0 l0.length l0) (hc0:l0.length≤c0) (hr1:Kd.C Kd.string w A1 l1.length l1) (hc1:l1.length≤c1) (h:laws_texts.f k l0 l1=some r) :
 Calls Tryz.prog 24 #[.slice A0 l0.length c0,.slice A1 l1.length c1] w fun e w'=>e = .returned (.bool r)∧eY w w':=by
 have HR0:=bX hr0;have HC0:=bX hc0;clear hr0 hc0;have HR1:=bX hr1;have HC1:=bX hc1;clear hr1 hc1;unfold laws_texts.f at h;have H:=h;clear h
 by_cases c3:(l0.length:Int)=(l1.length:Int)
 ·rw[if_pos c3] at H;have c3b0:=beq_iff_eq.mpr c3;have c3b1:=bne_eq_false_iff_eq.mpr c3;have c3b2:(l0.length==l1.length)=true:=by first | simpa using c3 | (simp at c3 ⊢;omega)
  clear c3;have H':=bX H;clear H;go_enter Tryz.func24,Tryz.ntmps24;go_wp2
  repeat (go_quiet (fail);try go_wp2)
  go_loopg [13] k (fun kq v13 w'=>∃ (x13_1:Int),v13 = .int .i64 x13_1∧Aside0 (laws_texts.l0 kq l0 l1 (l0.length:Int) x13_1=some r)∧Aside0 (kq≤k)∧eY w w')
  case atStart=>exact ⟨(0),bF,H',⟨Nat.le_refl _⟩,dI⟩
  case round =>
   clear H'
   (try clear c1);(try clear c3);(try clear c3b0);(try clear c3b1);(try clear c3b2)
   obtain ⟨x13_1,rfl,HA,HK1,⟨m1,rfl⟩⟩:=hrel
   cases gk with
   | zero=>exact absurd HA.out (by simp[laws_texts.l0])
   | succ k1 =>
    have H:=HA.out;clear HA;simp only[laws_texts.l0] at H
    by_cases c4:x13_1 < (l0.length:Int)
    ·rw[if_pos c4] at H;have c4b0:=decide_eq_true c4;clear c4
     by_cases c5:0≤x13_1
     ·rw[if_pos c5] at H;have c5b0:=decide_eq_true c5;clear c5
      by_cases c6:x13_1 < (l0.length:Int)
      ·rw[if_pos c6] at H;have c6b0:=decide_eq_true c6;clear c6
       by_cases c7:x13_1 < (l1.length:Int)
       ·rw[if_pos c7] at H;have c7b0:=decide_eq_true c7;clear c7
        by_cases c8:(hE ByteArray.empty l0 x13_1).toList=(hE ByteArray.empty l1 x13_1).toList
        ·rw[if_pos c8] at H;have c8b0:=beq_iff_eq.mpr c8;have c8b1:=bne_eq_false_iff_eq.mpr c8;clear c8;have H':=bX H;clear H;have p101:0≤(x13_1:Int):=bW;have q101:x13_1 < (l0.length:Int):=bW;obtain ⟨ad101,e101,hx101_0⟩:=Kd.at_string HR0.out x13_1 p101 q101;cases e101;replace p101:=eq_true p101;replace q101:=eq_true q101;have p102:0≤(x13_1:Int):=bW;have q102:x13_1 < (l1.length:Int):=bW
         obtain ⟨ad102,e102,hx102_0⟩:=Kd.at_string HR1.out x13_1 p102 q102;cases e102;replace p102:=eq_true p102;replace q102:=eq_true q102;go_wp2
         repeat (go_quiet (fail);try go_wp2)
         go_roundg k1
         case measure=>have:=HK1.out;omega
         case rel=>exact ⟨(wrap64 (x13_1+1)),bF,H',⟨aW⟩,dI⟩
        rw[if_neg c8] at H;have c8b0:=beq_eq_false_iff_ne.mpr c8;have c8b1:=bne_iff_ne.mpr c8;obtain rfl:=Option.some.inj H;have p101:0≤(x13_1:Int):=bW;have q101:x13_1 < (l0.length:Int):=bW;obtain ⟨ad101,e101,hx101_0⟩:=Kd.at_string HR0.out x13_1 p101 q101;cases e101;replace p101:=eq_true p101;replace q101:=eq_true q101;have p102:0≤(x13_1:Int):=bW;have q102:x13_1 < (l1.length:Int):=bW
        obtain ⟨ad102,e102,hx102_0⟩:=Kd.at_string HR1.out x13_1 p102 q102;cases e102;replace p102:=eq_true p102;replace q102:=eq_true q102;go_wp2
        repeat (go_quiet (fail);try go_wp2)
        go_ret;exact ⟨bF,dI⟩
       rw[if_neg c7] at H;exact absurd H bK
      rw[if_neg c6] at H;exact absurd H bK
     rw[if_neg c5] at H;exact absurd H bK
    rw[if_neg c4] at H;have c4b0:=decide_eq_false c4;clear c4;obtain rfl:=Option.some.inj H;go_wp2
    repeat (go_quiet (fail);try go_wp2)
    go_ret;exact ⟨bF,dI⟩
 rw[if_neg c3] at H;have c3b0:=beq_eq_false_iff_ne.mpr c3;have c3b1:=bne_iff_ne.mpr c3;have c3b2:(l0.length==l1.length)=false:=by first | simpa using c3 | (simp at c3 ⊢;omega)
 obtain rfl:=Option.some.inj H;go_enter Tryz.func24,Tryz.ntmps24;go_wp2
 repeat (go_quiet (fail);try go_wp2)
 go_ret;exact ⟨bF,dI⟩
end Go.Proofs.YtlkoeeccebmjmaaGreatDoor.PTexts
namespace Go.Proofs.YtlkoeeccebmjmaaGreatDoor.PTexts
open Go.RowKit Go.ZW.PrintWords Go.ZW.PrintLast Go.ZW.PrintMore
attribute [local go_sem] kN kP lG lH jV jW kO kQ   -- for this text's walks alone
end Go.Proofs.YtlkoeeccebmjmaaGreatDoor.PTexts
namespace Go.Proofs.YtlkoeeccebmjmaaGreatDoor.Path
open Go.RowKit Go.WideMaps Go.ZW.PrintWords Go.Proofs.YtlkoeeccebmjmaaGreatDoor.Base Go.Proofs.YtlkoeeccebmjmaaGreatDoor.Lower Go.Proofs.YtlkoeeccebmjmaaGreatDoor.Total
def nT (t:Int):Int:=if 1≤t∧t≤5 then 1 else 0
def nL (x:WV) (t:Int):gG:={ pA { x with typ:=t } with section_:=pR x.path x.typ }
theorem aGr (x:WV) (t:Int):nL x t=sW { x with typ:=t } x.typ false:=rfl
theorem aFp {st:fM} {comp s:ByteArray} (K:oW st comp s) (t:Int):nF { hJ (eJ st) comp (norm s) with typ:=t }=nL (wOf st comp (pathOf s false)) t:=by
 obtain ⟨h1,h2,h3⟩:=aC0 K t false;rw[aGr,← h1,← h3]
theorem aHy {st:fM} {comp s:ByteArray} (K:oW st comp s):(hJ (eJ st) comp (norm s)).typ=(wOf st comp (pathOf s false)).typ:=(aC0 K 0 false).2.1
theorem aHx {st:fM} {comp s:ByteArray} (K:oW st comp s):nF (hJ (eJ st) comp s)=pA (wOf st comp (pathOf s true)):=by
 obtain ⟨h1,h2,h3⟩:=aHv K (wOf st comp (pathOf s true)).typ false;have e:{ hJ (eJ st) comp s with typ:=(wOf st comp (pathOf s true)).typ,trim:=false }=hJ (eJ st) comp s:=by rw[← h2,← h3]
 rw[e] at h1;rw[h1,aFj]
end Go.Proofs.YtlkoeeccebmjmaaGreatDoor.Path
