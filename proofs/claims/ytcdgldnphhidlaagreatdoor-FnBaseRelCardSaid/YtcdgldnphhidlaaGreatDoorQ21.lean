/- Texts that the law leans on: Spec5, Rel. Condition: as told at each. -/
import Derived.Test.YtcdgldnphhidlaaGreatDoorQa
import Derived.Test.YtcdgldnphhidlaaGreatDoorQ17
set_option linter.unusedVariables false
set_option linter.unusedSimpArgs false
set_option maxRecDepth 100000
set_option maxHeartbeats 16000000
namespace Go.Proofs.YtcdgldnphhidlaaGreatDoor.Path
open Go.RowKit Go.ZW.PrintWords Go.Proofs.YtcdgldnphhidlaaGreatDoor.Base Go.Proofs.YtcdgldnphhidlaaGreatDoor.Total Go.Proofs.YtcdgldnphhidlaaGreatDoor.Lower
def wV (st:eW) (comp T:ByteArray) (n:List UInt8) (r:RV) (e:Nat) (t:Int):WV :=
 { comp:=comp,path:=T,name:=lastB T,nEnd:=e,ids:=r.ids,unk:=r.unk,langs:=r.langs,ext:=r.ext,fmt:=if eR comp=true∧chooseB r.fmt r.fmt1=⟨#[]⟩∧eS n≠[]∧gX st r.ext=true then r.ext else chooseB r.fmt r.fmt1,kind:=chooseB r.kind r.kind1,lay:=chooseB r.lay r.lay1,lang:=(match r.langs with | []=>r.lang1 | l::_=>l),cust:=r.cust,dis:=r.dis,typ:=t }
theorem aD1 {b:Bool} {x:ByteArray} (h:(L x).head?≠some 47):nrm b x=x:=by
 unfold nrm;split
 ·refine L_inj ?_;rw[jP];unfold Lib.trimPrefix Lib.hasPrefix;rw[if_neg];intro hp;rw[List.isPrefixOf_iff_prefix] at hp;obtain ⟨t,ht⟩:=hp;exact h (by rw[← ht];rfl)
 rfl
theorem aHl {p:eH} {k0:Int×Int} (h:p.known=[k0]) (b:Bool):jV p true b=nrm p.trim p.s:=by
 unfold jV;rw[h];simp
theorem zY {p:eH} {k0 k1:Int×Int} {rest:List (Int×Int)} (h:p.known=k0::k1::rest) {b:Bool}:jV p true b=nrm p.trim (sub p.s 0 (mA p b)++sub p.s (k0.1 - 1) k0.2):=by
 unfold jV;rw[h];simp
theorem aKc (b:Bool):nrm b ⟨#[]⟩=⟨#[]⟩:=aD1 (by rw[show L (⟨#[]⟩:ByteArray)=[] from rfl];decide)
theorem aC2 {w:ByteArray} (h:iP (L w)=true):(⟨(Lib.trimSuffix (Lib.trimPrefix (L w) [95]) [95]).toArray⟩:ByteArray)=fP w:=by
 refine L_inj ?_;unfold iP at h;simp only[Bool.and_eq_true,decide_eq_true_eq,beq_iff_eq] at h;obtain ⟨h1,h2,h3⟩:=h;have hz:=eG w;rw[jP];unfold fP;rw[eQ]
 cases hl:L w with
 | nil=>rw[hl] at h1;simp at h1
 | cons a m =>
  rw[hl] at h1 h2 h3 hz;simp only[List.getElem?_cons_zero,Option.some.injEq] at h2;subst h2
  have e1:Lib.trimPrefix (95::m) [95]=m:=by
   unfold Lib.trimPrefix Lib.hasPrefix;rw[if_pos (by rw[List.isPrefixOf_iff_prefix];exact ⟨m,rfl⟩)];rfl
  have hm:m≠[]:=by rintro rfl;simp at h1
  have e2:m.getLast? = some 95:=by
   rw[List.getLast?_eq_getElem?]
   have:(95::m)[(95::m).length - 1]? = m[m.length - 1]?:=by
    rw[show (95::m).length - 1=(m.length - 1)+1 by have:=List.length_pos_iff.2 hm;simp;omega,List.getElem?_cons_succ]
   rw[← this];exact h3
  rw[e1];unfold Lib.trimSuffix Lib.hasSuffix;rw[if_pos]
  ·show m.take (m.length - 1)=((95::m).drop 1).take (w.size - 1 - 1);rw[show (95::m).drop 1=m from rfl];congr 1;rw[← hz];simp
  rw[List.isSuffixOf_iff_suffix];rw[List.getLast?_eq_some_iff] at e2;obtain ⟨t,ht⟩:=e2;exact ⟨t,ht.symm⟩
section
variable {st:eW} {T:ByteArray} {q:Nat} {n:List UInt8} {p:eH} {r:RV} {e sc:Nat} {t:Int} (P:PW st T q n p r e sc t)
include P
theorem PW.turn {p' : eH} (h:∃ ty tr,p' = { p with typ:=ty,trim:=tr }):PW st T q n p' r e sc t:=by
 obtain ⟨ty,tr,rfl⟩:=h
 have G:Grown p { p with typ:=ty,trim:=tr }:=⟨rfl,.inr (.inr ⟨rfl,rfl⟩)⟩
 refine ⟨P.split,P.head,P.h47,P.no,P.s,P.cHigh,P.cLow,P.sec,P.sc,P.nLow,P.nHigh,P.le,P.rend,?_⟩;rcases P.words with h | ⟨h1,h2,R,h3⟩
 ·exact .inl h
 exact .inr ⟨h1,h2,⟨R.ids,R.unk,R.ix.grown G,R.lay,R.dis,R.ext⟩,h3⟩
theorem PW.size:T.size=q+1+n.length:=by
 obtain ⟨pre,S,hp⟩:=P.split;rw[← eG,S.eq,List.length_append,hp]
theorem PW.ns (j:Nat) (h:q < j):(L T)[j]?≠some 47:=by
 obtain ⟨pre,S,hp⟩:=P.split;rw[S.eq,List.getElem?_append_right bA];exact S.no _
theorem PW.sl:slB (L T) T.size=some q:=zN P.h47 _ (by have:=P.size;omega) (fun j h _=>P.ns j h)
theorem PW.nameL:L (lastB T)=n:=by
 obtain ⟨pre,S,hp⟩:=P.split;unfold lastB;rw[jP,S.behind.1,← S.behind.2]
theorem PW.nameZ:(lastB T).size=n.length:=by rw[← eG,P.nameL]
theorem PW.text (a b:Nat):T.extract (q+1+a) (q+1+b)=(lastB T).extract a b:=by
 obtain ⟨pre,S,hp⟩:=P.split;exact tS S hp P.nameL a b
theorem PW.name:xY p=lastB T:=by
 obtain ⟨pre,S,hp⟩:=P.split;refine L_inj ?_;unfold xY;rw[P.cHigh,P.s,show (q:Int)+1=((q+1:Nat):Int) by omega,aK4,P.nameL,← hp,S.eq,List.drop_left]
theorem PW.nameNoId:nY p=(lastB T).extract 0 e:=by
 unfold nY;rw[P.nLow,P.nHigh,P.s,show (q:Int)+1=((q+1:Nat):Int) by omega,jE];exact P.text 0 e
theorem PW.dir:zH p=nrm p.trim (iI T):=by
 have h:=P.sl;unfold zH iI;rw[h]
 cases q with
 | zero=>rw[if_pos (by rw[P.cHigh];rfl)]
 | succ a =>
  rw[if_neg (by rw[P.cHigh];omega),P.cHigh,P.s,show ((a+1:Nat):Int)+1 - 1=((a+1:Nat):Int) by omega];rfl
theorem PW.low {a:Nat} (h:q=a+1):∃ j:Nat,slB (L T) (a+1)=some j∧p.cLow=(j:Int)+1∧j < a∧(L T)[j]? = some 47∧∀ i,j < i→i < a+1→(L T)[i]?≠some 47:=by
 subst h;obtain ⟨j,hj⟩:=zM P.head (a+1) bA;obtain ⟨h1,h2,h3⟩:=aEd _ hj;refine ⟨j,hj,?_,?_,h1,h3⟩
 ·rw[P.cLow,aF0,hj]
 by_cases c:j=a
 ·subst c;exact absurd ⟨h1,P.h47⟩ (P.no j)
 omega
theorem PW.low0 (h:q=0):p.cLow = -1:=by subst h;rw[P.cLow];rfl
theorem PW.lastOf {a j:Nat} (h:q=a+1) (h1:(L T)[j]? = some 47) (h2:j < a) (h3:∀ i,j < i→i < a+1→(L T)[i]?≠some 47):lastB (T.extract 0 (a+1))=T.extract (j+1) (a+1):=by
 have hlen:a+1 < (L T).length:=by rw[eG,P.size];omega
 refine L_inj ?_;have e1:L (T.extract 0 (a+1))=(L T).take (a+1):=by rw[eQ];rfl
 have S:nI ((L T).take (a+1)) ((L T).take (j+1)) (((L T).take (a+1)).drop (j+1)):=by
  refine ⟨?_,⟨(L T).take j,?_⟩,fun k=>?_⟩
  ·have:=(List.take_append_drop (j+1) ((L T).take (a+1))).symm;rwa[List.take_take,Nat.min_eq_left bA] at this
  ·obtain ⟨g1,g2⟩:=List.getElem?_eq_some_iff.1 h1;rw[List.take_succ_eq_append_getElem g1,g2]
  rw[List.getElem?_drop,List.getElem?_take];split
  ·exact h3 _ bA bA
  simp
 unfold lastB;rw[jP,e1,S.behind.1,eQ,List.drop_take];congr 2
 all_goals rw[List.length_take];omega
theorem PW.cont:nK p=jN T:=by
 have h:=P.sl;unfold nK jN;rw[h]
 cases q with
 | zero=>rw[if_pos (P.low0 rfl)];rfl
 | succ a =>
  obtain ⟨j,hj,h1,h2,h3,h4⟩:=P.low rfl;rw[if_neg bA,h1,P.cHigh,P.s,show ((a+1:Nat):Int)+1 - 1=((a+1:Nat):Int) by omega,show (j:Int)+1=((j+1:Nat):Int) by omega,jE];simp only[];rw[P.lastOf rfl h3 h2 h4];refine aD1 ?_;rw[eQ,List.head?_take,if_neg bA,List.head?_drop];exact h4 _ bA bA
theorem PW.contNe {a:Nat} (h:q=a+1):jN T≠⟨#[]⟩:=by
 subst h;obtain ⟨j,hj,h1,h2,h3,h4⟩:=P.low rfl;unfold jN;rw[P.sl];simp only[];rw[P.lastOf rfl h3 h2 h4];intro hh;have h9:=congrArg ByteArray.size hh;rw[← eG,eQ,List.length_take,List.length_drop,eG,P.size] at h9;have h0:(⟨#[]⟩:ByteArray).size=0:=rfl;omega
theorem PW.contDir {comp:ByteArray}:nC p=nrm p.trim (mZ (wV st comp T n r e p.typ)):=by
 unfold nC mZ;show _=nrm p.trim (if jZ p.typ=true∧jN T≠⟨#[]⟩ then (iI T).extract 0 ((slB (L (iI T)) (iI T).size).getD 0) else iI T)
 by_cases h0:q=0
 ·have hc:jN T=⟨#[]⟩:=by
   unfold jN;rw[P.sl,h0]
  rw[if_pos (.inl (P.low0 h0)),if_neg (fun h=>h.2 hc)];exact P.dir
 obtain ⟨a,ha⟩:∃ a,q=a+1:=⟨q - 1,aM⟩
 obtain ⟨j,hj,h1,h2,h3,h4⟩:=P.low ha;have hne:=P.contNe ha
 by_cases hb:3≤p.typ∧p.typ≤5
 ·rw[if_neg (by rintro (h | h) <;> first | omega | exact h hb),if_pos ⟨by unfold jZ;exact decide_eq_true hb,hne⟩,h1,P.s,show (j:Int)+1 - 1=(j:Int) by omega]
  have hd:iI T=T.extract 0 (a+1):=by
   unfold iI;rw[P.sl,ha]
  have hz:(T.extract 0 (a+1)).size=a+1:=by
   rw[← eG,eQ,List.length_take,List.length_drop,eG,P.size];omega
  have hs:slB (L (iI T)) (iI T).size=some j:=by
   rw[hd,hz];refine zN ?_ _ bA (fun i g1 g2=>?_)
   ·rw[eQ,List.drop_zero,List.getElem?_take,if_pos bA];exact h3
   rw[eQ,List.drop_zero,List.getElem?_take,if_pos bA];exact h4 i g1 bA
  rw[hs,Option.getD_some,hd];congr 1;refine L_inj ?_;rw[show (0:Int)=((0:Nat):Int) from rfl,jE,eQ,eQ,eQ,List.drop_zero,List.drop_zero,List.take_take];congr 1;omega
 rw[if_pos (.inr hb),if_neg (by rintro ⟨h,_⟩;unfold jZ at h;exact hb (of_decide_eq_true h))];exact P.dir
theorem PW.section_:qS p=rR T t:=by
 obtain ⟨pre,S,hp⟩:=P.split;obtain ⟨c1,c2⟩:=aEt S hp P.head;unfold qS rR;rw[c1]
 by_cases h0:q=0
 ·have a1:cntF (L T) q=0∨(cntF (L T) q=1∧t=3):=.inl (c2.2 h0)
  have a2:p.sec≤0:=by
   rw[P.sec,h0,if_neg (by omega:¬ 0 < 0)];split
   ·exact Int.le_refl _
   show (-1:Int)≤0;decide
  rw[if_pos a2,if_pos a1];rfl
 have hne:cntF (L T) q≠0:=fun h=>h0 (c2.1 h);obtain ⟨f,f1,f2,f3,f4,f5⟩:=aBg (l:=L T) q q (Nat.le_refl _) bA P.h47 (fun j a b c=>by omega)
 by_cases h3:t=3∧sc=2
 ·have a1:cntF (L T) q=0∨(cntF (L T) q=1∧t=3):=.inr ⟨by have:=P.sc;omega,h3.1⟩;have a2:p.sec≤0:=by rw[P.sec,if_pos h3];exact Int.le_refl _
  rw[if_pos a2,if_pos a1];rfl
 have hs:p.sec=(f:Int):=by rw[P.sec,if_neg h3,if_pos bA,f1]
 have a1:¬ (cntF (L T) q=0∨(cntF (L T) q=1∧t=3)):=by
  rintro (h | ⟨h,h'⟩)
  ·exact hne h
  exact h3 ⟨h',by have:=P.sc;omega⟩
 have a2:¬ (p.sec≤0):=by rw[hs];omega
 rw[if_neg a2,if_neg a1,hs,P.s,show (1:Int)=((1:Nat):Int) from rfl,jE]
 have htw:((L T).drop 1).takeWhile (fun c=>c != 47)=((L T).drop 1).take (f - 1):=by
  refine tD _ _ ?_ (fun j hj=>?_)
  ·rw[List.getElem?_drop,show 1+(f - 1)=f by omega];exact f4
  rw[List.getElem?_drop];exact f5 _ bA bA
 rw[htw];have e1:(⟨(((L T).drop 1).take (f - 1)).toArray⟩:ByteArray)=T.extract 1 f:=L_inj (by rw[jP,eQ]);rw[e1];refine aD1 ?_;rw[eQ,List.head?_take];split
 ·simp
 rw[List.head?_drop];intro h;exact P.no 0 ⟨P.head,h⟩
theorem PW.high:mA p false=((q+1+e:Nat):Int):=by
 unfold mA;simp only[Bool.false_eq_true,if_false];rw[P.nHigh,if_neg bA]
theorem PW.cat:T.extract 0 (T.size - (lastB T).size)++(lastB T).extract 0 e=T.extract 0 (q+1+e):=by
 refine L_inj ?_;have hz:=P.size;rw[nQ,P.nameZ,← P.text 0 e,eQ,eQ,eQ,hz,show q+1+n.length - n.length=q+1 by omega,List.drop_zero,Nat.sub_zero,Nat.sub_zero,Nat.add_zero,show q+1+e - (q+1)=e by omega];exact (List.take_add ..).symm
theorem PW.idsNe (h:p.known≠[]):r.ids≠[]:=by
 rcases P.words with ⟨h1,_⟩ | ⟨_,_,R,_⟩
 ·exact absurd h1 h
 rw[R.ids];unfold kB;simpa using h
theorem PW.none (h:p.known=[]):r=jT∧eS n=[]∧e=n.length:=by
 rcases P.words with ⟨_,h1,h2,h3,_⟩ | ⟨h1,_⟩
 ·exact ⟨h2,h1,h3⟩
 exact absurd h h1
theorem PW.point (h:p.known≠[]):∃ (c:Nat) (rest:List (Int×Int)),p.known=(((q+1+c+1:Nat):Int),(T.size:Int))::rest∧c < n.length∧r.ext=T.extract (q+1+c+1) T.size∧r.ext.size=n.length - c - 1∧(L T)[q+1+c]? = some 46∧e≤c:=by
 rcases P.words with ⟨h1,_⟩ | ⟨_,_,R,_,_,c,h1,h2,h46,hec⟩
 ·exact absurd h1 h
 cases hk:p.known with
 | nil=>exact absurd hk h
 | cons x rest =>
  rw[hk] at h1;injection h1 with h1
  subst h1
  have e1:r.ext=T.extract (q+1+c+1) T.size:=by
   rw[← R.ext];unfold fD;rw[if_neg bF,hk,P.s];exact jE _ _ _
  refine ⟨c,rest,rfl,h2,e1,?_,?_,hec⟩;rotate_left
  ·obtain ⟨pre,S,hp⟩:=P.split;rw[S.eq,List.getElem?_append_right bA,show q+1+c - pre.length=c by omega];exact h46
  rw[e1,← eG,eQ,List.length_take,List.length_drop,eG,P.size];omega
theorem PW.noId {comp:ByteArray} {ty:Int}:jV p false false=nrm p.trim (lB (wV st comp T n r e ty)):=by
 unfold jV lB sG;show _=nrm p.trim (if r.ids=[] then T else T.extract 0 (T.size - (lastB T).size)++(lastB T).extract 0 e)
 cases hk:p.known with
 | nil =>
  obtain ⟨hr,_⟩:=P.none hk;rw[if_pos (by rw[hr];rfl),P.s]
 | cons k0 rest =>
  rw[if_neg (P.idsNe (by rw[hk];simp)),P.cat];simp only[Bool.false_eq_true,false_and,if_false];rw[P.high,P.s];rfl
theorem PW.noExt {comp:ByteArray} {ty:Int}:pF p=lE (wV st comp T n r e ty) (lastB T):=by
 unfold pF lE;show _=if r.ids=[] then lastB T else (lastB T).extract 0 ((lastB T).size - r.ext.size - 1)
 cases hk:p.known with
 | nil =>
  obtain ⟨hr,_⟩:=P.none hk;rw[if_pos (by rw[hr];rfl)];exact P.name
 | cons k0 rest =>
  have hne:p.known≠[]:=by rw[hk];simp
  obtain ⟨c,rest',h1,h2,h3,h4,_⟩:=P.point hne;rw[hk] at h1;injection h1 with h1 _
  rw[if_neg (P.idsNe hne),h1,h4,P.nameZ,P.cHigh,P.s];show sub T ((q:Int)+1) (((q+1+c+1:Nat):Int) - 1)=_;rw[show (q:Int)+1=((q+1+0:Nat):Int) by omega,show ((q+1+c+1:Nat):Int) - 1=((q+1+c:Nat):Int) by omega,jE,P.text 0 c];congr 1;omega
theorem PW.before {comp:ByteArray} {ty:Int}:sI p=nrm p.trim (lE (wV st comp T n r e ty) T):=by
 unfold sI lE;show _=nrm p.trim (if r.ids=[] then T else T.extract 0 (T.size - r.ext.size - 1))
 cases hk:p.known with
 | nil =>
  obtain ⟨hr,_⟩:=P.none hk;rw[if_pos (by rw[hr];rfl),P.s]
 | cons k0 rest =>
  have hne:p.known≠[]:=by rw[hk];simp
  obtain ⟨c,rest',h1,h2,h3,h4,_⟩:=P.point hne;rw[hk] at h1;injection h1 with h1 _
  rw[if_neg (P.idsNe hne),h1,h4,P.s];show nrm p.trim (sub T 0 (((q+1+c+1:Nat):Int) - 1))=_;rw[show ((q+1+c+1:Nat):Int) - 1=((q+1+c:Nat):Int) by omega,show (0:Int)=((0:Nat):Int) from rfl,jE,P.size];congr 2;omega
theorem PW.withExt (h:p.known≠[]):∃ k0 rest,p.known=k0::rest∧sub p.s 0 (mA p false)++sub p.s (k0.1 - 1) k0.2=T.extract 0 (T.size - (lastB T).size)++(lastB T).extract 0 e++⟨#[46]⟩++r.ext:=by
 obtain ⟨c,rest,h1,h2,h3,h4,hdot,_⟩:=P.point h;refine ⟨_,rest,h1,?_⟩;rw[P.cat,P.high,P.s];show sub T 0 ((q+1+e:Nat):Int)++sub T (((q+1+c+1:Nat):Int) - 1) (T.size:Int)=_;rw[show ((q+1+c+1:Nat):Int) - 1=((q+1+c:Nat):Int) by omega,show (0:Int)=((0:Nat):Int) from rfl,jE,jE,h3];refine L_inj ?_;rw[nQ,nQ,nQ,List.append_assoc];congr 1;rw[eQ,eQ];have hlt:q+1+c < (L T).length:=by rw[eG,P.size];omega
 rw[List.take_of_length_le (by rw[List.length_drop,eG];omega),List.take_of_length_le (by rw[List.length_drop,eG];omega),List.drop_eq_getElem_cons hlt];rw[List.getElem?_eq_getElem hlt] at hdot;injection hdot with hdot
 rw[hdot];rfl
theorem PW.oneKnown:r.ids.length=p.known.length:=by
 rcases P.words with ⟨h1,_,h2,_⟩ | ⟨_,_,R,_⟩
 ·rw[h1,h2];rfl
 rw[R.ids];unfold kB;rw[List.length_map]
theorem PW.pathNe (x:ByteArray) (hx:∃ k,L x=(L T).take k) (b:Bool):L (nrm b x)=[47]→b=false∧L x=[47]:=by
 intro h;obtain ⟨k,hk⟩:=hx
 cases b with
 | false=>exact ⟨rfl,h⟩
 | true =>
  exfalso;unfold nrm at h;rw[if_pos rfl,jP,hk] at h
  cases k with
  | zero=>rw[List.take_zero] at h;cases h
  | succ k =>
   have h0:=P.head
   cases hl:L T with
   | nil=>rw[hl] at h0;cases h0
   | cons a m =>
    rw[hl] at h0 h;simp only[List.getElem?_cons_zero,Option.some.injEq] at h0;subst h0;rw[List.take_succ_cons] at h;unfold Lib.trimPrefix Lib.hasPrefix at h;rw[if_pos (by rw[List.isPrefixOf_iff_prefix];exact ⟨_,rfl⟩)] at h;have h2:(m.take k)=[47]:=h
    have h3:m[0]? = some 47:=by
     have:=congrArg (fun l=>l[0]?) h2;simp only[List.getElem?_cons_zero] at this;rw[List.getElem?_take] at this;split at this
     ·exact this
     cases this
    exact P.no 0 ⟨by rw[hl];rfl,by rw[hl];exact h3⟩
theorem PW.base {comp:ByteArray}:vB p=nrm p.trim (mG (wV st comp T n r e p.typ)):=by
 unfold vB mG;show (if _ then _ else _)=nrm p.trim (if r.ids=[] then (if T=⟨#[47]⟩∧2≤p.typ∧p.typ≤5 then ⟨#[]⟩ else T) else if jZ p.typ=true then (if iI T=⟨#[47]⟩ then ⟨#[]⟩ else iI T) else if p.typ=2 then lB (wV st comp T n r e p.typ) else if r.ids.length=1 then T else lB (wV st comp T n r e p.typ)++⟨#[46]⟩++r.ext)
 have hone:∀ x:ByteArray,x=⟨#[47]⟩↔L x=[47]:=fun x=>⟨fun h=>by rw[h];rfl,fun h=>L_inj (by rw[h];rfl)⟩
 have empt:(ByteArray.empty:ByteArray)=nrm p.trim ⟨#[]⟩:=by rw[aKc];rfl
 have take:∀ (x:ByteArray) (k:Nat),x=T.extract 0 k→∃ k,L x=(L T).take k:=by
  rintro x k rfl;exact ⟨k,by rw[eQ];rfl⟩
 have whole:∃ k,L T=(L T).take k:=⟨(L T).length,(List.take_of_length_le (Nat.le_refl _)).symm⟩
 -- whatever the base is: where it is not / alone,or it is no page
 have key:∀ (B0 x y:ByteArray),B0=nrm p.trim x→(∃ k,L x=(L T).take k)→(2≤p.typ∧p.typ≤5)→y=(if L x=[47] then ⟨#[]⟩ else x)→(if B0.toList=[47]∧2≤p.typ∧p.typ≤5 then ByteArray.empty else B0)=nrm p.trim y:=by
  rintro B0 x y rfl hx hc rfl;rw[L_toList]
  by_cases h:L x=[47]
  ·rw[if_pos h,← empt]
   by_cases h2:L (nrm p.trim x)=[47]
   ·rw[if_pos ⟨h2,hc⟩]
   rw[if_neg (fun hh=>h2 hh.1)]
   cases hb:p.trim with
   | false=>rw[hb] at h2;exact absurd h h2
   | true =>
    refine L_inj ?_;unfold nrm;rw[if_pos rfl,jP,h];rfl
  rw[if_neg h,if_neg (fun hh=>h (P.pathNe x hx _ hh.1).2)]
 cases hk:p.known with
 | nil =>
  obtain ⟨hr,_⟩:=P.none hk
  have hb:∀ a b,jV p a b=nrm p.trim T:=by
   intro a b;unfold jV;rw[hk,P.s]
  have a1:r.ids=[]:=by rw[hr];rfl
  rw[if_pos a1,hb]
  by_cases hc:2≤p.typ∧p.typ≤5
  ·refine key _ T _ rfl whole hc ?_
   by_cases h:L T=[47]
   ·rw[if_pos h,if_pos ⟨(hone T).2 h,hc⟩]
   rw[if_neg h,if_neg (fun hh=>h ((hone T).1 hh.1))]
  rw[if_neg (fun h=>hc h.2:¬ ((nrm p.trim T).toList=[47]∧2≤p.typ∧p.typ≤5)),if_neg (fun h=>hc h.2:¬ (T=⟨#[47]⟩∧2≤p.typ∧p.typ≤5))]
 | cons k0 rest =>
  have hne:p.known≠[]:=by rw[hk];simp
  have a1:¬ (r.ids=[]):=P.idsNe hne;rw[if_neg a1]
  by_cases hc:2≤p.typ∧p.typ≤5
  ·have e1:(!decide (2≤p.typ∧p.typ≤5))=false:=by rw[decide_eq_true hc];rfl
   rw[e1]
   by_cases hbn:3≤p.typ∧p.typ≤5
   ·have e2:decide (3≤p.typ∧p.typ≤5)=true:=decide_eq_true hbn;rw[e2,if_pos (show jZ p.typ=true from e2)]
    have hb:jV p false true=nrm p.trim (T.extract 0 (if q=0 then 1 else q)):=by
     unfold jV;rw[hk];simp only[Bool.false_eq_true,false_and,if_false];unfold mA;simp only[if_true];rw[P.cHigh,P.s,show (q:Int)+1 - 1=(q:Int) by omega]
     by_cases h0:q=0
     ·rw[if_pos bA,if_pos h0];rfl
     rw[if_neg bA,if_neg h0];rfl
    refine key _ (T.extract 0 (if q=0 then 1 else q)) _ hb (take _ _ rfl) hc ?_
    have hd:iI T=if q=0 then ⟨#[47]⟩ else T.extract 0 q:=by
     unfold iI;rw[P.sl]
     cases q with
     | zero=>rfl
     | succ a=>rfl
    by_cases h0:q=0
    ·rw[if_pos h0] at hd;rw[if_pos h0,hd,if_pos rfl,if_pos];have hlt:0 < (L T).length:=by rw[eG,P.size];omega
     rw[eQ,List.drop_zero];have hh:=P.head
     cases hl:L T with
     | nil=>rw[hl] at hlt;simp at hlt
     | cons a m =>
      rw[hl] at hh;simp only[List.getElem?_cons_zero,Option.some.injEq] at hh;rw[hh];rfl
    rw[if_neg h0] at hd;rw[if_neg h0,hd]
    have hne2:L (T.extract 0 q)≠[47]:=by
     intro h
     obtain ⟨a,ha⟩:∃ a,q=a+1:=⟨q - 1,aM⟩
     obtain ⟨j,_,_,h2,_⟩:=P.low ha;have:=congrArg List.length h;rw[eQ,List.length_take,List.length_drop,eG,P.size] at this
     simp at this
     omega
    rw[if_neg hne2,if_neg (fun h=>hne2 ((hone _).1 h))]
   have e2:decide (3≤p.typ∧p.typ≤5)=false:=decide_eq_false hbn;rw[e2,if_neg (show ¬ (jZ p.typ=true) by unfold jZ;rw[e2];decide),if_pos (by omega:p.typ=2)]
   have hw:lB (wV st comp T n r e p.typ)=T.extract 0 (q+1+e):=by
    unfold lB;show (if r.ids=[] then T else sG _++_)=_;rw[if_neg (P.idsNe hne)];exact P.cat
   refine key _ (T.extract 0 (q+1+e)) _ ?_ (take _ _ rfl) hc ?_
   ·rw[P.noId (comp:=comp) (ty:=p.typ),hw]
   have hpos:0 < e:=by
    rcases P.words with ⟨h1,_⟩ | ⟨_,_,_,h,_⟩
    ·exact absurd h1 hne
    exact h
   rw[hw,if_neg];intro h;have:=congrArg List.length h;rw[eQ,List.length_take,List.length_drop,eG,P.size] at this;have hle:=P.le
   simp at this
   omega
  have e1:(!decide (2≤p.typ∧p.typ≤5))=true:=by rw[decide_eq_false hc];rfl
  have e2:decide (3≤p.typ∧p.typ≤5)=false:=decide_eq_false (fun h=>hc ⟨aM,h.2⟩);have b1:¬ ((jV p (!decide (2≤p.typ∧p.typ≤5)) (decide (3≤p.typ∧p.typ≤5))).toList=[47]∧2≤p.typ∧p.typ≤5):=fun h=>hc h.2;have b2:¬ (jZ p.typ=true):=by unfold jZ;rw[e2];decide
  have b3:¬ (p.typ=2):=fun h=>hc bA;rw[if_neg b1,if_neg b2,if_neg b3,e1,e2,P.oneKnown];obtain ⟨k0',rest',hk',hw⟩:=P.withExt hne;rw[hk] at hk';injection hk' with h1 h2
  subst h1 h2
  cases rest with
  | nil =>
   have b4:p.known.length=1:=by rw[hk];rfl
   rw[if_pos b4,aHl hk,P.s]
  | cons k1 rest =>
   have b4:¬ (p.known.length=1):=by rw[hk];simp
   rw[if_neg b4,zY hk,hw];unfold lB;show _=nrm p.trim ((if r.ids=[] then T else sG _++_)++_++_);rw[if_neg a1];rfl
theorem PW.langIs:nL p=(match r.langs with | []=>r.lang1 | l::_=>l)∧((p.plangs≠[]∨mX p p.lang≠-1)↔(match r.langs with | []=>r.lang1 | l::_=>l)≠⟨#[]⟩)∧((p.plangs≠[]∨mX p p.lang≠-1)→2≤p.known.length):=by
 unfold nL;rcases P.words with ⟨h1,_,hr,_,h2,_,_,_,_,_,_,_,h3,_⟩ | ⟨h1,_,R,_⟩
 ·rw[h3,h2,hr];refine ⟨rfl,⟨?_,fun h=>absurd rfl h⟩,?_⟩
  ·rintro (h | h)
   ·exact absurd rfl h
   exact absurd (by unfold mX;rw[if_pos (.inl bF)]) h
  rintro (h | h)
  ·exact absurd rfl h
  exact absurd (by unfold mX;rw[if_pos (.inl bF)]) h
 have I:=R.ix
 cases hp:p.plangs with
 | nil =>
  have hl:r.langs=[]:=by rw[I.langs,hp];rfl
  rw[hl];refine ⟨I.lang.str,?_,?_⟩
  ·simp only[ne_eq,not_true_eq_false,false_or];rcases I.lang with ⟨h2,h3⟩ | ⟨h2,h3⟩
   ·rw[h2,h3];exact ⟨fun h=>absurd (by unfold mX;rw[if_pos (.inl bF)]) h,fun h=>absurd rfl h⟩
   obtain ⟨g0,_,x,g1,_⟩:=h2;have:=(List.getElem?_eq_some_iff.1 g1).1;refine ⟨fun _=>h3,fun _=>?_⟩;unfold mX;rw[if_neg bA];omega
  rintro (h | h)
  ·exact absurd rfl h
  unfold mX at h;split at h
  ·exact absurd rfl h
  rename_i hh
  have:=I.pos.1;omega
 | cons i rest =>
  have hl:r.langs=fD p i::rest.map (fD p):=by rw[I.langs,hp];rfl
  rw[hl];refine ⟨rfl,⟨fun _=>I.lne _ (by rw[hl];exact List.mem_cons_self ..),fun _=>.inl bI⟩,fun _=>?_⟩;obtain ⟨g0,_,x,g1,_⟩:=I.pl i (by rw[hp];exact List.mem_cons_self ..);have:=(List.getElem?_eq_some_iff.1 g1).1;have:=I.pos.2 i (by rw[hp];exact List.mem_cons_self ..);omega
theorem PW.noLang {comp:ByteArray} {ty:Int}:qA p=nrm p.trim (mQ (wV st comp T n r e ty)):=by
 obtain ⟨h1,h2,h3⟩:=P.langIs;unfold qA mQ;show _=nrm p.trim (if (match r.langs with | []=>r.lang1 | l::_=>l)=⟨#[]⟩ then T else T.extract 0 (T.size - (lastB T).size)++(lastB T).extract 0 e++⟨#[46]⟩++r.ext)
 by_cases c:p.plangs≠[]∨mX p p.lang≠-1
 ·have hlen:=h3 c;have hne:p.known≠[]:=by intro h;rw[h] at hlen;simp at hlen
  obtain ⟨k0,rest,hk,hw⟩:=P.withExt hne;have a1:¬ ((match r.langs with | []=>r.lang1 | l::_=>l)=⟨#[]⟩):=h2.1 c;rw[if_pos c,if_neg a1,← hw]
  cases rest with
  | nil=>rw[hk] at hlen;simp at hlen
  | cons k1 rest=>exact zY hk
 rw[if_neg c,if_pos (by
  by_cases h:(match r.langs with | []=>r.lang1 | l::_=>l)=⟨#[]⟩
  ·exact h
  exact absurd (h2.2 h) c),P.s]
theorem PW.extIs:fD p 0=r.ext:=by
 rcases P.words with ⟨h1,_,hr,_⟩ | ⟨_,_,R,_⟩
 ·rw[hr];unfold fD;rw[if_neg bF,h1];rfl
 exact R.ext
theorem PW.fmtIs {comp:ByteArray} {ty:Int} (hc:p.comp=comp):aDw p=(wV st comp T n r e ty).fmt:=by
 show _=if eR comp=true∧chooseB r.fmt r.fmt1=⟨#[]⟩∧eS n≠[]∧gX st r.ext=true then r.ext else chooseB r.fmt r.fmt1
 have hx:=P.extIs;unfold aDw chooseB;rcases P.words with ⟨h1,h2,hr,_,_,h3,_,_,h4,_⟩ | ⟨h1,h2,R,_⟩
 ·rw[if_pos h4,h3,hr,if_neg (fun h=>h.2.2.1 h2)];rfl
 rcases R.ix.pfmt with ⟨a1,a2⟩ | ⟨a1,a2⟩
 ·rw[if_pos a1,a2,if_pos rfl];rcases R.ix.fmt with ⟨b1,b2⟩ | ⟨b1,b2⟩
  ·rw[b1,b2];unfold fmt0;rw[hc]
   by_cases c:(eR comp && gX st r.ext)=true
   ·rw[if_pos c,hx];rw[Bool.and_eq_true] at c;rw[if_pos ⟨c.1,rfl,h2,c.2⟩]
   rw[if_neg c,if_neg (fun h=>c (by rw[Bool.and_eq_true];exact ⟨h.1,h.2.2.2⟩))];rfl
  rw[b2.str,if_neg (fun h=>b1 h.2.1)]
 rw[if_neg (by have:=a1.1;omega),a1.str,if_neg a2,if_neg (fun h=>a2 h.2.1)]
theorem PW.kindIs:aAi p=chooseB r.kind r.kind1:=by
 unfold aAi chooseB;rcases P.words with ⟨h1,h2,hr,_,_,_,h3,_,_,h4,_⟩ | ⟨h1,h2,R,_⟩
 ·rw[if_pos h4,h3,hr];rfl
 rcases R.ix.pkind with ⟨a1,a2⟩ | ⟨a1,a2⟩
 ·rw[if_pos a1,a2,if_pos rfl];exact R.ix.kind.str
 rw[if_neg (by have:=a1.1;omega),a1.str,if_neg a2]
theorem PW.layIs:uH p=chooseB r.lay r.lay1:=by
 unfold uH chooseB;rcases P.words with ⟨h1,h2,hr,_,_,_,_,_,_,_,h4,h3,_⟩ | ⟨h1,h2,R,_⟩
 ·rw[if_pos h4,h3,hr];rfl
 rcases R.ix.play with ⟨a1,a2⟩ | ⟨a1,a2⟩
 ·rw[if_pos a1,a2,if_pos rfl];exact R.lay
 rw[if_neg (by have:=a1.1;omega),a1.str,if_neg a2]
theorem PW.custIs:qQ p=r.cust:=by
 unfold qQ;have h0:(⟨(Lib.trimSuffix (Lib.trimPrefix (L (fD p (-1))) [95]) [95]).toArray⟩:ByteArray)=⟨#[]⟩:=rfl;rcases P.words with ⟨h1,h2,hr,_,_,_,_,h3,_⟩ | ⟨h1,h2,R,_⟩
 ·rw[h3,hr];rfl
 rcases R.ix.cust with ⟨a1,a2⟩ | ⟨w,a1,a2,a3⟩
 ·rw[a1,a2];rfl
 rw[a1.str,a3];exact aC2 a2
theorem PW.lists:kB p=r.ids∧lK p=r.unk∧jW p=r.langs∧p.dis=r.dis:=by
 rcases P.words with ⟨h1,h2,hr,_,_,_,_,_,_,_,_,_,h3,h4,h5⟩ | ⟨h1,h2,R,_⟩
 ·unfold kB lK jW;rw[h1,h3,h4,h5,hr];exact ⟨rfl,rfl,rfl,rfl⟩
 exact ⟨R.ids.symm,R.unk.symm,R.ix.langs.symm,R.dis⟩
end
def xI (w:WV) (t:Int) (b:Bool):gK :=
 { tQ w with
  section_:=rR w.path t
  containerDir:=nrm b (mZ w)
  dir:=nrm b (iI w.path)
  path:=nrm b w.path
  pathNoLang:=nrm b (mQ w)
  pathNoId:=nrm b (lB w)
  pathBefore:=nrm b (lE w w.path)
  base:=nrm b (mG w)
  idBase:=nrm b (if eR w.comp=true then w.path else mG w) }
theorem aG5 (w:WV):xI w w.typ false=tQ w:=rfl
theorem aKk {st:eW} {T:ByteArray} {q:Nat} {n:List UInt8} {p:eH} {r:RV} {e sc:Nat} {t:Int} (P:PW st T q n p r e sc t) (comp:ByteArray) (hc:p.comp=comp) :
 gL p=xI (wV st comp T n r e p.typ) t p.trim:=by
 obtain ⟨l1,l2,l3,l4⟩:=P.lists
 have hb:sJ p=nrm p.trim (if eR comp=true then T else mG (wV st comp T n r e p.typ)):=by
  unfold sJ eR;rw[hc]
  by_cases c:comp.toList=[108,97,121,111,117,116,115]
  ·rw[if_pos c,if_pos (beq_iff_eq.2 c),P.s]
  rw[if_neg c,if_neg (fun h=>c (beq_iff_eq.1 h))];exact P.base
 have hbn:rI p=if jZ p.typ=true then jN T else (lastB T).extract 0 e:=by
  unfold rI jZ
  by_cases c:3≤p.typ∧p.typ≤5
  ·rw[if_pos c,if_pos (decide_eq_true c)];exact P.cont
  rw[if_neg c,if_neg (by rw[decide_eq_false c];decide)];exact P.nameNoId
 unfold gL;rw[hc,P.cont,P.contDir (comp:=comp),P.section_,P.name,P.noExt (comp:=comp) (ty:=p.typ),hbn,P.nameNoId,P.dir,P.s,P.noLang (comp:=comp) (ty:=p.typ),P.noId (comp:=comp) (ty:=p.typ),P.before (comp:=comp) (ty:=p.typ),P.base (comp:=comp),hb,P.extIs,P.fmtIs (ty:=p.typ) hc,P.kindIs,P.layIs,P.langIs.1,P.custIs,l1,l2,l3,l4];rfl
theorem aK0 {st:eW} {comp T:ByteArray} {q:Nat} {n:List UInt8} {p:eH} {e sc:Nat} {t:Int}
 (P:PW st T q n p (fW st comp (fC (L T) fV) (lastB T) (eS n)) e sc t):wOf st comp T=wV st comp T n (fW st comp (fC (L T) fV) (lastB T) (eS n)) e (aHd st comp T n (fW st comp (fC (L T) fV) (lastB T) (eS n)) e):=by
 have hn:=P.nameL
 have he:(kW (fW st comp (fC (L T) fV) (lastB T) (eS n)).marks ((lastB T).size:Int)).toNat=e:=by
  rw[P.nameZ,P.rend];exact Int.toNat_natCast e
 have ht:L ((lastB T).extract 0 e)=n.take e:=by rw[eQ,hn];rfl
 unfold wOf wV aHd;simp only[];rw[hn,he,ht];rfl
theorem aIh {st:eW} (SE:rV st) (comp s:ByteArray) (K:oQ (eR comp) ((gQ (L s)).drop (behind (gQ (L s))))) (hno:∀ i:Nat,¬ ((L s)[i]? = some 47∧(L s)[i+1]? = some 47)) (t:Int) (b:Bool) :
 gL { gB (eJ st) comp s with typ:=t,trim:=b }=xI { wOf st comp ⟨(gQ (L s)).toArray⟩ with typ:=t } (wOf st comp ⟨(gQ (L s)).toArray⟩).typ b∧(gB (eJ st) comp s).typ=(wOf st comp ⟨(gQ (L s)).toArray⟩).typ∧(gB (eJ st) comp s).trim=false:=by
 obtain ⟨T,q,n,e,sc,hT,hn,P,ht,hc,htr⟩:=aJu SE comp s K hno;have hw:=aK0 P;have P2:=P.turn (p':={ gB (eJ st) comp s with typ:=t,trim:=b }) ⟨t,b,rfl⟩;have h:=aKk P2 comp hc;rw[← hT,hw];exact ⟨h,ht,htr⟩
theorem aG6 {st:eW} {comp s:ByteArray} (K:lF st comp s):rV st where
 lang:=by
  intro w h hw;subst hw
  have key:∀ l:List ByteArray,(∀ x∈l,lR x)→listed l ⟨#[]⟩=true→False:=by
   intro l hl h;unfold listed at h;rw[List.any_eq_true] at h;obtain ⟨x,hx,he⟩:=h;rw[beq_iff_eq,L_toList,L_toList] at he;have h1:=(hl x hx).pos;rw[L_inj he] at h1;exact absurd h1 bF
  rw[Bool.or_eq_true] at h;rcases h with h | h
  ·exact key _ K.site.langs h
  exact key _ K.site.dis h
 fmt:=by
  intro w h hw;subst hw;unfold gX at h;rw[List.any_eq_true] at h;obtain ⟨x,hx,he⟩:=h;rw[beq_iff_eq,L_toList,L_toList] at he;have h1:=(K.site.fmts (mkF x) (List.mem_map_of_mem hx)).1.pos;have h2:(mkF x).f0=⟨#[]⟩:=L_inj he;rw[h2] at h1;exact absurd h1 bF
theorem aEi {st:eW} {comp s:ByteArray} (K:lF st comp s) (t:Int) (b:Bool) :
 gL { gB (eJ st) comp (norm s) with typ:=t,trim:=b }=xI { wOf st comp (pathOf s false) with typ:=t } (wOf st comp (pathOf s false)).typ b∧(gB (eJ st) comp (norm s)).typ=(wOf st comp (pathOf s false)).typ∧(gB (eJ st) comp (norm s)).trim=false:=by
 have W:=K.low;unfold pathOf at W;simp only[Bool.false_eq_true,if_false] at W;rw[jP] at W;exact aIh (aG6 K) comp (norm s) W (xC K.slashes) t b
open Go.RowKit Go.WideMaps Go.ZW.PrintWords Go.Proofs.YtcdgldnphhidlaaGreatDoor.Base Go.Proofs.YtcdgldnphhidlaaGreatDoor.Lower Go.Proofs.YtcdgldnphhidlaaGreatDoor.Total
def aLp (b:ByteArray):ByteArray:=if Lib.hasSuffix (L b) [47]=true then b else b++⟨#[47]⟩
def aLk (b:ByteArray):ByteArray:=if b=⟨#[]⟩∨(L b)[b.size - 1]?≠some 47 then b++⟨#[47]⟩ else b
theorem aL7 (b:ByteArray):aLp b=aLk b:=by
 unfold aLp aLk
 have key:Lib.hasSuffix (L b) [47]=true↔¬ (b=⟨#[]⟩∨(L b)[b.size - 1]?≠some 47):=by
  unfold Lib.hasSuffix;rw[List.isSuffixOf_iff_suffix];have hz:(L b).length=b.size:=eG b;constructor
  ·rintro ⟨r,hr⟩ h;rcases h with h | h
   ·rw[h] at hr;have:=congrArg List.length hr
    simp[L] at this
   apply h;have hl:b.size=r.length+1:=by rw[← hz,← hr];simp
   rw[← hr,hl]
   simp
  intro h;have h1:(L b)[b.size - 1]? = some 47:=Classical.byContradiction fun hc=>h (.inr hc)
  have hlt:b.size - 1 < (L b).length:=by
   have:=List.getElem?_eq_some_iff.1 h1;exact this.1
  refine ⟨(L b).take (b.size - 1),?_⟩;have h2:=List.take_append_drop (b.size - 1) (L b)
  have h3:(L b).drop (b.size - 1)=[47]:=by
   rw[List.drop_eq_getElem_cons hlt]
   have e1:(L b)[b.size - 1]=47:=by
    have:=List.getElem?_eq_some_iff.1 h1;exact this.2
   rw[e1,List.drop_eq_nil_of_le bA]
  rw[h3] at h2;exact h2
 by_cases c:b=⟨#[]⟩∨(L b)[b.size - 1]?≠some 47
 ·rw[if_pos c,if_neg (fun h=>key.1 h c)]
 rw[if_neg c,if_pos (key.2 c)]
def aLl (p b:ByteArray):ByteArray:=⟨(Lib.trimPrefix (L p) (L (aLp b))).toArray⟩
def aLi (p b:ByteArray):ByteArray:=if (aLk b).size≤p.size∧p.extract 0 (aLk b).size=aLk b then p.extract (aLk b).size p.size else p
theorem aMa (p b:ByteArray):aLl p b=aLi p b:=by
 unfold aLl aLi;rw[aL7]
 obtain ⟨a,ha⟩:∃ a,aLk b=a:=⟨_,rfl⟩
 rw[ha];have hp:(L p).length=p.size:=eG p;have hz:(L a).length=a.size:=eG a;refine L_inj ?_;rw[jP];unfold Lib.trimPrefix Lib.hasPrefix
 by_cases c:(L a).isPrefixOf (L p)=true
 ·have c1:=List.isPrefixOf_iff_prefix.1 c;obtain ⟨r,hr⟩:=c1;have hle:a.size≤p.size:=by rw[← hz,← hp,← hr];simp
  have he:p.extract 0 a.size=a:=by
   refine L_inj ?_;rw[eQ,List.drop_zero,Nat.sub_zero,← hz,← hr,List.take_left]
  rw[if_pos c,if_pos ⟨hle,he⟩,eQ,hz,List.take_of_length_le (by rw[List.length_drop];omega)]
 rw[if_neg c,if_neg ?_];rintro ⟨h1,h2⟩;apply c;rw[List.isPrefixOf_iff_prefix];have h3:=congrArg L h2;rw[eQ,List.drop_zero,Nat.sub_zero] at h3;rw[← h3];exact List.take_prefix _ _
end Go.Proofs.YtcdgldnphhidlaaGreatDoor.Path
