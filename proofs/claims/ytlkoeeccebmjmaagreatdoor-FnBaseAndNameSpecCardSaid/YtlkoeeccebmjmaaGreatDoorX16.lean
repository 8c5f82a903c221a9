/- Texts that the law leans on: Spec, Spec2, Spec3, Slashes. Condition: as told at each. -/
import Derived.Test.YtlkoeeccebmjmaaGreatDoorXa
import Derived.Test.YtlkoeeccebmjmaaGreatDoorX15
set_option linter.unusedVariables false
set_option linter.unusedSimpArgs false
set_option maxRecDepth 100000
set_option maxHeartbeats 16000000
namespace Go.Proofs.YtlkoeeccebmjmaaGreatDoor.Path
open Go.RowKit Go.ZW.PrintWords Go.Proofs.YtlkoeeccebmjmaaGreatDoor.Base Go.Proofs.YtlkoeeccebmjmaaGreatDoor.Total Go.Proofs.YtlkoeeccebmjmaaGreatDoor.Lower
structure RV where
 ids:List ByteArray
 unk:List ByteArray
 langs:List ByteArray
 ext:ByteArray
 fmt:ByteArray
 kind:ByteArray
 lay:ByteArray
 cust:ByteArray
 dis:Bool
 marks:List Int
 lang1:ByteArray
 fmt1:ByteArray
 kind1:ByteArray
 lay1:ByteArray
 hasLang:Bool
 hasKind:Bool
 baseof:Bool
 layAt:Int
def kV:RV:=⟨[],[],[],⟨#[]⟩,⟨#[]⟩,⟨#[]⟩,⟨#[]⟩,⟨#[]⟩,false,[],⟨#[]⟩,⟨#[]⟩,⟨#[]⟩,⟨#[]⟩,false,false,false,-1⟩
def RV.id (r:RV) (t:ByteArray) (k:Int):RV:={ r with ids:=r.ids++[t],marks:=r.marks++[k] }
def gT (x pre:ByteArray):Bool:=(L pre).isPrefixOf (L (low x))
def gV (x pre:ByteArray):ByteArray:=x.extract pre.size x.size
def gX (st:fF) (n:ByteArray):Bool:=st.fmts.any fun x=>x.1.toList==n.toList
def jP (st:fF) (n e:ByteArray):Bool:=st.fmts.any fun x=>x.1.toList==n.toList && x.2.toList==e.toList
def vX:List UInt8:=[98,97,115,101,111,102]
def fP (word:ByteArray):ByteArray:=word.extract 1 (word.size - 1)
def jJ (st:fF) (lay:Bool) (r:RV) (word x:ByteArray) (k:Int):RV :=
 if gT x fH=true∧(listed st.langs (low (gV x fH)) || listed st.dis (low (gV x fH)))=true then
  { r.id (gV x fH) k with langs:=r.langs++[gV x fH],dis:=r.dis || !listed st.langs (low (gV x fH)) }
 else if lay=true∧gT x gK=true∧gX st (low (gV x gK))=true then { r.id (gV x gK) k with fmt:=gV x gK }
 else if lay=true∧gT x gA=true∧isKind (gV x gA)=true then { r.id (gV x gA) k with kind:=gV x gA }
 else if lay=true∧gT x fQ=true then { r.id (gV x fQ) k with lay:=gV x fQ }
 else { r.id word k with cust:=x }
def jK (st:fF) (comp:ByteArray) (sc:Bool) (pts:Nat) (r:RV) (word:ByteArray) (k:Int):RV :=
 if ((jS comp || eO comp)=true∧2≤pts∧r.hasLang=false)∧(listed st.langs word || listed st.dis word)=true then
  { r.id word k with lang1:=word,hasLang:=true,dis:=r.dis || !listed st.langs word }
 else if eO comp=true∧jP st word r.ext=true then { r.id word k with fmt1:=word }
 else if eO comp=true∧r.hasKind=false∧isKind word=true then { r.id word k with kind1:=word,hasKind:=true }
 else if word.toList=vX then { r.id word k with baseof:=true }
 else if eO comp=true∧¬ (sc=true∧k < 0) then
  if r.layAt < 0 then { r.id word k with layAt:=r.ids.length,lay1:=word }
  else { r with unk:=r.unk++[r.lay1],ids:=r.ids.set r.layAt.toNat word,marks:=r.marks++[k],lay1:=word }
 else { r with unk:=r.unk++[word] }
def oR (r:RV) (word:ByteArray) (k:Int):RV:={ r.id word k with ext:=word }
def lS (st:fF) (comp:ByteArray) (sc:Bool) (pts:Nat) (r:RV) (word:ByteArray) (k:Int):RV :=
 if iE (L word)=true then jJ st (eO comp) r word (fP word) k else jK st comp sc pts r word k
def mC (st:fF) (comp:ByteArray) (sc:Bool) (pts:Nat) (r:RV) (word:ByteArray) (k:Int):RV :=
 if r.ids=[] then oR r word k else lS st comp sc pts r word k
def kB (marks:List Int) (N:Int):Int:=marks.foldl (fun e m=>if 0≤m∧m < e then m else e) N
def Ix (p:eE) (i:Int) (t:ByteArray):Prop:=0≤i∧i≠p.lay∧∃ x,p.known[i.toNat]? = some x∧sub p.s x.1 x.2=t
def Ox (p:eE) (i:Int) (t:ByteArray):Prop:=(i = -1∧t=⟨#[]⟩)∨(Ix p i t∧t≠⟨#[]⟩)
theorem Ix.str {p:eE} {i:Int} {t:ByteArray} (h:Ix p i t):fE p i=t:=by
 obtain ⟨h0,_,x,hx,ht⟩:=h;unfold fE;rw[if_neg bA,hx];exact ht
theorem Ox.str {p:eE} {i:Int} {t:ByteArray} (h:Ox p i t):fE p i=t:=by
 rcases h with ⟨rfl,rfl⟩ | ⟨h,_⟩
 ·rfl
 exact h.str
def Grown (p q:eE):Prop:=q.s=p.s∧((∃ x,q.known=p.known++[x]∧(q.lay=p.lay∨q.lay=p.known.length))∨(∃ x,q.known=p.known.set p.lay.toNat x∧q.lay=p.lay∧1≤p.lay)∨(q.known=p.known∧q.lay=p.lay))
theorem Ix.grown {p q:eE} {i:Int} {t:ByteArray} (g:Grown p q) (h:Ix p i t):Ix q i t:=by
 obtain ⟨hs,g⟩:=g;obtain ⟨h0,hl,x,hx,ht⟩:=h;have hlt:=(List.getElem?_eq_some_iff.1 hx).1;refine ⟨h0,?_,x,?_,by rw[hs];exact ht⟩
 ·rcases g with ⟨y,_,e | e⟩ | ⟨y,_,e,_⟩ | ⟨_,e⟩
  ·rw[e];exact hl
  ·rw[e];omega
  ·rw[e];exact hl
  rw[e];exact hl
 rcases g with ⟨y,e,_⟩ | ⟨y,e,_,h1⟩ | ⟨e,_⟩
 ·rw[e,List.getElem?_append_left hlt];exact hx
 ·rw[e,List.getElem?_set_ne bA];exact hx
 rw[e];exact hx
theorem Ox.grown {p q:eE} {i:Int} {t:ByteArray} (g:Grown p q) (h:Ox p i t):Ox q i t:=h.imp id (fun ⟨x,y⟩=>⟨x.grown g,y⟩)
structure zL (q:eE) (zl zf zk zc zpf zpk zpy:Int) (zs:List Int) (f0:Int) (r:RV):Prop where
 lang:Ox q zl r.lang1
 fmt:(r.fmt1=⟨#[]⟩∧zf=f0)∨(r.fmt1≠⟨#[]⟩∧Ix q zf r.fmt1)
 kind:Ox q zk r.kind1
 cust:(zc = -1∧r.cust=⟨#[]⟩)∨∃ word,Ix q zc word∧iE (L word)=true∧r.cust=fP word
 pfmt:Ox q zpf r.fmt
 pkind:Ox q zpk r.kind
 play:Ox q zpy r.lay
 pl:∀ i∈zs,Ix q i (fE q i)
 langs:r.langs=zs.map (fE q)
 lne:∀ t∈r.langs,t≠⟨#[]⟩
 pos:(zl = -1∨1≤zl)∧∀ i∈zs,1≤i
theorem zL.grown {p q:eE} {a b c d e f g:Int} {l:List Int} {f0:Int} {r:RV} (h:zL p a b c d e f g l f0 r) (G:Grown p q):zL q a b c d e f g l f0 r:=by
 have key:∀ i∈l,fE q i=fE p i:=fun i hi=>(Ix.grown G (h.pl i hi)).str;refine ⟨h.lang.grown G,h.fmt.imp id (fun ⟨x,y⟩=>⟨x,y.grown G⟩),h.kind.grown G,h.cust.imp id (fun ⟨w,x,y⟩=>⟨w,x.grown G,y⟩),h.pfmt.grown G,h.pkind.grown G,h.play.grown G,fun i hi=>?_,?_,h.lne,h.pos⟩
 ·rw[key i hi];exact (h.pl i hi).grown G
 rw[h.langs];exact List.map_congr_left (fun i hi=>(key i hi).symm)
def fmt0 (st:fF) (comp ext:ByteArray):Int:=if eO comp && gX st ext then 0 else -1
structure Rel (st:fF) (comp:ByteArray) (sc:Bool) (T:ByteArray) (p:eE) (r:RV):Prop where
 s:p.s=T
 typ:p.typ=if sc then 7 else 0
 ids:r.ids=kL p
 unk:r.unk=lQ p
 ix:zL p p.lang p.fmt p.kind p.cust p.pfmt p.pkind p.play p.plangs (fmt0 st comp r.ext) r
 lay:(p.lay = -1∧r.layAt = -1∧r.lay1=⟨#[]⟩)∨(p.lay=r.layAt∧1≤p.lay∧∃ x,p.known[p.lay.toNat]? = some x∧sub p.s x.1 x.2=r.lay1)
 hl:r.hasLang=(p.lang != -1)
 hk:r.hasKind=(p.kind != -1)
 base:r.baseof=(p.base != -1)
 dis:p.dis=r.dis
 ext:Ix p 0 r.ext
theorem Rel.ne {st:fF} {comp T:ByteArray} {sc:Bool} {p:eE} {r:RV} (R:Rel st comp sc T p r):p.known≠[]:=by
 obtain ⟨_,_,x,hx,_⟩:=R.ext;intro h;rw[h] at hx;cases hx
structure qQ (st:fF):Prop where
 lang:∀ w,(listed st.langs w || listed st.dis w)=true→w≠⟨#[]⟩
 fmt:∀ n,gX st n=true→n≠⟨#[]⟩
theorem uP (st:fF) (n:ByteArray):lM st.fmts n ⟨#[]⟩=gX st n:=by
 unfold lM gX;congr 1
 funext x
 have:((⟨#[]⟩:ByteArray).toList==[])=true:=by rw[L_toList];rfl
 rw[this,Bool.true_or,Bool.and_true]
theorem aA9 (st:fF) (n e:ByteArray) (he:e≠⟨#[]⟩):lM st.fmts n e=jP st n e:=by
 unfold lM jP;congr 1
 funext x
 have:(e.toList==[])=false:=by
  rw[L_toList]
  cases h:L e with
  | nil=>exact absurd (L_inj (h.trans rfl)) he
  | cons a r=>rfl
 rw[this,Bool.false_or]
theorem aBy {st:fF} {n e:ByteArray} (h:jP st n e=true):gX st n=true:=by
 unfold jP at h;unfold gX;rw[List.any_eq_true] at h ⊢;obtain ⟨x,hx,hh⟩:=h;rw[Bool.and_eq_true] at hh;exact ⟨x,hx,hh.1⟩
theorem aAm {t:ByteArray} (h:isKind t=true):t≠⟨#[]⟩:=by
 rintro rfl;exact absurd h bF
theorem aGn {t:ByteArray} (h:low t≠⟨#[]⟩):t≠⟨#[]⟩:=by
 rintro rfl;exact h (L_inj (by rw[rT];rfl))
theorem aHn (c:UInt8):Lib.lowerB c=jI c:=by
 unfold Lib.lowerB Lib.isUpperB jI
 by_cases h:65≤c.toNat∧c.toNat≤90
 ·rw[if_pos h,if_pos (by simp only[Bool.and_eq_true,decide_eq_true_eq,UInt8.le_iff_toNat_le];exact h)]
 rw[if_neg h,if_neg (by simp only[Bool.and_eq_true,decide_eq_true_eq,UInt8.le_iff_toNat_le];exact h)]
theorem oC (s:ByteArray):Lib.toLowerA (L s)=L (low s):=by
 rw[rT];exact List.map_congr_left (fun c _=>aHn c)
theorem aHp (s:ByteArray):jM s=low s:=by
 refine L_inj ?_;show L (⟨(Lib.toLowerA (L s)).toArray⟩:ByteArray)=_;rw[jQ,oC]
theorem aG1 {x a b:ByteArray} (h1:gT x a=true) (h2:gT x b=true) (h3:(L a).isPrefixOf (L b)=false) (h4:(L b).isPrefixOf (L a)=false):False:=by
 unfold gT at h1 h2;rw[List.isPrefixOf_iff_prefix] at h1 h2;rcases List.prefix_or_prefix_of_prefix h1 h2 with h | h
 ·rw[List.isPrefixOf_iff_prefix.2 h] at h3;cases h3
 rw[List.isPrefixOf_iff_prefix.2 h] at h4;cases h4
theorem prefOf_tag (x:ByteArray) :
 (iF x=fH∧gT x fH=true∧gT x gK=false∧gT x gA=false∧gT x fQ=false) ∨
 (iF x=gK∧gT x fH=false∧gT x gK=true∧gT x gA=false∧gT x fQ=false) ∨
 (iF x=gA∧gT x fH=false∧gT x gK=false∧gT x gA=true∧gT x fQ=false) ∨
 (iF x=fQ∧gT x fH=false∧gT x gK=false∧gT x gA=false∧gT x fQ=true) ∨
 ((iF x≠fH∧iF x≠gK∧iF x≠gA∧iF x≠fQ)∧gT x fH=false∧gT x gK=false∧gT x gA=false∧gT x fQ=false):=by
 have hp:∀ a:ByteArray,Lib.hasPrefix (Lib.toLowerA (L x)) a.data.toList=gT x a:=by
  intro a;rw[oC];rfl
 have e:iF x=if gT x fH=true then fH else if gT x nD=true then nD else if gT x oW=true then oW else if gT x gK=true then gK else if gT x gA=true then gA else if gT x fQ=true then fQ else ⟨#[]⟩:=by
  unfold iF kU;simp only[lR];rw[← hp fH,← hp nD,← hp oW,← hp gK,← hp gA,← hp fQ];rfl
 have ap:∀ a b:ByteArray,gT x a=true→(L a).isPrefixOf (L b)=false→(L b).isPrefixOf (L a)=false→gT x b=false:=by
  intro a b h1 h3 h4
  cases h2:gT x b with
  | false=>rfl
  | true=>exact (aG1 h1 h2 h3 h4).elim
 rw[e]
 by_cases h1:gT x fH=true
 ·rw[if_pos h1];exact .inl ⟨rfl,h1,ap _ _ h1 bF bF,ap _ _ h1 bF bF,ap _ _ h1 bF bF⟩
 rw[if_neg h1];have g1:gT x fH=false:=by simpa using h1
 by_cases h2:gT x nD=true
 ·rw[if_pos h2];exact .inr (.inr (.inr (.inr ⟨⟨by decide,by decide,by decide,by decide⟩,g1,ap _ _ h2 bF bF,ap _ _ h2 bF bF,ap _ _ h2 bF bF⟩)))
 rw[if_neg h2]
 by_cases h3:gT x oW=true
 ·rw[if_pos h3];exact .inr (.inr (.inr (.inr ⟨⟨by decide,by decide,by decide,by decide⟩,g1,ap _ _ h3 bF bF,ap _ _ h3 bF bF,ap _ _ h3 bF bF⟩)))
 rw[if_neg h3]
 by_cases h4:gT x gK=true
 ·rw[if_pos h4];exact .inr (.inl ⟨rfl,g1,h4,ap _ _ h4 bF bF,ap _ _ h4 bF bF⟩)
 rw[if_neg h4]
 by_cases h5:gT x gA=true
 ·rw[if_pos h5];exact .inr (.inr (.inl ⟨rfl,g1,by simpa using h4,h5,ap _ _ h5 bF bF⟩))
 rw[if_neg h5]
 by_cases h6:gT x fQ=true
 ·rw[if_pos h6];exact .inr (.inr (.inr (.inl ⟨rfl,g1,by simpa using h4,by simpa using h5,h6⟩)))
 rw[if_neg h6];exact .inr (.inr (.inr (.inr ⟨⟨by decide,by decide,by decide,by decide⟩,g1,by simpa using h4,by simpa using h5,by simpa using h6⟩)))
theorem aE8 (s:ByteArray):isKind (low s)=isKind s:=by
 unfold isKind;rw[oC,oC];congr 1;rw[rT,rT,List.map_map];refine List.map_congr_left (fun c _=>?_);show jI (jI c)=jI c
 by_cases h:65≤c.toNat∧c.toNat≤90
 ·have e1:jI c=c+32:=by unfold jI;rw[if_pos h]
  have e2:(c+32).toNat=c.toNat+32:=by rw[UInt8.toNat_add,show (32:UInt8).toNat=32 from rfl];omega
  rw[e1];unfold jI;rw[if_neg (by rw[e2];omega)]
 have e1:jI c=c:=by unfold jI;rw[if_neg h]
 rw[e1,e1]
theorem aH8 {x pre:ByteArray} (h:gT x pre=true):pre.size≤x.size:=by
 unfold gT at h;have:=(List.isPrefixOf_iff_prefix.1 h).length_le;rw[eD,eD,pQ] at this;exact this
theorem aIa {T:ByteArray} {lo hi k:Nat} (h1:lo+1+k≤hi - 1) (h2:hi≤T.size):sub T ((lo+1+k:Nat):Int) ((hi - 1:Nat):Int)=(fP (T.extract lo hi)).extract k (fP (T.extract lo hi)).size:=by
 refine L_inj ?_;have e0:(T.extract lo hi).size=hi - lo:=by rw[← eD,eN];have:=eD T;simp;omega
 have e1:(fP (T.extract lo hi)).size=hi - lo - 2:=by
  unfold fP;rw[e0,← eD,eN,eN];have:=eD T
  simp
  omega
 rw[e1,iW,eN,eN];unfold fP;rw[e0,eN,eN];refine List.ext_getElem? (fun i=>?_);simp only[List.getElem?_take,List.getElem?_drop]
 by_cases h:i < hi - 1 - (lo+1+k)
 ·rw[if_pos h,if_pos bA,if_pos bA,if_pos bA];exact congrArg (fun j=>(L T)[j]?) bA
 rw[if_neg h,if_neg bA]
section
variable {st:fF} {lay:Bool} {r:RV} {word x:ByteArray} {k:Int}
def Cl (st:fF) (x:ByteArray):Prop:=gT x fH=true∧(listed st.langs (low (gV x fH)) || listed st.dis (low (gV x fH)))=true
def Cf (st:fF) (lay:Bool) (x:ByteArray):Prop:=lay=true∧gT x gK=true∧gX st (low (gV x gK))=true
def Ck (lay:Bool) (x:ByteArray):Prop:=lay=true∧gT x gA=true∧isKind (gV x gA)=true
def Cy (lay:Bool) (x:ByteArray):Prop:=lay=true∧gT x fQ=true
theorem aI3 (h:Cl st x):jJ st lay r word x k = { r.id (gV x fH) k with langs:=r.langs++[gV x fH],dis:=r.dis || !listed st.langs (low (gV x fH)) }:=by
 unfold jJ;rw[if_pos (show _∧_ from h)]
theorem aI1 (h1:¬ Cl st x) (h:Cf st lay x):jJ st lay r word x k = { r.id (gV x gK) k with fmt:=gV x gK }:=by
 unfold jJ;rw[if_neg (show ¬ (_∧_) from h1),if_pos (show _∧_ from h)]
theorem aI2 (h1:¬ Cl st x) (h2:¬ Cf st lay x) (h:Ck lay x):jJ st lay r word x k = { r.id (gV x gA) k with kind:=gV x gA }:=by
 unfold jJ;rw[if_neg (show ¬ (_∧_) from h1),if_neg (show ¬ (_∧_) from h2),if_pos (show _∧_ from h)]
theorem aI4 (h1:¬ Cl st x) (h2:¬ Cf st lay x) (h3:¬ Ck lay x) (h:Cy lay x):jJ st lay r word x k = { r.id (gV x fQ) k with lay:=gV x fQ }:=by
 unfold jJ;rw[if_neg (show ¬ (_∧_) from h1),if_neg (show ¬ (_∧_) from h2),if_neg (show ¬ (_∧_) from h3),if_pos (show _∧_ from h)]
theorem sR (h1:¬ Cl st x) (h2:¬ Cf st lay x) (h3:¬ Ck lay x) (h4:¬ Cy lay x):jJ st lay r word x k = { r.id word k with cust:=x }:=by
 unfold jJ;rw[if_neg (show ¬ (_∧_) from h1),if_neg (show ¬ (_∧_) from h2),if_neg (show ¬ (_∧_) from h3),if_neg (show ¬ (_∧_) from h4)]
end
theorem rV {E:Env} {lay:Bool} {p:eE} {lo hi:Nat} {sid pre v:ByteArray} (h:iF (fP sid)=pre) (hne:¬ pre.toList=[]) (hv:jM (p.s.extract (lo+1+pre.size) (hi - 1))=v) :
 mZ E lay p lo hi sid=(iZ E lay p pre (((lo+1+pre.size:Nat):Int),((hi - 1:Nat):Int)) v).getD (oI p ((lo:Int),(hi:Int))):=by
 have h' : iF (sid.extract 1 (sid.size - 1))=pre:=h;unfold mZ;simp only[h',hv];rw[if_neg hne];cases iZ E lay p pre (((lo+1+pre.size:Nat):Int),((hi - 1:Nat):Int)) v <;> rfl
theorem aHs {E:Env} {lay:Bool} {p:eE} {x:Int×Int} {v:ByteArray}:iZ E lay p fH x v=if E.lang v=true then some { p with known:=p.known++[x],plangs:=p.plangs++[(p.known.length:Int)] } else if E.dis v=true then some { p with known:=p.known++[x],plangs:=p.plangs++[(p.known.length:Int)],dis:=true } else none:=by
 unfold iZ;rw[if_pos (rfl:fH=fH)]
theorem aHq {E:Env} {lay:Bool} {p:eE} {x:Int×Int} {v:ByteArray}:iZ E lay p gK x v=if (lay && E.fmt v ⟨#[]⟩)=true then some { p with known:=p.known++[x],pfmt:=p.known.length } else none:=by
 unfold iZ;rw[if_neg (by decide:¬ gK=fH),if_pos (rfl:gK=gK)]
theorem aHr {E:Env} {lay:Bool} {p:eE} {x:Int×Int} {v:ByteArray}:iZ E lay p gA x v=if (lay && isKind v)=true then some { p with known:=p.known++[x],pkind:=p.known.length } else none:=by
 unfold iZ;rw[if_neg (by decide:¬ gA=fH),if_neg (by decide:¬ gA=gK),if_pos (rfl:gA=gA)]
theorem aHt {E:Env} {lay:Bool} {p:eE} {x:Int×Int} {v:ByteArray}:iZ E lay p fQ x v=if lay=true then some { p with known:=p.known++[x],play:=p.known.length } else none:=by
 unfold iZ;rw[if_neg (by decide:¬ fQ=fH),if_neg (by decide:¬ fQ=gK),if_neg (by decide:¬ fQ=gA),if_pos (rfl:fQ=fQ)]
theorem aFk {E:Env} {lay:Bool} {p:eE} {lo hi:Nat} {sid:ByteArray} (h1:iF (fP sid)≠fH) (h2:iF (fP sid)≠gK) (h3:iF (fP sid)≠gA) (h4:iF (fP sid)≠fQ) :
 mZ E lay p lo hi sid=oI p ((lo:Int),(hi:Int)):=by
 have h' : iF (sid.extract 1 (sid.size - 1))=iF (fP sid):=rfl;unfold mZ;simp only[h']
 by_cases c:(iF (fP sid)).toList=[]
 ·rw[if_pos c]
 rw[if_neg c];unfold iZ;rw[if_neg h1,if_neg h2,if_neg h3,if_neg h4]
section
variable {st:fF} {comp T:ByteArray} {sc:Bool} {p:eE} {r:RV}
structure aJb (st:fF) (comp T:ByteArray) (p q:eE) (r:RV) (t:ByteArray):Prop where
 ix:zL q p.lang p.fmt p.kind p.cust p.pfmt p.pkind p.play p.plangs (fmt0 st comp r.ext) r
 new:Ix q p.known.length t
 ids:r.ids++[t]=kL q
 lay:(q.lay = -1∧r.layAt = -1∧r.lay1=⟨#[]⟩)∨(q.lay=r.layAt∧1≤q.lay∧∃ x,q.known[q.lay.toNat]? = some x∧sub q.s x.1 x.2=r.lay1)
 ext:Ix q 0 r.ext
theorem Rel.push (R:Rel st comp sc T p r) {q:eE} {x:Int×Int} {t:ByteArray} (ht:sub T x.1 x.2=t) (hs:q.s=p.s) (hk:q.known=p.known++[x]) (hl:q.lay=p.lay):aJb st comp T p q r t:=by
 have G:Grown p q:=⟨hs,.inl ⟨x,hk,.inl hl⟩⟩
 have hpos:=List.length_pos_iff.2 R.ne;refine ⟨R.ix.grown G,⟨aM,?_,x,?_,by rw[hs,R.s];exact ht⟩,?_,?_,R.ext.grown G⟩
 ·rw[hl];rcases R.lay with ⟨h,_⟩ | ⟨_,h,y,hy,_⟩
  ·omega
  have:=(List.getElem?_eq_some_iff.1 hy).1;omega
 ·rw[hk,Int.toNat_natCast,List.getElem?_append_right (Nat.le_refl _),Nat.sub_self];rfl
 ·rw[R.ids];unfold kL;rw[hk,hs,List.map_append,List.map_cons,List.map_nil,R.s,ht]
 rw[hl];rcases R.lay with h | ⟨h1,h2,y,hy,h3⟩
 ·exact .inl h
 refine .inr ⟨h1,h2,y,?_,by rw[hs];exact h3⟩;rw[hk,List.getElem?_append_left (List.getElem?_eq_some_iff.1 hy).1];exact hy
theorem Rel.cust (R:Rel st comp sc T p r) {x:Int×Int} {t:ByteArray} (ht:sub T x.1 x.2=t) (hw:iE (L t)=true) (k:Int):Rel st comp sc T (oI p x) { r.id t k with cust:=fP t }:=by
 have P:=R.push (q:=oI p x) (x:=x) ht rfl rfl rfl;exact ⟨R.s,R.typ,P.ids,R.unk,⟨P.ix.lang,P.ix.fmt,P.ix.kind,.inr ⟨t,P.new,hw,rfl⟩,P.ix.pfmt,P.ix.pkind,P.ix.play,P.ix.pl,P.ix.langs,P.ix.lne,P.ix.pos⟩,P.lay,R.hl,R.hk,R.base,R.dis,P.ext⟩
theorem Rel.wrap (R:Rel st comp sc T p r) (SE:qQ st) {lo hi:Nat} {sid:ByteArray} (hsid:T.extract lo hi=sid) (hhi:hi≤T.size) (hw:iE (L sid)=true) (hok:eO comp=true→okW (L sid)) (k:Int) :
 Rel st comp sc T (mZ (eH st) (eO comp) p lo hi sid) (jJ st (eO comp) r sid (fP sid) k)∧(jJ st (eO comp) r sid (fP sid) k).marks=r.marks++[k]:=by
 have hz:sid.size=hi - lo:=by rw[← hsid,← eD,eN];have:=eD T;simp;omega
 have h3:3≤sid.size:=by unfold iE at hw;rw[Bool.and_eq_true,decide_eq_true_eq,eD] at hw;exact hw.1
 have hi2:(fP sid).size=hi - lo - 2:=by
  unfold fP;rw[← eD,eN,List.length_take,List.length_drop,eD,hz];omega
 have hval:∀ pre:ByteArray,gT (fP sid) pre=true→sub T ((lo+1+pre.size:Nat):Int) ((hi - 1:Nat):Int)=gV (fP sid) pre:=by
  intro pre hp;have:=aH8 hp;rw[aIa (T:=T) (lo:=lo) (hi:=hi) (k:=pre.size) bA hhi,hsid];rfl
 have hlow:∀ pre:ByteArray,gT (fP sid) pre=true→jM (p.s.extract (lo+1+pre.size) (hi - 1))=low (gV (fP sid) pre):=by
  intro pre hp;rw[aHp,← hval pre hp,iW,R.s]
 have hc:Rel st comp sc T (oI p ((lo:Int),(hi:Int))) { r.id sid k with cust:=fP sid }:=R.cust (by rw[iW];exact hsid) hw k
 have ne4:∀ pre:ByteArray,(pre=fH∨pre=gK∨pre=gA∨pre=fQ)→¬ pre.toList=[]:=by
  rintro pre (rfl | rfl | rfl | rfl) <;> rw[L_toList] <;> decide
 have fx:∀ {t:Bool} {a:ByteArray},gT (fP sid) a=false→¬ (gT (fP sid) a=true):=fun h=>by rw[h];simp
 rcases prefOf_tag (fP sid) with ⟨e,t1,t2,t3,t4⟩ | ⟨e,t1,t2,t3,t4⟩ | ⟨e,t1,t2,t3,t4⟩ | ⟨e,t1,t2,t3,t4⟩ | ⟨⟨e1,e2,e3,e4⟩,t1,t2,t3,t4⟩
 ·rw[rV e (ne4 _ (.inl rfl)) (hlow _ t1),aHs];have P:=fun q h1 h2 h3=>R.push (q:=q) (x:=(((lo+1+fH.size:Nat):Int),((hi - 1:Nat):Int))) (hval _ t1) h1 h2 h3;have el:(eH st).lang=listed st.langs:=rfl;have ed:(eH st).dis=listed st.dis:=rfl;rw[el,ed]
  by_cases h1:(listed st.langs (low (gV (fP sid) fH)) || listed st.dis (low (gV (fP sid) fH)))=true
  ·have hne:=aGn (SE.lang _ h1);rw[aI3 ⟨t1,h1⟩]
   have lne:∀ t∈r.langs++[gV (fP sid) fH],t≠⟨#[]⟩:=by
    intro t ht;rcases List.mem_append.1 ht with ht | ht
    ·exact R.ix.lne t ht
    rw[List.mem_singleton] at ht;rw[ht];exact hne
   have hpos:=List.length_pos_iff.2 R.ne
   have posw:(p.lang = -1∨1≤p.lang)∧∀ i∈p.plangs++[(p.known.length:Int)],1≤i:=by
    refine ⟨R.ix.pos.1,fun i hi=>?_⟩;rcases List.mem_append.1 hi with hi | hi
    ·exact R.ix.pos.2 i hi
    rw[List.mem_singleton] at hi;omega
   have done:∀ q:eE,(h1:q.s=p.s)→(h2:q.known=p.known++[(((lo+1+fH.size:Nat):Int),((hi - 1:Nat):Int))])→(h3:q.lay=p.lay)→q.plangs=p.plangs++[(p.known.length:Int)]→(∀ i∈q.plangs,Ix q i (fE q i))∧r.langs++[gV (fP sid) fH]=q.plangs.map (fE q):=by
    intro q h1 h2 h3 h4;have P:=P q h1 h2 h3;have hs:=P.new.str;rw[h4];refine ⟨fun i hi=>?_,?_⟩
    ·rcases List.mem_append.1 hi with hi | hi
     ·exact P.ix.pl i hi
     rw[List.mem_singleton] at hi;rw[hi,hs];exact P.new
    rw[List.map_append,List.map_cons,List.map_nil,hs,P.ix.langs]
   by_cases h2:listed st.langs (low (gV (fP sid) fH))=true
   ·rw[if_pos h2,h2];obtain ⟨d1,d2⟩:=done { p with known:=p.known++[(((lo+1+fH.size:Nat):Int),((hi - 1:Nat):Int))],plangs:=p.plangs++[(p.known.length:Int)] } rfl rfl rfl rfl;have P:=P { p with known:=p.known++[(((lo+1+fH.size:Nat):Int),((hi - 1:Nat):Int))],plangs:=p.plangs++[(p.known.length:Int)] } rfl rfl rfl;exact ⟨⟨R.s,R.typ,P.ids,R.unk,⟨P.ix.lang,P.ix.fmt,P.ix.kind,P.ix.cust,P.ix.pfmt,P.ix.pkind,P.ix.play,d1,d2,lne,posw⟩,P.lay,R.hl,R.hk,R.base,R.dis.trans bJ,P.ext⟩,rfl⟩
   have h2' : listed st.langs (low (gV (fP sid) fH))=false:=by simpa using h2
   have h3' : listed st.dis (low (gV (fP sid) fH))=true:=by rw[h2'] at h1;simpa using h1
   rw[if_neg h2,if_pos h3',h2'];obtain ⟨d1,d2⟩:=done { p with known:=p.known++[(((lo+1+fH.size:Nat):Int),((hi - 1:Nat):Int))],plangs:=p.plangs++[(p.known.length:Int)],dis:=true } rfl rfl rfl rfl;have P:=P { p with known:=p.known++[(((lo+1+fH.size:Nat):Int),((hi - 1:Nat):Int))],plangs:=p.plangs++[(p.known.length:Int)],dis:=true } rfl rfl rfl;exact ⟨⟨R.s,R.typ,P.ids,R.unk,⟨P.ix.lang,P.ix.fmt,P.ix.kind,P.ix.cust,P.ix.pfmt,P.ix.pkind,P.ix.play,d1,d2,lne,posw⟩,P.lay,R.hl,R.hk,R.base,bJ,P.ext⟩,rfl⟩
  have h1' : listed st.langs (low (gV (fP sid) fH))=false∧listed st.dis (low (gV (fP sid) fH))=false:=by simpa using h1
  rw[if_neg (by rw[h1'.1];decide:¬ (listed st.langs (low (gV (fP sid) fH))=true)),if_neg (by rw[h1'.2];decide:¬ (listed st.dis (low (gV (fP sid) fH))=true)),sR (fun h=>h1 h.2) (fun h=>fx (t:=true) t2 h.2.1) (fun h=>fx (t:=true) t3 h.2.1) (fun h=>fx (t:=true) t4 h.2)];exact ⟨hc,rfl⟩
 ·rw[rV e (ne4 _ (.inr (.inl rfl))) (hlow _ t2),aHq];have ef:(eH st).fmt (low (gV (fP sid) gK)) ⟨#[]⟩=gX st (low (gV (fP sid) gK)):=uP st _;rw[ef];have n1:¬ Cl st (fP sid):=fun h=>fx (t:=true) t1 h.1
  by_cases h1:eO comp=true∧gX st (low (gV (fP sid) gK))=true
  ·rw[aI1 n1 ⟨h1.1,t2,h1.2⟩,if_pos (by rw[h1.1,h1.2];rfl:(eO comp && gX st (low (gV (fP sid) gK)))=true)];have P:=R.push (q:={ p with known:=p.known++[(((lo+1+gK.size:Nat):Int),((hi - 1:Nat):Int))],pfmt:=p.known.length }) (x:=(((lo+1+gK.size:Nat):Int),((hi - 1:Nat):Int))) (hval _ t2) rfl rfl rfl;have hne:gV (fP sid) gK≠⟨#[]⟩:=aGn (SE.fmt _ h1.2);exact ⟨⟨R.s,R.typ,P.ids,R.unk,⟨P.ix.lang,P.ix.fmt,P.ix.kind,P.ix.cust,.inr ⟨P.new,hne⟩,P.ix.pkind,P.ix.play,P.ix.pl,P.ix.langs,P.ix.lne,P.ix.pos⟩,P.lay,R.hl,R.hk,R.base,R.dis,P.ext⟩,rfl⟩
  rw[sR n1 (fun h=>h1 ⟨h.1,h.2.2⟩) (fun h=>fx (t:=true) t3 h.2.1) (fun h=>fx (t:=true) t4 h.2),if_neg (fun h=>h1 (by rw[Bool.and_eq_true] at h;exact h):¬ ((eO comp && gX st (low (gV (fP sid) gK)))=true))];exact ⟨hc,rfl⟩
 ·rw[rV e (ne4 _ (.inr (.inr (.inl rfl)))) (hlow _ t3),aHr,aE8];have n1:¬ Cl st (fP sid):=fun h=>fx (t:=true) t1 h.1;have n2:¬ Cf st (eO comp) (fP sid):=fun h=>fx (t:=true) t2 h.2.1
  by_cases h1:eO comp=true∧isKind (gV (fP sid) gA)=true
  ·rw[aI2 n1 n2 ⟨h1.1,t3,h1.2⟩,if_pos (by rw[h1.1,h1.2];rfl:(eO comp && isKind (gV (fP sid) gA))=true)];have P:=R.push (q:={ p with known:=p.known++[(((lo+1+gA.size:Nat):Int),((hi - 1:Nat):Int))],pkind:=p.known.length }) (x:=(((lo+1+gA.size:Nat):Int),((hi - 1:Nat):Int))) (hval _ t3) rfl rfl rfl;have hne:gV (fP sid) gA≠⟨#[]⟩:=aAm h1.2;exact ⟨⟨R.s,R.typ,P.ids,R.unk,⟨P.ix.lang,P.ix.fmt,P.ix.kind,P.ix.cust,P.ix.pfmt,.inr ⟨P.new,hne⟩,P.ix.play,P.ix.pl,P.ix.langs,P.ix.lne,P.ix.pos⟩,P.lay,R.hl,R.hk,R.base,R.dis,P.ext⟩,rfl⟩
  rw[sR n1 n2 (fun h=>h1 ⟨h.1,h.2.2⟩) (fun h=>fx (t:=true) t4 h.2),if_neg (fun h=>h1 (by rw[Bool.and_eq_true] at h;exact h):¬ ((eO comp && isKind (gV (fP sid) gA))=true))];exact ⟨hc,rfl⟩
 ·rw[rV e (ne4 _ (.inr (.inr (.inr rfl)))) (hlow _ t4),aHt];have n1:¬ Cl st (fP sid):=fun h=>fx (t:=true) t1 h.1;have n2:¬ Cf st (eO comp) (fP sid):=fun h=>fx (t:=true) t2 h.2.1;have n3:¬ Ck (eO comp) (fP sid):=fun h=>fx (t:=true) t3 h.2.1
  by_cases h1:eO comp=true
  ·rw[aI4 n1 n2 n3 ⟨h1,t4⟩,if_pos h1];have P:=R.push (q:={ p with known:=p.known++[(((lo+1+fQ.size:Nat):Int),((hi - 1:Nat):Int))],play:=p.known.length }) (x:=(((lo+1+fQ.size:Nat):Int),((hi - 1:Nat):Int))) (hval _ t4) rfl rfl rfl
   have hne:gV (fP sid) fQ≠⟨#[]⟩:=by
    intro h
    have hsz:(fP sid).size≤fQ.size:=by
     have h9:=congrArg ByteArray.size h
     have hx:(gV (fP sid) fQ).size=(fP sid).size - fQ.size:=by
      unfold gV;rw[← eD,eN,List.length_take,List.length_drop,eD];omega
     rw[hx] at h9;have h0:(⟨#[]⟩:ByteArray).size=0:=rfl;omega
    have hpre:(L fQ) <+: (L (low (fP sid))):=List.isPrefixOf_iff_prefix.1 t4;have h8:=hpre.eq_of_length_le (by rw[eD,eD,pQ];exact hsz);refine hok h1 hw ?_
    have e1:(inner (L sid))=L (fP sid):=by
     unfold inner fP;rw[eN,eD];rfl
    rw[e1,← rT,← h8];rfl
   exact ⟨⟨R.s,R.typ,P.ids,R.unk,⟨P.ix.lang,P.ix.fmt,P.ix.kind,P.ix.cust,P.ix.pfmt,P.ix.pkind,.inr ⟨P.new,hne⟩,P.ix.pl,P.ix.langs,P.ix.lne,P.ix.pos⟩,P.lay,R.hl,R.hk,R.base,R.dis,P.ext⟩,rfl⟩
  rw[sR n1 n2 n3 (fun h=>h1 h.1),if_neg h1];exact ⟨hc,rfl⟩
 rw[aFk e1 e2 e3 e4,sR (fun h=>fx (t:=true) t1 h.1) (fun h=>fx (t:=true) t2 h.2.1) (fun h=>fx (t:=true) t3 h.2.1) (fun h=>fx (t:=true) t4 h.2)];exact ⟨hc,rfl⟩
theorem Rel.plain (R:Rel st comp sc T p r) (SE:qQ st) (hext:r.ext≠⟨#[]⟩) {lo hi:Nat} {sid:ByteArray} (hsid:T.extract lo hi=sid) (pts:Nat) (last:Bool) (k:Int) (hk:last=decide (k < 0)) :
 Rel st comp sc T (jF (eH st) p comp (pts:Int) last ((lo:Int),(hi:Int)) sid).1 (jK st comp sc pts r sid k) ∧
 (jK st comp sc pts r sid k).marks=if (jF (eH st) p comp (pts:Int) last ((lo:Int),(hi:Int)) sid).2=true then r.marks++[k] else r.marks:=by
 have ht:sub T (((lo:Int),(hi:Int)):Int×Int).1 (((lo:Int),(hi:Int)):Int×Int).2=sid:=by rw[iW];exact hsid
 have el:(eH st).lang=listed st.langs:=rfl;have ed:(eH st).dis=listed st.dis:=rfl;have ef:(eH st).fmt sid (fE p 0)=jP st sid r.ext:=by rw[R.ext.str];exact aA9 st _ _ hext
 unfold jF jK;rw[el,ed,ef]
 have q1:(pS p comp (pts:Int) && (listed st.langs sid || listed st.dis sid))=true↔((jS comp || eO comp)=true∧2≤pts∧r.hasLang=false)∧(listed st.langs sid || listed st.dis sid)=true:=by
  unfold pS;rw[R.hl];simp only[Bool.and_eq_true,decide_eq_true_eq,beq_iff_eq,bne_eq_false_iff_eq];constructor
  ·rintro ⟨⟨⟨a,b⟩,c⟩,d⟩;exact ⟨⟨c,aM,b⟩,d⟩
  rintro ⟨⟨c,a,b⟩,d⟩;exact ⟨⟨⟨aM,b⟩,c⟩,d⟩
 have q3:(pB p comp && isKind sid)=true↔(eO comp=true∧r.hasKind=false∧isKind sid=true):=by
  unfold pB;rw[R.hk];simp only[Bool.and_eq_true,beq_iff_eq,bne_eq_false_iff_eq];constructor
  ·rintro ⟨⟨a,b⟩,c⟩;exact ⟨b,a,c⟩
  rintro ⟨b,a,c⟩;exact ⟨⟨a,b⟩,c⟩
 have q5:kZ p comp last=true↔(eO comp=true∧¬ (sc=true∧k < 0)):=by
  unfold kZ;rw[R.typ,hk]
  cases sc with
  | true=>simp;exact and_comm
  | false=>simp
 by_cases c1:(pS p comp (pts:Int) && (listed st.langs sid || listed st.dis sid))=true
 ·rw[if_pos c1,if_pos (show _∧_ from q1.1 c1)];have hne1:sid≠⟨#[]⟩:=SE.lang _ (q1.1 c1).2;have P:=R.push (q:={ p with known:=p.known++[((lo:Int),(hi:Int))],lang:=p.known.length,dis:=p.dis || !listed st.langs sid }) (x:=((lo:Int),(hi:Int))) ht rfl rfl rfl;refine ⟨⟨R.s,R.typ,P.ids,R.unk,⟨.inr ⟨P.new,hne1⟩,P.ix.fmt,P.ix.kind,P.ix.cust,P.ix.pfmt,P.ix.pkind,P.ix.play,P.ix.pl,P.ix.langs,P.ix.lne,⟨.inr (by have:=List.length_pos_iff.2 R.ne;show (1:Int)≤(p.known.length:Int);omega),P.ix.pos.2⟩⟩,P.lay,?_,R.hk,R.base,?_,P.ext⟩,rfl⟩
  ·show true=((p.known.length:Int) != -1);exact (bne_iff_ne.2 bA).symm
  show (p.dis || !listed st.langs sid)=(r.dis || !listed st.langs sid);rw[R.dis]
 rw[if_neg c1,if_neg (fun h=>c1 (q1.2 h):¬ (((jS comp || eO comp)=true∧2≤pts∧r.hasLang=false)∧(listed st.langs sid || listed st.dis sid)=true))]
 by_cases c2:eO comp=true∧jP st sid r.ext=true
 ·rw[if_pos (by rw[Bool.and_eq_true];exact c2:(eO comp && jP st sid r.ext)=true),if_pos c2];have hne2:sid≠⟨#[]⟩:=SE.fmt _ (aBy c2.2);have P:=R.push (q:={ p with known:=p.known++[((lo:Int),(hi:Int))],fmt:=p.known.length }) (x:=((lo:Int),(hi:Int))) ht rfl rfl rfl;exact ⟨⟨R.s,R.typ,P.ids,R.unk,⟨P.ix.lang,.inr ⟨hne2,P.new⟩,P.ix.kind,P.ix.cust,P.ix.pfmt,P.ix.pkind,P.ix.play,P.ix.pl,P.ix.langs,P.ix.lne,P.ix.pos⟩,P.lay,R.hl,R.hk,R.base,R.dis,P.ext⟩,rfl⟩
 rw[if_neg (by rw[Bool.and_eq_true];exact c2:¬ ((eO comp && jP st sid r.ext)=true)),if_neg c2]
 by_cases c3:(pB p comp && isKind sid)=true
 ·rw[if_pos c3,if_pos (show _∧_ from q3.1 c3)];have hne3:sid≠⟨#[]⟩:=aAm (q3.1 c3).2.2;have P:=R.push (q:={ p with known:=p.known++[((lo:Int),(hi:Int))],kind:=p.known.length }) (x:=((lo:Int),(hi:Int))) ht rfl rfl rfl;refine ⟨⟨R.s,R.typ,P.ids,R.unk,⟨P.ix.lang,P.ix.fmt,.inr ⟨P.new,hne3⟩,P.ix.cust,P.ix.pfmt,P.ix.pkind,P.ix.play,P.ix.pl,P.ix.langs,P.ix.lne,P.ix.pos⟩,P.lay,R.hl,?_,R.base,R.dis,P.ext⟩,rfl⟩;show true=((p.known.length:Int) != -1);exact (bne_iff_ne.2 bA).symm
 rw[if_neg c3,if_neg (fun h=>c3 (q3.2 h):¬ (eO comp=true∧r.hasKind=false∧isKind sid=true))]
 by_cases c4:sid.toList=vX
 ·rw[if_pos (by rw[c4];rfl:(sid.toList==[98,97,115,101,111,102])=true),if_pos c4];have P:=R.push (q:={ p with known:=p.known++[((lo:Int),(hi:Int))],base:=p.known.length }) (x:=((lo:Int),(hi:Int))) ht rfl rfl rfl;refine ⟨⟨R.s,R.typ,P.ids,R.unk,⟨P.ix.lang,P.ix.fmt,P.ix.kind,P.ix.cust,P.ix.pfmt,P.ix.pkind,P.ix.play,P.ix.pl,P.ix.langs,P.ix.lne,P.ix.pos⟩,P.lay,R.hl,R.hk,?_,R.dis,P.ext⟩,rfl⟩;show true=((p.known.length:Int) != -1);exact (bne_iff_ne.2 bA).symm
 rw[if_neg (by intro h;exact c4 (beq_iff_eq.1 h):¬ ((sid.toList==[98,97,115,101,111,102])=true)),if_neg c4]
 by_cases c5:kZ p comp last=true
 ·rw[if_pos c5,if_pos (show _∧_ from q5.1 c5)];rcases R.lay with ⟨l1,l2,l3⟩ | ⟨l1,l2,y,l3,l4⟩
  ·rw[if_neg (by rw[l1];decide:¬ ((p.lay != -1)=true)),if_pos (by rw[l2];decide:r.layAt < 0)]
   have G:Grown p { p with known:=p.known++[((lo:Int),(hi:Int))],lay:=p.known.length }:=⟨rfl,.inl ⟨_,rfl,.inr rfl⟩⟩
   have M:=R.ix.grown G;have hpos:=List.length_pos_iff.2 R.ne;refine ⟨⟨R.s,R.typ,?_,R.unk,⟨M.lang,M.fmt,M.kind,M.cust,M.pfmt,M.pkind,M.play,M.pl,M.langs,M.lne,M.pos⟩,.inr ⟨?_,?_,((lo:Int),(hi:Int)),?_,?_⟩,R.hl,R.hk,R.base,R.dis,R.ext.grown G⟩,rfl⟩
   ·show r.ids++[sid]=kL _;rw[R.ids];unfold kL;rw[List.map_append,List.map_cons,List.map_nil,R.s,ht]
   ·show (p.known.length:Int)=(r.ids.length:Int);rw[R.ids];unfold kL;rw[List.length_map]
   ·show (1:Int)≤(p.known.length:Int);omega
   ·show (p.known++[_])[(p.known.length:Int).toNat]? = _;rw[Int.toNat_natCast,List.getElem?_append_right (Nat.le_refl _),Nat.sub_self];rfl
   show sub p.s _ _=sid;rw[R.s];exact ht
  rw[if_pos (bne_iff_ne.2 bA:(p.lay != -1)=true),if_neg (by omega:¬ (r.layAt < 0))]
  have G:Grown p { p with known:=p.known.set p.lay.toNat ((lo:Int),(hi:Int)),unknown:=p.unknown++[p.known.getD p.lay.toNat (0,0)] }:=⟨rfl,.inr (.inl ⟨_,rfl,rfl,l2⟩)⟩
  have M:=R.ix.grown G;have hlt:=(List.getElem?_eq_some_iff.1 l3).1;refine ⟨⟨R.s,R.typ,?_,?_,⟨M.lang,M.fmt,M.kind,M.cust,M.pfmt,M.pkind,M.play,M.pl,M.langs,M.lne,M.pos⟩,.inr ⟨l1,l2,((lo:Int),(hi:Int)),?_,?_⟩,R.hl,R.hk,R.base,R.dis,R.ext.grown G⟩,rfl⟩
  ·show r.ids.set r.layAt.toNat sid=kL _;rw[R.ids,← l1];unfold kL;rw[List.map_set,R.s,ht]
  ·show r.unk++[r.lay1]=lQ _;rw[R.unk];unfold lQ;rw[List.map_append,List.map_cons,List.map_nil,List.getD_eq_getElem?_getD,l3,Option.getD_some,l4]
  ·show (p.known.set p.lay.toNat _)[p.lay.toNat]? = _;rw[List.getElem?_set_self hlt]
  show sub p.s _ _=sid;rw[R.s];exact ht
 rw[if_neg c5,if_neg (fun h=>c5 (q5.2 h):¬ (eO comp=true∧¬ (sc=true∧k < 0)))]
 have G:Grown p { p with unknown:=p.unknown++[((lo:Int),(hi:Int))] }:=⟨rfl,.inr (.inr ⟨rfl,rfl⟩)⟩
 have M:=R.ix.grown G;refine ⟨⟨R.s,R.typ,R.ids,?_,⟨M.lang,M.fmt,M.kind,M.cust,M.pfmt,M.pkind,M.play,M.pl,M.langs,M.lne,M.pos⟩,R.lay,R.hl,R.hk,R.base,R.dis,R.ext.grown G⟩,rfl⟩;show r.unk++[sid]=lQ _;rw[R.unk];unfold lQ;rw[List.map_append,List.map_cons,List.map_nil,R.s,ht]
theorem Rel.first {p:eE} (hs:p.s=T) (htyp:p.typ=if sc then 7 else 0) (hz:p = { fM with comp:=p.comp,s:=p.s,typ:=p.typ }) {lo hi:Nat} {sid:ByteArray} (hsid:T.extract lo hi=sid) (k:Int) :
 Rel st comp sc T (rJ (eH st) (eO comp) p ((lo:Int),(hi:Int)) sid) (oR kV sid k)∧(oR kV sid k).marks=[k]:=by
 have ef:(eH st).fmt sid ⟨#[]⟩=gX st sid:=uP st _;unfold rJ;rw[ef];have e:∀ {α:Type} (f:eE→α),f p=f { fM with comp:=p.comp,s:=p.s,typ:=p.typ }:=fun f=>congrArg f hz;have k1:p.known=[]:=e (·.known);refine ⟨⟨hs,htyp,?_,?_,⟨.inl ⟨e (·.lang),rfl⟩,.inl ⟨rfl,?_⟩,.inl ⟨e (·.kind),rfl⟩,.inl ⟨e (·.cust),rfl⟩,.inl ⟨e (·.pfmt),rfl⟩,.inl ⟨e (·.pkind),rfl⟩,.inl ⟨e (·.play),rfl⟩,?_,?_,(fun t ht=>by cases ht),⟨.inl (e (·.lang)),?_⟩⟩,.inl ⟨e (·.lay),rfl,rfl⟩,?_,?_,?_,e (·.dis),⟨Int.le_refl 0,?_,((lo:Int),(hi:Int)),?_,?_⟩⟩,rfl⟩
 ·show [sid]=(p.known++[_]).map _;rw[k1,hs];show _=[sub T (lo:Int) (hi:Int)];rw[iW,hsid]
 ·show []=p.unknown.map _;rw[show p.unknown=[] from e (·.unknown)];rfl
 ·show (if (eO comp && gX st sid)=true then (0:Int) else p.fmt)=if (eO comp && gX st sid)=true then 0 else -1
  rw[show p.fmt = -1 from e (·.fmt)]
 ·show ∀ i∈p.plangs,_;rw[show p.plangs=[] from e (·.plangs)];intro i hi;cases hi
 ·show []=p.plangs.map _;rw[show p.plangs=[] from e (·.plangs)];rfl
 ·show ∀ i∈p.plangs,_;rw[show p.plangs=[] from e (·.plangs)];intro i hi;cases hi
 ·show false=(p.lang != -1);rw[show p.lang = -1 from e (·.lang)];rfl
 ·show false=(p.kind != -1);rw[show p.kind = -1 from e (·.kind)];rfl
 ·show false=(p.base != -1);rw[show p.base = -1 from e (·.base)];rfl
 ·show (0:Int)≠p.lay;rw[show p.lay = -1 from e (·.lay)];decide
 ·show (p.known++[_])[0]? = _;rw[k1];rfl
 show sub p.s _ _=sid;rw[hs,iW];exact hsid
theorem aGq {E:Env} {nd:Int} {last:Bool} {lo hi ld:Nat} {sid:ByteArray} (h1:idHigh p ld=hi) (h2:p.s.extract lo hi=sid) (hw:mJ sid=true):jA E p comp lo ld nd last=(mZ E (eO comp) p lo hi sid,true):=by
 unfold jA;rw[h1];simp only[h2,hw,if_true]
theorem Rel.later (R:Rel st comp sc T p r) (SE:qQ st) (hext:r.ext≠⟨#[]⟩) {lo ld:Nat} {sid:ByteArray} (hsid:T.extract lo ld=sid) (hld:ld≤T.size) (hok:eO comp=true→okW (L sid)) (pts:Nat) (last:Bool) (k:Int) (hk:last=decide (k < 0)) :
 Rel st comp sc T (jA (eH st) p comp lo ld (pts:Int) last).1 (lS st comp sc pts r sid k) ∧
 (lS st comp sc pts r sid k).marks=if (jA (eH st) p comp lo ld (pts:Int) last).2=true then r.marks++[k] else r.marks:=by
 have hh:idHigh p ld=ld:=by unfold idHigh;rw[if_neg R.ne]
 have hs:p.s.extract lo ld=sid:=by rw[R.s];exact hsid
 by_cases hw:iE (L sid)=true
 ·have e1:lS st comp sc pts r sid k=jJ st (eO comp) r sid (fP sid) k:=by unfold lS;rw[if_pos hw]
  rw[aGq hh hs (by rw[tF];exact hw),e1,if_pos rfl];exact R.wrap SE hsid hld hw hok k
 have e1:lS st comp sc pts r sid k=jK st comp sc pts r sid k:=by unfold lS;rw[if_neg hw]
 rw[wX hh hs (by rw[tF];simpa using hw) R.ne,e1];exact R.plain SE hext hsid pts last k hk
end
def nE (st:fF) (comp:ByteArray) (sc:Bool) (pts:Nat) (name:ByteArray) (d:RV×Nat) (c:Nat):RV×Nat:=(mC st comp sc pts d.1 (name.extract (c+1) d.2) (c:Int),c)
def gL (st:fF) (comp:ByteArray) (sc:Bool) (name:ByteArray) (cuts:List Nat):RV :=
 if cuts=[] then kV else
  let d:=cuts.reverse.foldl (nE st comp sc cuts.length name) (kV,name.size)
  mC st comp sc cuts.length d.1 (name.extract 0 d.2) (-1)
theorem xT (m:List Int) (k N:Int):kB (m++[k]) N=if 0≤k∧k < kB m N then k else kB m N:=by
 unfold kB;rw[List.foldl_append];rfl
theorem zF (n:List UInt8) (c e:Nat) (t:List Nat):∀ (a:List Nat) (o:Nat),(n.drop (c+1)).take (e - (c+1))∈sT n o (a++c::e::t)
 | [],o=>List.mem_cons_of_mem _ (List.mem_cons_self ..)
 | x::a,o=>List.mem_cons_of_mem _ (zF n c e t a (x+1))
theorem rN {l pre n:List UInt8} (S:mX l pre n):(eP n).Pairwise (· < ·)∧∀ c∈eP n,c < n.length:=by
 rw[(tI S).2];exact ⟨List.Pairwise.filter _ List.pairwise_lt_range,fun c hc=>List.mem_range.1 (List.mem_filter.1 hc).1⟩
theorem aAr {E:Env} {p:eE} {comp:ByteArray} {lo ld:Nat} {nd:Int} {last:Bool} (hl:p.lay = -1∨(1≤p.lay∧p.lay < p.known.length)) :
 ((jA E p comp lo ld nd last).1.lay=p.lay∧∀ x,p.known[p.lay.toNat]? = some x→p.lay≠-1→(jA E p comp lo ld nd last).1.known[p.lay.toNat]? = some x) ∨
 (kZ p comp last=true∧∃ h:Int,(jA E p comp lo ld nd last).1.known[(jA E p comp lo ld nd last).1.lay.toNat]? = some ((lo:Int),h)):=by
 have app:∀ (y:Int×Int) (x:Int×Int),p.known[p.lay.toNat]? = some x→p.lay≠-1→(p.known++[y])[p.lay.toNat]? = some x:=by
  intro y x hx _;rw[List.getElem?_append_left (List.getElem?_eq_some_iff.1 hx).1];exact hx
 unfold jA;simp only[];split
 ·left;unfold mZ;simp only[];split
  ·exact ⟨rfl,app _⟩
  split
  ·rename_i q hq
   have:q.lay=p.lay∧∃ y,q.known=p.known++[y]:=by
    unfold iZ at hq
    repeat' split at hq
    all_goals first | (cases hq;exact ⟨rfl,_,rfl⟩) | cases hq
   obtain ⟨e1,y,e2⟩:=this;rw[e1,e2];exact ⟨rfl,app y⟩
  exact ⟨rfl,app _⟩
 split
 ·exact .inl ⟨rfl,app _⟩
 unfold jF;split
 ·exact .inl ⟨rfl,app _⟩
 split
 ·exact .inl ⟨rfl,app _⟩
 split
 ·exact .inl ⟨rfl,app _⟩
 split
 ·exact .inl ⟨rfl,app _⟩
 split
 ·rename_i hm
  right;refine ⟨hm,?_⟩;split
  ·rename_i h
   have h1:p.lay≠-1:=bne_iff_ne.1 h;refine ⟨(idHigh p ld:Int),?_⟩;show (p.known.set p.lay.toNat _)[p.lay.toNat]? = _;rw[List.getElem?_set_self bA]
  refine ⟨(idHigh p ld:Int),?_⟩;show (p.known++[_])[(p.known.length:Int).toNat]? = _;rw[Int.toNat_natCast,List.getElem?_append_right (Nat.le_refl _),Nat.sub_self];rfl
 exact .inl ⟨rfl,fun x hx _=>hx⟩
section
variable {st:fF} {comp T:ByteArray} {sc:Bool} {q:Nat} {pre n:List UInt8}
structure At (st:fF) (comp:ByteArray) (sc:Bool) (T:ByteArray) (q:Nat) (N:Nat) (e:Nat) (d:DoV) (r:RV×Nat):Prop where
 rel:Rel st comp sc T d.p r.1
 ld:d.ld=q+1+e
 re:r.2=e
 chi:d.p.cHigh = -1
 nEnd:d.p.nEnd=(q:Int)+1+kB r.1.marks N
 le:(e:Int)≤kB r.1.marks N
 lt:kB r.1.marks N < N
 low:∀ x,d.p.known[d.p.lay.toNat]? = some x→d.p.lay≠-1→(q:Int)+1 < x.1
 mem:∃ c∈eP ((L T).drop (q+1)),kB r.1.marks N=(c:Int)
 ext:r.1.ext≠⟨#[]⟩
theorem aFo (r:RV) (w:ByteArray) (k:Int):(oR r w k).ext=w:=rfl
theorem qT (r:RV) (pts:Nat) (w:ByteArray) (k:Int):(lS st comp sc pts r w k).ext=r.ext:=by
 unfold lS jJ jK
 repeat' split
 all_goals rfl
theorem aFp {r:RV} (h:r.ids≠[]) (pts:Nat) (w:ByteArray) (k:Int):(lS st comp sc pts r w k).ids≠[]:=by
 have h1:∀ t:ByteArray,r.ids++[t]≠[]:=by intro t;simp
 have h2:∀ (i:Nat) (t:ByteArray),r.ids.set i t≠[]:=by intro i t;simpa using h
 unfold lS jJ jK
 repeat' split
 all_goals first | exact h1 _ | exact h2 _ _ | exact h
theorem Rel.idsNe {p:eE} {r:RV} (R:Rel st comp sc T p r):r.ids≠[]:=by
 rw[R.ids];unfold kL
 simpa using R.ne
theorem Rel.layPos {p:eE} {r:RV} (R:Rel st comp sc T p r):p.lay = -1∨(1≤p.lay∧p.lay < p.known.length):=by
 rcases R.lay with ⟨h,_⟩ | ⟨_,h,x,hx,_⟩
 ·exact .inl h
 have:=(List.getElem?_eq_some_iff.1 hx).1;exact .inr ⟨h,aM⟩
theorem sB (S:mX (L T) pre n) (hq:pre.length=q+1) {name:ByteArray} (hn:L name=n) (a b:Nat):T.extract (q+1+a) (q+1+b)=name.extract a b:=by
 refine L_inj ?_;rw[eN,eN,hn,S.eq,← hq,List.drop_append,List.drop_of_length_le bA,List.nil_append];congr 1
 ·omega
 congr 1;omega
theorem At.start (S:mX (L T) pre n) (hq:pre.length=q+1) {name:ByteArray} (hn:L name=n) (K:nX (eO comp) n) (pts:Nat) {c:Nat} (hc:(eP n).getLast? = some c) {p:eE} (hp:p = { fM with comp:=comp,s:=T,typ:=if sc then 7 else 0 }) :
 At st comp sc T q n.length c (mB (eH st) comp (pts:Int) ⟨p,0,0⟩ (q+1+c)) (nE st comp sc pts name (kV,name.size) c):=by
 have hmem:c∈eP n:=List.mem_of_getLast? hc;obtain ⟨hup,hlt⟩:=rN S;have hcn:=hlt c hmem;have hsz:T.size=q+1+n.length:=by rw[← eD,S.eq,List.length_append,hq]
 have hnz:name.size=n.length:=by rw[← eD,hn]
 have hk:p.known=[]:=by rw[hp];rfl
 have hch:p.cHigh = -1:=by rw[hp];rfl
 have hs:p.s=T:=by rw[hp]
 have ht:p.typ=if sc then 7 else 0:=by rw[hp]
 have hih:idHigh p 0=T.size:=by unfold idHigh;rw[if_pos hk,hs]
 have hword:T.extract (q+1+c+1) T.size=name.extract (c+1) name.size:=by
  rw[hsz,hnz,Nat.add_assoc];exact sB S hq hn (c+1) n.length
 have hLw:L (name.extract (c+1) name.size)=n.drop (c+1):=by
  rw[eN,hn,hnz];exact List.take_of_length_le (by rw[List.length_drop];omega)
 have hw:mJ (name.extract (c+1) name.size)=false:=by rw[tF,hLw];exact (K.last c hc).1
 have hd:mB (eH st) comp (pts:Int) ⟨p,0,0⟩ (q+1+c)=⟨{ rJ (eH st) (eO comp) p (((q+1+c+1:Nat):Int),(T.size:Int)) (name.extract (c+1) name.size) with nEnd:=((q+1+c:Nat):Int) },0,q+1+c⟩:=by
  unfold mB;rw[uV hch];unfold jA;simp only[];rw[hih,hs,hword,hw];simp only[Bool.false_eq_true,if_false];rw[if_pos hk];rfl
 obtain ⟨R,hm⟩:=Rel.first (st:=st) (comp:=comp) (sc:=sc) (T:=T) hs ht (by rw[hp]) (lo:=q+1+c+1) (hi:=T.size) hword (c:Int)
 have hr:nE st comp sc pts name (kV,name.size) c=(oR kV (name.extract (c+1) name.size) (c:Int),c):=rfl
 have hre:kB (oR kV (name.extract (c+1) name.size) (c:Int)).marks (n.length:Int)=(c:Int):=by
  rw[hm];show (if 0≤(c:Int)∧(c:Int) < (n.length:Int) then (c:Int) else (n.length:Int))=_;rw[if_pos bA]
 rw[hd,hr];refine ⟨⟨R.s,R.typ,R.ids,R.unk,⟨R.ix.lang,R.ix.fmt,R.ix.kind,R.ix.cust,R.ix.pfmt,R.ix.pkind,R.ix.play,R.ix.pl,R.ix.langs,R.ix.lne,R.ix.pos⟩,R.lay,R.hl,R.hk,R.base,R.dis,R.ext⟩,rfl,rfl,hch,?_,?_,?_,?_,⟨c,?_,hre⟩,?_⟩
 ·show ((q+1+c:Nat):Int)=_;rw[hre];omega
 ·rw[hre];omega
 ·rw[hre];omega
 ·intro x _ hl;refine absurd ?_ hl;show p.lay = -1;rw[hp];rfl
 ·rw[← hq,S.eq,List.drop_left];exact hmem
 rw[aFo];intro h;have h2:=(K.last c hc).2;have h3:=congrArg ByteArray.size h;rw[← eD,hLw,List.length_drop] at h3;have h0:(⟨#[]⟩:ByteArray).size=0:=rfl;omega
theorem At.step (S:mX (L T) pre n) (hq:pre.length=q+1) {name:ByteArray} (hn:L name=n) (K:nX (eO comp) n) (SE:qQ st) (pts:Nat) {d:DoV} {r:RV×Nat} {c e:Nat} (A:At st comp sc T q n.length e d r) (hc:c∈eP n) (hce:c < e) (hen:e < n.length) (hok:eO comp=true→okW ((n.drop (c+1)).take (e - (c+1)))) :
 At st comp sc T q n.length c (mB (eH st) comp (pts:Int) d (q+1+c)) (nE st comp sc pts name r c):=by
 have hsz:T.size=q+1+n.length:=by rw[← eD,S.eq,List.length_append,hq]
 have hword:T.extract (q+1+c+1) d.ld=name.extract (c+1) r.2:=by
  rw[A.ld,A.re,Nat.add_assoc];exact sB S hq hn (c+1) e
 have hLw:L (name.extract (c+1) r.2)=(n.drop (c+1)).take (e - (c+1)):=by rw[eN,hn,A.re]
 obtain ⟨R,hm⟩:=A.rel.later SE A.ext (lo:=q+1+c+1) (ld:=d.ld) hword (by rw[A.ld,hsz];omega) (fun h=>by rw[hLw];exact hok h) pts false (c:Int) (by rw[decide_eq_false bA])
 have hr:nE st comp sc pts name r c=(lS st comp sc pts r.1 (name.extract (c+1) r.2) (c:Int),c):=by
  unfold nE mC;rw[if_neg A.rel.idsNe]
 have hlay:=aAr (E:=eH st) (p:=d.p) (comp:=comp) (lo:=q+1+c+1) (ld:=d.ld) (nd:=(pts:Int)) (last:=false) A.rel.layPos;have hkeep:=wW (eH st) d.p comp (q+1+c+1) d.ld (pts:Int) false
 obtain ⟨M,hM⟩:∃ M,jA (eH st) d.p comp (q+1+c+1) d.ld (pts:Int) false=M:=⟨_,rfl⟩
 have hne:M.1.nEnd=d.p.nEnd:=by
  rw[← hM];have:=(tM (E:=eH st) (p:=d.p) (comp:=comp) (i:=q+1+c+1) (ld:=d.ld) (nd:=(pts:Int)) (last:=false) (N:=T.size) (by unfold idHigh;rw[if_neg A.rel.ne,A.ld];omega) (by unfold idHigh;rw[if_neg A.rel.ne,A.ld,hsz];omega) (by rw[A.rel.s])).2.1;exact this
 obtain ⟨r',hr'⟩:∃ r',lS st comp sc pts r.1 (name.extract (c+1) r.2) (c:Int)=r':=⟨_,rfl⟩
 have hext:r'.ext≠⟨#[]⟩:=by rw[← hr',qT];exact A.ext
 rw[hM] at R hm hlay hkeep;rw[hr'] at R hm hr
 have hd:mB (eH st) comp (pts:Int) d (q+1+c) = { d with p:={ M.1 with nEnd:=if M.2=true then ((q+1+c:Nat):Int) else d.p.nEnd },ld:=q+1+c }:=by
  unfold mB;rw[uV A.chi,hM];unfold mL
  by_cases h:M.2=true
  ·rw[if_pos h,if_pos h];rfl
  rw[if_neg h,if_neg h,← hne]
 have hre:kB r'.marks (n.length:Int)=if M.2=true then (c:Int) else kB r.1.marks (n.length:Int):=by
  rw[hm]
  by_cases h:M.2=true
  ·rw[if_pos h,if_pos h,xT,if_pos ⟨aM,by have:=A.le;omega⟩]
  rw[if_neg h,if_neg h]
 rw[hd,hr];refine ⟨⟨R.s,R.typ,R.ids,R.unk,⟨R.ix.lang,R.ix.fmt,R.ix.kind,R.ix.cust,R.ix.pfmt,R.ix.pkind,R.ix.play,R.ix.pl,R.ix.langs,R.ix.lne,R.ix.pos⟩,R.lay,R.hl,R.hk,R.base,R.dis,R.ext⟩,rfl,rfl,hkeep.cHigh.trans A.chi,?_,?_,?_,?_,?_,hext⟩
 ·show (if M.2=true then ((q+1+c:Nat):Int) else d.p.nEnd)=_;rw[hre];split
  ·omega
  exact A.nEnd
 ·rw[hre];split
  ·exact Int.le_refl _
  have:=A.le;omega
 ·rw[hre];split
  ·omega
  exact A.lt
 ·show ∀ x,M.1.known[M.1.lay.toNat]? = some x→M.1.lay≠-1→_;intro x hx hl;rcases hlay with ⟨e1,e2⟩ | ⟨_,h,e2⟩
  ·rw[e1] at hx hl;rcases A.rel.layPos with h0 | h0
   ·exact absurd h0 hl
   have hlt:d.p.lay.toNat < d.p.known.length:=by omega
   have:=e2 _ (List.getElem?_eq_getElem hlt) hl;rw[hx] at this;injection this with this
   rw[this];exact A.low _ (List.getElem?_eq_getElem hlt) hl
  rw[hx] at e2;injection e2 with e2
  rw[e2];show (q:Int)+1 < ((q+1+c+1:Nat):Int);omega
 show ∃ c∈eP ((L T).drop (q+1)),kB r'.marks (n.length:Int)=(c:Int);rw[hre];split
 ·exact ⟨c,by rw[← hq,S.eq,List.drop_left];exact hc,rfl⟩
 exact A.mem
theorem At.steps (S:mX (L T) pre n) (hq:pre.length=q+1) {name:ByteArray} (hn:L name=n) (K:nX (eO comp) n) (SE:qQ st) (pts:Nat):∀ (todo:List Nat) (e:Nat) (tail:List Nat) (d:DoV) (r:RV×Nat),eP n=todo.reverse++e::tail→At st comp sc T q n.length e d r →
 ∃ e',(eP n).head? = some e'∧At st comp sc T q n.length e' ((todo.map (q+1 + ·)).foldl (mB (eH st) comp (pts:Int)) d) (todo.foldl (nE st comp sc pts name) r)
 | [],e,tail,d,r,h,A=>⟨e,by rw[h];rfl,A⟩
 | c::todo,e,tail,d,r,h,A=>by
  obtain ⟨hup,hlt⟩:=rN S;have h' : eP n=todo.reverse++c::e::tail:=by rw[h];simp
  have hce:c < e:=by
   rw[h',List.pairwise_append] at hup;exact (List.pairwise_cons.1 hup.2.1).1 e bJ
  have hne:eP n≠[]:=by rw[h'];simp
  have hstep:=A.step S hq hn K SE pts (c:=c) (by rw[h'];simp) hce (hlt e (by rw[h'];simp)) (fun hl=>K.words hl hne _ (by rw[h'];exact zF n c e tail _ 0));exact At.steps S hq hn K SE pts todo c (e::tail) _ _ h' hstep
theorem aG7 (S:mX (L T) pre n) (hq:pre.length=q+1) {name:ByteArray} (hn:L name=n) (K:nX (eO comp) n) (SE:qQ st) {p:eE} (hp:p = { fM with comp:=comp,s:=T,typ:=if sc then 7 else 0 }) (hne:eP n≠[]) :
 Rel st comp sc T (lT (eH st) comp p q n) (gL st comp sc name (eP n))∧(lT (eH st) comp p q n).nEnd=(q:Int)+1+kB (gL st comp sc name (eP n)).marks n.length ∧
 (∃ c∈eP n,kB (gL st comp sc name (eP n)).marks n.length=(c:Int))∧(gL st comp sc name (eP n)).ext≠⟨#[]⟩ ∧
 (sc=true→∀ x,(lT (eH st) comp p q n).known[(lT (eH st) comp p q n).lay.toNat]? = some x→(lT (eH st) comp p q n).lay≠-1→(q:Int)+1 < x.1):=by
 obtain ⟨c0,hc0⟩:∃ c,(eP n).getLast? = some c:=by
  cases h:(eP n).getLast? with
  | none=>exact absurd (List.getLast?_eq_none_iff.1 h) hne
  | some c=>exact ⟨c,rfl⟩
 obtain ⟨front,hfront⟩:=List.getLast?_eq_some_iff.1 hc0;have hrev:(eP n).reverse=c0::front.reverse:=by rw[hfront];simp
 have A0:=At.start (st:=st) (sc:=sc) S hq hn K (eP n).length hc0 hp;obtain ⟨e,he,A⟩:=At.steps S hq hn K SE (eP n).length front.reverse c0 [] _ _ (by rw[List.reverse_reverse];exact hfront) A0
 have e1:nS (eH st) comp p (q+1) n=(front.reverse.map (q+1 + ·)).foldl (mB (eH st) comp ((eP n).length:Int)) (mB (eH st) comp ((eP n).length:Int) ⟨p,0,0⟩ (q+1+c0)):=by
  unfold nS;rw[hrev];rfl
 have e2:gL st comp sc name (eP n)=mC st comp sc (eP n).length (front.reverse.foldl (nE st comp sc (eP n).length name) (nE st comp sc (eP n).length name (kV,name.size) c0)).1 (name.extract 0 (front.reverse.foldl (nE st comp sc (eP n).length name) (nE st comp sc (eP n).length name (kV,name.size) c0)).2) (-1):=by
  unfold gL;rw[if_neg hne,hrev];rfl
 obtain ⟨d,hd⟩:∃ d,nS (eH st) comp p (q+1) n=d:=⟨_,rfl⟩
 rw[← e1,hd] at A
 obtain ⟨r,hr⟩:∃ r,front.reverse.foldl (nE st comp sc (eP n).length name) (nE st comp sc (eP n).length name (kV,name.size) c0)=r:=⟨_,rfl⟩
 rw[hr] at A e2;have hsz:T.size=q+1+n.length:=by rw[← eD,S.eq,List.length_append,hq]
 have hen:e < n.length:=(rN S).2 e (List.mem_of_head? he)
 have hword:T.extract (q+1) d.ld=name.extract 0 r.2:=by
  rw[A.ld,A.re];exact sB S hq hn 0 e
 have hLw:L (name.extract 0 r.2)=(n.drop 0).take (e - 0):=by rw[eN,hn,A.re]
 have hokw:eO comp=true→okW (L (name.extract 0 r.2)):=by
  intro hl;rw[hLw];refine K.words hl hne _ ?_
  cases hs:eP n with
  | nil=>exact absurd hs hne
  | cons a t =>
   rw[hs] at he;injection he with he
   rw[he];exact List.mem_cons_self ..
 obtain ⟨R,hm⟩:=A.rel.later SE A.ext (lo:=q+1) (ld:=d.ld) hword (by rw[A.ld,hsz];omega) hokw (eP n).length true (-1) bF;have hlay:=aAr (E:=eH st) (p:=d.p) (comp:=comp) (lo:=q+1) (ld:=d.ld) (nd:=((eP n).length:Int)) (last:=true) A.rel.layPos
 obtain ⟨M,hM⟩:∃ M,jA (eH st) d.p comp (q+1) d.ld ((eP n).length:Int) true=M:=⟨_,rfl⟩
 have hnE:M.1.nEnd=d.p.nEnd:=by
  rw[← hM];exact (tM (E:=eH st) (p:=d.p) (comp:=comp) (i:=q+1) (ld:=d.ld) (nd:=((eP n).length:Int)) (last:=true) (N:=T.size) (by unfold idHigh;rw[if_neg A.rel.ne,A.ld];omega) (by unfold idHigh;rw[if_neg A.rel.ne,A.ld,hsz];omega) (by rw[A.rel.s])).2.1
 have e3:gL st comp sc name (eP n)=lS st comp sc (eP n).length r.1 (name.extract 0 r.2) (-1):=by
  rw[e2];unfold mC;rw[if_neg A.rel.idsNe]
 rw[← e3] at R hm;have hx:(gL st comp sc name (eP n)).ext≠⟨#[]⟩:=by rw[e3,qT];exact A.ext
 obtain ⟨r',hr'⟩:∃ r',gL st comp sc name (eP n)=r':=⟨_,rfl⟩
 rw[hr'] at R hm hx ⊢;rw[hM] at R hm hlay;have hpos:¬ (M.1.nEnd≤0):=by rw[hnE,A.nEnd];have:=A.le;omega
 have e4:lT (eH st) comp p q n=M.1:=by
  unfold lT;rw[hd,if_pos (by rw[A.ld];omega),uV A.chi,hM];unfold mL
  by_cases h:M.2=true
  ·rw[if_pos h,if_pos rfl,if_neg hpos]
  rw[if_neg h]
 have hre:kB r'.marks (n.length:Int)=kB r.1.marks (n.length:Int):=by
  rw[hm]
  by_cases h:M.2=true
  ·rw[if_pos h,xT,if_neg bA]
  rw[if_neg h]
 rw[e4,hre];refine ⟨R,hnE.trans A.nEnd,?_,hx,?_⟩
 ·have:=A.mem;rw[← hq,S.eq,List.drop_left] at this;exact this
 intro hsc x hx hl;rcases hlay with ⟨e1,e2⟩ | ⟨hmay,h,e2⟩
 ·rw[e1] at hx hl;rcases A.rel.layPos with h0 | h0
  ·exact absurd h0 hl
  have hlt:d.p.lay.toNat < d.p.known.length:=by omega
  have:=e2 _ (List.getElem?_eq_getElem hlt) hl;rw[hx] at this;injection this with this
  rw[this];exact A.low _ (List.getElem?_eq_getElem hlt) hl
 exfalso;unfold kZ at hmay;rw[A.rel.typ,hsc] at hmay
 simp at hmay
end
structure WV where
 comp:ByteArray
 path:ByteArray
 name:ByteArray
 nEnd:Nat
 ids:List ByteArray
 unk:List ByteArray
 langs:List ByteArray
 ext:ByteArray
 fmt:ByteArray
 kind:ByteArray
 lay:ByteArray
 lang:ByteArray
 cust:ByteArray
 dis:Bool
 typ:Int
def chooseB (a b:ByteArray):ByteArray:=if a=⟨#[]⟩ then b else a
def mO (st:fF) (comp:ByteArray) (path nm:List UInt8) (pointed:Bool) (ext:ByteArray) (baseof:Bool):Int :=
 if (pointed=true∧(jS comp || kI comp)=true∧listed st.cont ext=true)∧nm≠[] then
  if nm=nR then 3 else if nm=mU then 4 else 2
 else if (pointed=true∧nm=lH∧L ext=mT)∧eO comp=false then 5
 else if (pointed=true∧nm=lH∧L ext=mT)∧baseof=true then 9
 else if eY path fS=true then 7
 else if eO comp=true∧baseof=true then 9
 else if eO comp=true∧eY path jV=true then 6
 else if eO comp=true∧jC.isPrefixOf path=true then 8
 else if pointed=true∧nm=lH∧L ext=mT then 5
 else 0
def lastB (path:ByteArray):ByteArray:=⟨((L path).drop (behind (L path))).toArray⟩
def wOf (st:fF) (comp path:ByteArray):WV :=
 let name:=lastB path
 let r:=gL st comp (eY (L path) fS) name (eP (L name))
 let e:=(kB r.marks (name.size:Int)).toNat
 let f:=chooseB r.fmt r.fmt1
 { comp:=comp,path:=path,name:=name,nEnd:=e,ids:=r.ids,unk:=r.unk,langs:=r.langs,ext:=r.ext,fmt:=if eO comp=true∧f=⟨#[]⟩∧eP (L name)≠[]∧gX st r.ext=true then r.ext else f,kind:=chooseB r.kind r.kind1,lay:=chooseB r.lay r.lay1,lang:=(match r.langs with | []=>r.lang1 | l::_=>l),cust:=r.cust,dis:=r.dis,typ:=mO st comp (L path) (L (name.extract 0 e)) (!r.ids.isEmpty) r.ext r.baseof }
def slB (l:List UInt8):Nat→Option Nat
 | 0=>none
 | i+1=>if l[i]? = some 47 then some i else slB l i
def hL (path:ByteArray):ByteArray :=
 match slB (L path) path.size with
 | some (a+1)=>path.extract 0 (a+1)
 | _=>⟨#[47]⟩
def jB (path:ByteArray):ByteArray :=
 match slB (L path) path.size with
 | some (a+1)=>lastB (path.extract 0 (a+1))
 | _=>⟨#[]⟩
def jG (l:List UInt8):Nat:=(l.filter fun c=>c==47).length
def qN (path:ByteArray) (typ:Int):ByteArray :=
 if jG ((L path).drop 1)=0∨(jG ((L path).drop 1)=1∧typ=3) then ⟨#[]⟩ else ⟨(((L path).drop 1).takeWhile fun c=>c != 47).toArray⟩
def jL (t:Int):Bool:=decide (3≤t∧t≤5)
def qV (w:WV):ByteArray:=w.path.extract 0 (w.path.size - w.name.size)
def kE (w:WV):ByteArray:=if w.ids=[] then w.path else qV w++w.name.extract 0 w.nEnd
def lL (w:WV):ByteArray :=
 if w.ids=[] then (if w.path=⟨#[47]⟩∧2≤w.typ∧w.typ≤5 then ⟨#[]⟩ else w.path)
 else if jL w.typ=true then (if hL w.path=⟨#[47]⟩ then ⟨#[]⟩ else hL w.path)
 else if w.typ=2 then kE w
 else if w.ids.length=1 then w.path
 else kE w++⟨#[46]⟩++w.ext
def mG (w:WV):ByteArray:=if w.lang=⟨#[]⟩ then w.path else qV w++w.name.extract 0 w.nEnd++⟨#[46]⟩++w.ext
def kH (w:WV) (s:ByteArray):ByteArray:=if w.ids=[] then s else s.extract 0 (s.size - w.ext.size - 1)
def mN (w:WV):ByteArray :=
 if jL w.typ=true∧jB w.path≠⟨#[]⟩ then (hL w.path).extract 0 ((slB (L (hL w.path)) (hL w.path).size).getD 0) else hL w.path
def lJ (w:WV):gN where
 component:=w.comp
 container:=jB w.path
 containerDir:=mN w
 section_:=qN w.path w.typ
 name:=w.name
 nameNoExt:=kH w w.name
 baseName:=if jL w.typ=true then jB w.path else w.name.extract 0 w.nEnd
 nameNoId:=w.name.extract 0 w.nEnd
 dir:=hL w.path
 path:=w.path
 pathNoLang:=mG w
 pathNoId:=kE w
 pathBefore:=kH w w.path
 base:=lL w
 idBase:=if eO w.comp=true then w.path else lL w
 ext:=w.ext
 fmt:=w.fmt
 kind:=w.kind
 layout:=w.lay
 lang:=w.lang
 custom:=w.cust
 langs:=w.langs
 ids:=w.ids
 unk:=w.unk
 disabled:=w.dis
 isContent:=decide (1≤w.typ∧w.typ≤5)
 isBundle:=jL w.typ
 isBranch:=w.typ==4
 isLeaf:=w.typ==3
 isData:=w.typ==5
 typ:=w.typ
theorem aGz {st:fF} {comp T:ByteArray} {d:DoV} {r:RV} {nm:List UInt8} (hs:d.p.s=T) (ht:d.p.trim=false) (hc:d.p.comp=comp) (htyp:d.p.typ=if eY (L T) fS then 7 else 0)
 (hids:r.ids=[]↔d.p.known=[]) (hext:d.p.known≠[]→fE d.p 0=r.ext) (hbase:r.baseof=(d.p.base != -1)) (hb0:d.p.known=[]→d.p.base = -1)
 (hnm:L (sub (gD d.p).s (gD d.p).nLow (gD d.p).nHigh)=nm) (hlt:(gD d.p).nLow < (gD d.p).nHigh↔nm≠[])
 (hstrike:eY (L T) fS=true→d.p.lay≠-1→(d.p.known.getD d.p.lay.toNat (0,0)).1≠d.p.cHigh) :
 sI (eH st) comp d = { gD d.p with typ:=mO st comp (L T) nm (!r.ids.isEmpty) r.ext r.baseof,sec:=if mO st comp (L T) nm (!r.ids.isEmpty) r.ext r.baseof=3∧d.sc=2 then 0 else d.p.sec }:=by
 have ecl:eO comp=true→jS comp=false∧kI comp=false:=by
  intro h;unfold eO at h;have h:=beq_iff_eq.1 h;unfold jS kI;rw[h];exact ⟨by decide,by decide⟩
 have hn7:∀ x:eE,x.trim=false→x.s=T→(nrm x.trim x.s).data.toList=L T:=by
  intro x h1 h2;rw[h1,h2];rfl
 -- the third sort never strikes
 have s3:∀ x:eE,x.lay=d.p.lay→x.known=d.p.known→x.cHigh=d.p.cHigh→(x.typ=7→eY (L T) fS=true)→lP x=x:=by
  intro x h1 h2 h3 h4;unfold lP;rw[if_neg];rintro ⟨c1,c2,c3⟩;rw[h1,h2,h3] at *;exact hstrike (h4 c1) c2 c3
 obtain ⟨sh,hsh⟩:∃ x,eY (L T) fS=x:=⟨_,rfl⟩
 have P0:(gD d.p).typ=if sh then 7 else 0:=by rw[← hsh];exact htyp
 have Pid:fE (gD d.p) 0=fE d.p 0:=rfl;have Pk:(gD d.p).known=d.p.known:=rfl;have Pc:(gD d.p).comp=comp:=hc
 -- the second sort
 have s2:∀ x:eE,x.trim=false→x.s=T→x.base=d.p.base→x.typ < 6∨x.typ=7 →
  kQ comp x = { x with typ:=if x.typ < 6∧eO comp=true then (if r.baseof=true then 9 else if sh=true then 7 else if eY (L T) jV=true then 6 else if jC.isPrefixOf (L T)=true then 8 else x.typ) else x.typ }:=by
  intro x h1 h2 h3 h4;have hb' : r.baseof=(x.base != -1):=by rw[h3];exact hbase
  unfold kQ;rw[hn7 x h1 h2,hsh,hb']
  by_cases c1:x.typ < 6∧eO comp=true
  ·rw[if_pos c1,if_pos c1]
   by_cases c2:x.base = -1
   ·have e1:¬ (x.base≠-1):=fun h=>h c2;have e2:¬ ((x.base != -1)=true):=by rw[c2];decide
    rw[if_neg e1,if_neg e2]
    cases sh with
    | true=>rfl
    | false =>
     cases eY (L T) jV with
     | true=>rfl
     | false =>
      cases jC.isPrefixOf (L T) with
      | true=>rfl
      | false=>rfl
   have e2:(x.base != -1)=true:=bne_iff_ne.2 c2;rw[if_pos c2,if_pos e2]
  rw[if_neg c1,if_neg c1]
 have fin:∀ (x:eE) (R:Int),iA (eH st) d.sc (gD d.p)=x→x.trim=false→x.s=T→x.base=d.p.base→x.lay=d.p.lay→x.known=d.p.known→x.cHigh=d.p.cHigh→(x.typ < 6∨x.typ=7) →
  (if x.typ < 6∧eO comp=true then (if r.baseof=true then (9:Int) else if sh=true then 7 else if eY (L T) jV=true then 6 else if jC.isPrefixOf (L T)=true then 8 else x.typ) else x.typ)=R→(R=7→eY (L T) fS=true)→sI (eH st) comp d = { x with typ:=R }:=by
  intro x R h1 h2 h3 h4 h5 h6 h7 h8 h9 h10;unfold sI;rw[h1,s2 x h2 h3 h4 h8,h9];exact s3 { x with typ:=R } h5 h6 h7 h10
 by_cases hk:d.p.known=[]
 ·
  have hi:r.ids=[]:=hids.2 hk;have s1:iA (eH st) d.sc (gD d.p)=gD d.p:=by unfold iA;rw[if_pos (show (gD d.p).known=[] from hk)]
  have hb:r.baseof=false:=by rw[hbase,hb0 hk];rfl
  have hR:mO st comp (L T) nm (!r.ids.isEmpty) r.ext r.baseof=if sh=true then 7 else if eO comp=true∧eY (L T) jV=true then 6 else if eO comp=true∧jC.isPrefixOf (L T)=true then 8 else 0:=by
   unfold mO;rw[hi,hb,hsh]
   simp
  obtain ⟨R,hRR⟩:∃ R,mO st comp (L T) nm (!r.ids.isEmpty) r.ext r.baseof=R:=⟨_,rfl⟩
  rw[hRR] at hR ⊢
  have h3:¬ (R=3∧d.sc=2):=by
   rintro ⟨h,_⟩;rw[hR] at h
   revert h
   cases sh <;> cases eO comp <;> cases eY (L T) jV <;> cases jC.isPrefixOf (L T) <;> decide
  rw[if_neg h3];refine fin (gD d.p) R s1 ht hs rfl rfl rfl rfl (by rw[P0];cases sh <;> decide) ?_ ?_
  ·rw[P0,hb,hR];cases sh <;> cases eO comp <;> cases eY (L T) jV <;> cases jC.isPrefixOf (L T) <;> rfl
  intro h;rw[hR] at h;rw[hsh]
  revert h
  cases sh <;> cases eO comp <;> cases eY (L T) jV <;> cases jC.isPrefixOf (L T) <;> decide
 have hi:(!r.ids.isEmpty)=true:=by
  cases h:r.ids with
  | nil=>exact absurd (hids.1 h) hk
  | cons a l=>rfl
 rw[hi];have hex:=hext hk
 have hisc:((jS (gD d.p).comp || kI (gD d.p).comp) && (eH st).cont (fE (gD d.p) 0))=((jS comp || kI comp) && listed st.cont r.ext):=by
  rw[Pc,Pid,hex];rfl
 have hext0:(fE (gD d.p) 0).toList=L r.ext:=by rw[Pid,hex,L_toList]
 have hnm2:(sub (gD d.p).s (gD d.p).nLow (gD d.p).nHigh).toList=nm:=by rw[L_toList];exact hnm
 obtain ⟨R,hRR⟩:∃ R,mO st comp (L T) nm true r.ext r.baseof=R:=⟨_,rfl⟩
 rw[hRR]
 by_cases c1:((jS comp || kI comp)=true∧listed st.cont r.ext=true)∧nm≠[]
 ·
  have hl:eO comp=false:=by
   cases h:eO comp with
   | false=>rfl
   | true =>
    obtain ⟨h1,h2⟩:=ecl h;rw[h1,h2] at c1;exact absurd c1.1.1 bF
  have hR:R=if nm=nR then 3 else if nm=mU then 4 else 2:=by
   rw[← hRR];unfold mO;rw[if_pos (show (true=true∧(jS comp || kI comp)=true∧listed st.cont r.ext=true)∧nm≠[] from ⟨⟨rfl,c1.1.1,c1.1.2⟩,c1.2⟩)]
  have hc9:((jS comp || kI comp) && listed st.cont r.ext)=true:=by rw[c1.1.1,c1.1.2];rfl
  have s1:iA (eH st) d.sc (gD d.p) = { gD d.p with typ:=R,sec:=if R=3∧d.sc=2 then 0 else d.p.sec }:=by
   unfold iA;rw[if_neg (show ¬ ((gD d.p).known=[]) from hk)];simp only[hisc,hnm2,hc9,if_pos (hlt.2 c1.2),if_true]
   by_cases d1:nm=nR
   ·rw[if_pos d1] at hR;subst hR;rw[if_pos d1]
    by_cases d2:d.sc=2
    ·rw[if_pos d2,if_pos (show (3:Int)=3∧d.sc=2 from ⟨rfl,d2⟩)]
    rw[if_neg d2,if_neg (fun h=>d2 h.2:¬ ((3:Int)=3∧d.sc=2))];rfl
   rw[if_neg d1] at hR;rw[if_neg d1]
   by_cases d2:nm=mU
   ·rw[if_pos d2] at hR;subst hR;rw[if_pos d2,if_neg (by rintro ⟨h,_⟩;omega:¬ ((4:Int)=3∧d.sc=2))];rfl
   rw[if_neg d2] at hR;subst hR;rw[if_neg d2,if_neg (by rintro ⟨h,_⟩;omega:¬ ((2:Int)=3∧d.sc=2))];rfl
  have hty:R < 6:=by
   rw[hR];split
   ·decide
   split <;> decide
  exact fin _ R s1 ht hs rfl rfl rfl rfl (.inl hty) (by rw[hl];show (if R < 6∧false=true then _ else R)=R;rw[if_neg bJ]) (by intro h;exfalso;omega)
 have hnot:¬ ((true=true∧(jS comp || kI comp)=true∧listed st.cont r.ext=true)∧nm≠[]):=fun h=>c1 ⟨⟨h.1.2.1,h.1.2.2⟩,h.2⟩
 obtain ⟨dt,hdt⟩:∃ b:Bool,decide (nm=lH∧L r.ext=mT)=b:=⟨_,rfl⟩
 have s1:iA (eH st) d.sc (gD d.p) = { gD d.p with typ:=if dt=true then 5 else (gD d.p).typ }:=by
  unfold iA;rw[if_neg (show ¬ ((gD d.p).known=[]) from hk)];simp only[hisc,hnm2,hext0]
  by_cases c2:nm=[]
  ·have hd:dt=false:=by rw[← hdt];exact decide_eq_false (by rintro ⟨h,_⟩;rw[c2] at h;cases h)
   rw[if_neg (fun h=>(hlt.1 h) c2),hd];rfl
  have hc9:¬ (((jS comp || kI comp) && listed st.cont r.ext)=true):=by intro h;rw[Bool.and_eq_true] at h;exact c1 ⟨h,c2⟩
  rw[if_pos (hlt.2 c2),if_neg hc9]
  cases dt with
  | true=>rw[if_pos (of_decide_eq_true hdt)];rfl
  | false=>rw[if_neg (of_decide_eq_false hdt)];rfl
 have hR:R=if eO comp=true then (if dt=true∧r.baseof=true then 9 else if sh=true then 7 else if r.baseof=true then 9 else if eY (L T) jV=true then 6 else if jC.isPrefixOf (L T)=true then 8 else if dt=true then 5 else 0) else if dt=true then 5 else if sh=true then 7 else 0:=by
  rw[← hRR];unfold mO;rw[if_neg hnot,hsh]
  cases dt with
  | true =>
   have h:=of_decide_eq_true hdt;simp only[h.1,h.2,true_and,and_true,and_self,if_true];cases eO comp <;> cases r.baseof <;> cases sh <;> simp
  | false =>
   have h:¬ (true=true∧nm=lH∧L r.ext=mT):=fun h=>of_decide_eq_false hdt h.2;rw[if_neg (fun g=>h g.1),if_neg (fun g=>h g.1),if_neg h];cases eO comp <;> cases r.baseof <;> cases sh <;> simp
 have h3:¬ (R=3∧d.sc=2):=by
  rintro ⟨h,_⟩;rw[hR] at h
  revert h
  cases dt <;> cases r.baseof <;> cases sh <;> cases eO comp <;> cases eY (L T) jV <;> cases jC.isPrefixOf (L T) <;> decide
 rw[if_neg h3];refine fin { gD d.p with typ:=if dt=true then 5 else (gD d.p).typ } R s1 ht hs rfl rfl rfl rfl ?_ ?_ ?_
 ·show (if dt=true then (5:Int) else (gD d.p).typ) < 6∨(if dt=true then (5:Int) else (gD d.p).typ)=7;rw[P0];cases dt <;> cases sh <;> decide
 ·show (if (if dt=true then (5:Int) else (gD d.p).typ) < 6∧eO comp=true then (if r.baseof=true then (9:Int) else if sh=true then 7 else if eY (L T) jV=true then 6 else if jC.isPrefixOf (L T)=true then 8 else (if dt=true then (5:Int) else (gD d.p).typ)) else (if dt=true then (5:Int) else (gD d.p).typ))=R;rw[P0,hR];cases dt <;> cases r.baseof <;> cases sh <;> cases eO comp <;> cases eY (L T) jV <;> cases jC.isPrefixOf (L T) <;> rfl
 intro h;rw[hR] at h;rw[hsh]
 revert h
 cases dt <;> cases r.baseof <;> cases sh <;> cases eO comp <;> cases eY (L T) jV <;> cases jC.isPrefixOf (L T) <;> decide
open Go.RowKit Go.ZW.PrintWords Go.Proofs.YtlkoeeccebmjmaaGreatDoor.Base Go.Proofs.YtlkoeeccebmjmaaGreatDoor.Lower
theorem aEm (c:UInt8):lN (jI c)=47↔c=47:=by
 have hn:∀ d:UInt8,d=47↔d.toNat=47:=fun d=>⟨fun h=>by rw[h];rfl,fun h=>UInt8.toNat_inj.1 h⟩
 by_cases h1:65≤c.toNat∧c.toNat≤90
 ·have e1:jI c=c+32:=by unfold jI;rw[if_pos h1]
  have e2:(c+32).toNat=c.toNat+32:=by
   rw[UInt8.toNat_add,show (32:UInt8).toNat=32 from rfl];omega
  have e3:c+32≠32:=by
   intro h;have:=congrArg UInt8.toNat h;rw[e2,show (32:UInt8).toNat=32 from rfl] at this;omega
  have e4:lN (c+32)=c+32:=by unfold lN;rw[if_neg e3]
  rw[e1,e4,hn,hn,e2];omega
 have e1:jI c=c:=by unfold jI;rw[if_neg h1]
 rw[e1];unfold lN
 by_cases h2:c=32
 ·rw[if_pos h2,h2];decide
 rw[if_neg h2]
theorem aBe {l:List UInt8} (h:∀ i:Nat,¬ (l[i]? = some 47∧l[i+1]? = some 47)):∀ i:Nat,¬ ((gY l)[i]? = some 47∧(gY l)[i+1]? = some 47):=by
 have hlead:∀ i:Nat,¬ ((kG l)[i]? = some 47∧(kG l)[i+1]? = some 47):=by
  intro i;unfold kG;split
  ·rintro ⟨_,h2⟩;simp at h2
  split
  ·exact h i
  rename_i h0 h1
  rintro ⟨h2,h3⟩
  cases i with
  | zero =>
   rw[List.getElem?_cons_succ,← List.head?_eq_getElem?] at h3;exact h1 h3
  | succ i =>
   rw[List.getElem?_cons_succ] at h2 h3;exact h i ⟨h2,h3⟩
 intro i;unfold gY;simp only;split
 ·rintro ⟨h2,h3⟩
  have e:∀ k:Nat,(kG l).dropLast[k]? = some 47→(kG l)[k]? = some 47:=by
   intro k hk;rw[List.getElem?_dropLast] at hk;split at hk
   ·exact hk
   cases hk
  exact hlead i ⟨e _ h2,e _ h3⟩
 exact hlead i
theorem vB {s:ByteArray} (h:∀ i:Nat,¬ ((L s)[i]? = some 47∧(L s)[i+1]? = some 47)):∀ i:Nat,¬ ((L (norm s))[i]? = some 47∧(L (norm s))[i+1]? = some 47):=by
 intro i;rw[aF1,List.getElem?_map,List.getElem?_map,Option.map_eq_some_iff,Option.map_eq_some_iff];rintro ⟨⟨a,h1,h2⟩,⟨b,h3,h4⟩⟩;rw[(aEm a).1 h2] at h1;rw[(aEm b).1 h4] at h3;exact h i ⟨h1,h3⟩
end Go.Proofs.YtlkoeeccebmjmaaGreatDoor.Path
