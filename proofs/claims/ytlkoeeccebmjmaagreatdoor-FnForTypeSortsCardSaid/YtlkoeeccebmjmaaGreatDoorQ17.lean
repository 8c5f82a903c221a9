/- Texts that the law leans on: Spec, Spec2, Spec3. Condition: as told at each. -/
import Derived.Test.YtlkoeeccebmjmaaGreatDoorQa
import Derived.Test.YtlkoeeccebmjmaaGreatDoorQ16
set_option linter.unusedVariables false
set_option linter.unusedSimpArgs false
set_option maxRecDepth 100000
set_option maxHeartbeats 16000000
namespace Go.Proofs.YtlkoeeccebmjmaaGreatDoor.Path
open Go.RowKit Go.ZW.PrintWords Go.Proofs.YtlkoeeccebmjmaaGreatDoor.Base Go.Proofs.YtlkoeeccebmjmaaGreatDoor.Total Go.Proofs.YtlkoeeccebmjmaaGreatDoor.Lower
structure RV where
 ids:List ByteArray
 unk:List ByteArray
 langs:List ByteArray
 ext:ByteArray
 fmt:ByteArray
 kind:ByteArray
 lay:ByteArray
 cust:ByteArray
 dis:Bool
 marks:List Int
 lang1:ByteArray
 fmt1:ByteArray
 kind1:ByteArray
 lay1:ByteArray
 hasLang:Bool
 hasKind:Bool
 baseof:Bool
 layAt:Int
def kZ:RV:=⟨[],[],[],⟨#[]⟩,⟨#[]⟩,⟨#[]⟩,⟨#[]⟩,⟨#[]⟩,false,[],⟨#[]⟩,⟨#[]⟩,⟨#[]⟩,⟨#[]⟩,false,false,false,-1⟩
def RV.id (r:RV) (t:ByteArray) (k:Int):RV:={ r with ids:=r.ids++[t],marks:=r.marks++[k] }
def gU (x pre:ByteArray):Bool:=(L pre).isPrefixOf (L (low x))
def gX (x pre:ByteArray):ByteArray:=x.extract pre.size x.size
def gZ (st:fO) (n:ByteArray):Bool:=st.fmts.any fun x=>x.1.toList==n.toList
def jS (st:fO) (n e:ByteArray):Bool:=st.fmts.any fun x=>x.1.toList==n.toList && x.2.toList==e.toList
def vS:List UInt8:=[98,97,115,101,111,102]
def fR (word:ByteArray):ByteArray:=word.extract 1 (word.size - 1)
def jJ (st:fO) (lay:Bool) (r:RV) (word x:ByteArray) (k:Int):RV :=
 if gU x fI=true∧(listed st.langs (low (gX x fI)) || listed st.dis (low (gX x fI)))=true then
  { r.id (gX x fI) k with langs:=r.langs++[gX x fI],dis:=r.dis || !listed st.langs (low (gX x fI)) }
 else if lay=true∧gU x gK=true∧gZ st (low (gX x gK))=true then { r.id (gX x gK) k with fmt:=gX x gK }
 else if lay=true∧gU x gC=true∧isKind (gX x gC)=true then { r.id (gX x gC) k with kind:=gX x gC }
 else if lay=true∧gU x fS=true then { r.id (gX x fS) k with lay:=gX x fS }
 else { r.id word k with cust:=x }
def jK (st:fO) (comp:ByteArray) (sc:Bool) (pts:Nat) (r:RV) (word:ByteArray) (k:Int):RV :=
 if ((jX comp || eQ comp)=true∧2≤pts∧r.hasLang=false)∧(listed st.langs word || listed st.dis word)=true then
  { r.id word k with lang1:=word,hasLang:=true,dis:=r.dis || !listed st.langs word }
 else if eQ comp=true∧jS st word r.ext=true then { r.id word k with fmt1:=word }
 else if eQ comp=true∧r.hasKind=false∧isKind word=true then { r.id word k with kind1:=word,hasKind:=true }
 else if word.toList=vS then { r.id word k with baseof:=true }
 else if eQ comp=true∧¬ (sc=true∧k < 0) then
  if r.layAt < 0 then { r.id word k with layAt:=r.ids.length,lay1:=word }
  else { r with unk:=r.unk++[r.lay1],ids:=r.ids.set r.layAt.toNat word,marks:=r.marks++[k],lay1:=word }
 else { r with unk:=r.unk++[word] }
def oR (r:RV) (word:ByteArray) (k:Int):RV:={ r.id word k with ext:=word }
def lV (st:fO) (comp:ByteArray) (sc:Bool) (pts:Nat) (r:RV) (word:ByteArray) (k:Int):RV :=
 if iH (L word)=true then jJ st (eQ comp) r word (fR word) k else jK st comp sc pts r word k
def mB (st:fO) (comp:ByteArray) (sc:Bool) (pts:Nat) (r:RV) (word:ByteArray) (k:Int):RV :=
 if r.ids=[] then oR r word k else lV st comp sc pts r word k
def kF (marks:List Int) (N:Int):Int:=marks.foldl (fun e m=>if 0≤m∧m < e then m else e) N
def Ix (p:eI) (i:Int) (t:ByteArray):Prop:=0≤i∧i≠p.lay∧∃ x,p.known[i.toNat]? = some x∧sub p.s x.1 x.2=t
def Ox (p:eI) (i:Int) (t:ByteArray):Prop:=(i = -1∧t=⟨#[]⟩)∨(Ix p i t∧t≠⟨#[]⟩)
theorem Ix.str {p:eI} {i:Int} {t:ByteArray} (h:Ix p i t):fG p i=t:=by
 obtain ⟨h0,_,x,hx,ht⟩:=h;unfold fG;rw[if_neg bA,hx];exact ht
theorem Ox.str {p:eI} {i:Int} {t:ByteArray} (h:Ox p i t):fG p i=t:=by
 rcases h with ⟨rfl,rfl⟩ | ⟨h,_⟩
 ·rfl
 exact h.str
def Grown (p q:eI):Prop:=q.s=p.s∧((∃ x,q.known=p.known++[x]∧(q.lay=p.lay∨q.lay=p.known.length))∨(∃ x,q.known=p.known.set p.lay.toNat x∧q.lay=p.lay∧1≤p.lay)∨(q.known=p.known∧q.lay=p.lay))
theorem Ix.grown {p q:eI} {i:Int} {t:ByteArray} (g:Grown p q) (h:Ix p i t):Ix q i t:=by
 obtain ⟨hs,g⟩:=g;obtain ⟨h0,hl,x,hx,ht⟩:=h;have hlt:=(List.getElem?_eq_some_iff.1 hx).1;refine ⟨h0,?_,x,?_,by rw[hs];exact ht⟩
 ·rcases g with ⟨y,_,e | e⟩ | ⟨y,_,e,_⟩ | ⟨_,e⟩
  ·rw[e];exact hl
  ·rw[e];omega
  ·rw[e];exact hl
  rw[e];exact hl
 rcases g with ⟨y,e,_⟩ | ⟨y,e,_,h1⟩ | ⟨e,_⟩
 ·rw[e,List.getElem?_append_left hlt];exact hx
 ·rw[e,List.getElem?_set_ne bA];exact hx
 rw[e];exact hx
theorem Ox.grown {p q:eI} {i:Int} {t:ByteArray} (g:Grown p q) (h:Ox p i t):Ox q i t:=h.imp id (fun ⟨x,y⟩=>⟨x.grown g,y⟩)
structure yT (q:eI) (zl zf zk zc zpf zpk zpy:Int) (zs:List Int) (f0:Int) (r:RV):Prop where
 lang:Ox q zl r.lang1
 fmt:(r.fmt1=⟨#[]⟩∧zf=f0)∨(r.fmt1≠⟨#[]⟩∧Ix q zf r.fmt1)
 kind:Ox q zk r.kind1
 cust:(zc = -1∧r.cust=⟨#[]⟩)∨∃ word,Ix q zc word∧iH (L word)=true∧r.cust=fR word
 pfmt:Ox q zpf r.fmt
 pkind:Ox q zpk r.kind
 play:Ox q zpy r.lay
 pl:∀ i∈zs,Ix q i (fG q i)
 langs:r.langs=zs.map (fG q)
 lne:∀ t∈r.langs,t≠⟨#[]⟩
 pos:(zl = -1∨1≤zl)∧∀ i∈zs,1≤i
theorem yT.grown {p q:eI} {a b c d e f g:Int} {l:List Int} {f0:Int} {r:RV} (h:yT p a b c d e f g l f0 r) (G:Grown p q):yT q a b c d e f g l f0 r:=by
 have key:∀ i∈l,fG q i=fG p i:=fun i hi=>(Ix.grown G (h.pl i hi)).str;refine ⟨h.lang.grown G,h.fmt.imp id (fun ⟨x,y⟩=>⟨x,y.grown G⟩),h.kind.grown G,h.cust.imp id (fun ⟨w,x,y⟩=>⟨w,x.grown G,y⟩),h.pfmt.grown G,h.pkind.grown G,h.play.grown G,fun i hi=>?_,?_,h.lne,h.pos⟩
 ·rw[key i hi];exact (h.pl i hi).grown G
 rw[h.langs];exact List.map_congr_left (fun i hi=>(key i hi).symm)
def fmt0 (st:fO) (comp ext:ByteArray):Int:=if eQ comp && gZ st ext then 0 else -1
structure Rel (st:fO) (comp:ByteArray) (sc:Bool) (T:ByteArray) (p:eI) (r:RV):Prop where
 s:p.s=T
 typ:p.typ=if sc then 7 else 0
 ids:r.ids=kL p
 unk:r.unk=lL p
 ix:yT p p.lang p.fmt p.kind p.cust p.pfmt p.pkind p.play p.plangs (fmt0 st comp r.ext) r
 lay:(p.lay = -1∧r.layAt = -1∧r.lay1=⟨#[]⟩)∨(p.lay=r.layAt∧1≤p.lay∧∃ x,p.known[p.lay.toNat]? = some x∧sub p.s x.1 x.2=r.lay1)
 hl:r.hasLang=(p.lang != -1)
 hk:r.hasKind=(p.kind != -1)
 base:r.baseof=(p.base != -1)
 dis:p.dis=r.dis
 ext:Ix p 0 r.ext
theorem Rel.ne {st:fO} {comp T:ByteArray} {sc:Bool} {p:eI} {r:RV} (R:Rel st comp sc T p r):p.known≠[]:=by
 obtain ⟨_,_,x,hx,_⟩:=R.ext;intro h;rw[h] at hx;cases hx
structure qR (st:fO):Prop where
 lang:∀ w,(listed st.langs w || listed st.dis w)=true→w≠⟨#[]⟩
 fmt:∀ n,gZ st n=true→n≠⟨#[]⟩
theorem uM (st:fO) (n:ByteArray):lR st.fmts n ⟨#[]⟩=gZ st n:=by
 unfold lR gZ;congr 1
 funext x
 have:((⟨#[]⟩:ByteArray).toList==[])=true:=by rw[L_toList];rfl
 rw[this,Bool.true_or,Bool.and_true]
theorem aAs (st:fO) (n e:ByteArray) (he:e≠⟨#[]⟩):lR st.fmts n e=jS st n e:=by
 unfold lR jS;congr 1
 funext x
 have:(e.toList==[])=false:=by
  rw[L_toList]
  cases h:L e with
  | nil=>exact absurd (L_inj (h.trans rfl)) he
  | cons a r=>rfl
 rw[this,Bool.false_or]
theorem aBf {st:fO} {n e:ByteArray} (h:jS st n e=true):gZ st n=true:=by
 unfold jS at h;unfold gZ;rw[List.any_eq_true] at h ⊢;obtain ⟨x,hx,hh⟩:=h;rw[Bool.and_eq_true] at hh;exact ⟨x,hx,hh.1⟩
theorem zU {t:ByteArray} (h:isKind t=true):t≠⟨#[]⟩:=by
 rintro rfl;exact absurd h bG
theorem aF2 {t:ByteArray} (h:low t≠⟨#[]⟩):t≠⟨#[]⟩:=by
 rintro rfl;exact h (L_inj (by rw[rW];rfl))
theorem aG1 (c:UInt8):Lib.lowerB c=jH c:=by
 unfold Lib.lowerB Lib.isUpperB jH
 by_cases h:65≤c.toNat∧c.toNat≤90
 ·rw[if_pos h,if_pos (by simp only[Bool.and_eq_true,decide_eq_true_eq,UInt8.le_iff_toNat_le];exact h)]
 rw[if_neg h,if_neg (by simp only[Bool.and_eq_true,decide_eq_true_eq,UInt8.le_iff_toNat_le];exact h)]
theorem oC (s:ByteArray):Lib.toLowerA (L s)=L (low s):=by
 rw[rW];exact List.map_congr_left (fun c _=>aG1 c)
theorem aG3 (s:ByteArray):jM s=low s:=by
 refine L_inj ?_;show L (⟨(Lib.toLowerA (L s)).toArray⟩:ByteArray)=_;rw[kJ,oC]
theorem aGf {x a b:ByteArray} (h1:gU x a=true) (h2:gU x b=true) (h3:(L a).isPrefixOf (L b)=false) (h4:(L b).isPrefixOf (L a)=false):False:=by
 unfold gU at h1 h2;rw[List.isPrefixOf_iff_prefix] at h1 h2;rcases List.prefix_or_prefix_of_prefix h1 h2 with h | h
 ·rw[List.isPrefixOf_iff_prefix.2 h] at h3;cases h3
 rw[List.isPrefixOf_iff_prefix.2 h] at h4;cases h4
theorem prefOf_tag (x:ByteArray) :
 (iI x=fI∧gU x fI=true∧gU x gK=false∧gU x gC=false∧gU x fS=false) ∨
 (iI x=gK∧gU x fI=false∧gU x gK=true∧gU x gC=false∧gU x fS=false) ∨
 (iI x=gC∧gU x fI=false∧gU x gK=false∧gU x gC=true∧gU x fS=false) ∨
 (iI x=fS∧gU x fI=false∧gU x gK=false∧gU x gC=false∧gU x fS=true) ∨
 ((iI x≠fI∧iI x≠gK∧iI x≠gC∧iI x≠fS)∧gU x fI=false∧gU x gK=false∧gU x gC=false∧gU x fS=false):=by
 have hp:∀ a:ByteArray,Lib.hasPrefix (Lib.toLowerA (L x)) a.data.toList=gU x a:=by
  intro a;rw[oC];rfl
 have e:iI x=if gU x fI=true then fI else if gU x nD=true then nD else if gU x oW=true then oW else if gU x gK=true then gK else if gU x gC=true then gC else if gU x fS=true then fS else ⟨#[]⟩:=by
  unfold iI kY;simp only[lU];rw[← hp fI,← hp nD,← hp oW,← hp gK,← hp gC,← hp fS];rfl
 have ap:∀ a b:ByteArray,gU x a=true→(L a).isPrefixOf (L b)=false→(L b).isPrefixOf (L a)=false→gU x b=false:=by
  intro a b h1 h3 h4
  cases h2:gU x b with
  | false=>rfl
  | true=>exact (aGf h1 h2 h3 h4).elim
 rw[e]
 by_cases h1:gU x fI=true
 ·rw[if_pos h1];exact .inl ⟨rfl,h1,ap _ _ h1 bG bG,ap _ _ h1 bG bG,ap _ _ h1 bG bG⟩
 rw[if_neg h1];have g1:gU x fI=false:=by simpa using h1
 by_cases h2:gU x nD=true
 ·rw[if_pos h2];exact .inr (.inr (.inr (.inr ⟨⟨by decide,by decide,by decide,by decide⟩,g1,ap _ _ h2 bG bG,ap _ _ h2 bG bG,ap _ _ h2 bG bG⟩)))
 rw[if_neg h2]
 by_cases h3:gU x oW=true
 ·rw[if_pos h3];exact .inr (.inr (.inr (.inr ⟨⟨by decide,by decide,by decide,by decide⟩,g1,ap _ _ h3 bG bG,ap _ _ h3 bG bG,ap _ _ h3 bG bG⟩)))
 rw[if_neg h3]
 by_cases h4:gU x gK=true
 ·rw[if_pos h4];exact .inr (.inl ⟨rfl,g1,h4,ap _ _ h4 bG bG,ap _ _ h4 bG bG⟩)
 rw[if_neg h4]
 by_cases h5:gU x gC=true
 ·rw[if_pos h5];exact .inr (.inr (.inl ⟨rfl,g1,by simpa using h4,h5,ap _ _ h5 bG bG⟩))
 rw[if_neg h5]
 by_cases h6:gU x fS=true
 ·rw[if_pos h6];exact .inr (.inr (.inr (.inl ⟨rfl,g1,by simpa using h4,by simpa using h5,h6⟩)))
 rw[if_neg h6];exact .inr (.inr (.inr (.inr ⟨⟨by decide,by decide,by decide,by decide⟩,g1,by simpa using h4,by simpa using h5,by simpa using h6⟩)))
theorem aEs (s:ByteArray):isKind (low s)=isKind s:=by
 unfold isKind;rw[oC,oC];congr 1;rw[rW,rW,List.map_map];refine List.map_congr_left (fun c _=>?_);show jH (jH c)=jH c
 by_cases h:65≤c.toNat∧c.toNat≤90
 ·have e1:jH c=c+32:=by unfold jH;rw[if_pos h]
  have e2:(c+32).toNat=c.toNat+32:=by rw[UInt8.toNat_add,show (32:UInt8).toNat=32 from rfl];omega
  rw[e1];unfold jH;rw[if_neg (by rw[e2];omega)]
 have e1:jH c=c:=by unfold jH;rw[if_neg h]
 rw[e1,e1]
theorem aHl {x pre:ByteArray} (h:gU x pre=true):pre.size≤x.size:=by
 unfold gU at h;have:=(List.isPrefixOf_iff_prefix.1 h).length_le;rw[eF,eF,pP] at this;exact this
theorem aHn {T:ByteArray} {lo hi k:Nat} (h1:lo+1+k≤hi - 1) (h2:hi≤T.size):sub T ((lo+1+k:Nat):Int) ((hi - 1:Nat):Int)=(fR (T.extract lo hi)).extract k (fR (T.extract lo hi)).size:=by
 refine L_inj ?_;have e0:(T.extract lo hi).size=hi - lo:=by rw[← eF,eR];have:=eF T;simp;omega
 have e1:(fR (T.extract lo hi)).size=hi - lo - 2:=by
  unfold fR;rw[e0,← eF,eR,eR];have:=eF T
  simp
  omega
 rw[e1,iV,eR,eR];unfold fR;rw[e0,eR,eR];refine List.ext_getElem? (fun i=>?_);simp only[List.getElem?_take,List.getElem?_drop]
 by_cases h:i < hi - 1 - (lo+1+k)
 ·rw[if_pos h,if_pos bA,if_pos bA,if_pos bA];exact congrArg (fun j=>(L T)[j]?) bA
 rw[if_neg h,if_neg bA]
section
variable {st:fO} {lay:Bool} {r:RV} {word x:ByteArray} {k:Int}
def Cl (st:fO) (x:ByteArray):Prop:=gU x fI=true∧(listed st.langs (low (gX x fI)) || listed st.dis (low (gX x fI)))=true
def Cf (st:fO) (lay:Bool) (x:ByteArray):Prop:=lay=true∧gU x gK=true∧gZ st (low (gX x gK))=true
def Ck (lay:Bool) (x:ByteArray):Prop:=lay=true∧gU x gC=true∧isKind (gX x gC)=true
def Cy (lay:Bool) (x:ByteArray):Prop:=lay=true∧gU x fS=true
theorem aId (h:Cl st x):jJ st lay r word x k = { r.id (gX x fI) k with langs:=r.langs++[gX x fI],dis:=r.dis || !listed st.langs (low (gX x fI)) }:=by
 unfold jJ;rw[if_pos (show _∧_ from h)]
theorem aIb (h1:¬ Cl st x) (h:Cf st lay x):jJ st lay r word x k = { r.id (gX x gK) k with fmt:=gX x gK }:=by
 unfold jJ;rw[if_neg (show ¬ (_∧_) from h1),if_pos (show _∧_ from h)]
theorem aIc (h1:¬ Cl st x) (h2:¬ Cf st lay x) (h:Ck lay x):jJ st lay r word x k = { r.id (gX x gC) k with kind:=gX x gC }:=by
 unfold jJ;rw[if_neg (show ¬ (_∧_) from h1),if_neg (show ¬ (_∧_) from h2),if_pos (show _∧_ from h)]
theorem aIe (h1:¬ Cl st x) (h2:¬ Cf st lay x) (h3:¬ Ck lay x) (h:Cy lay x):jJ st lay r word x k = { r.id (gX x fS) k with lay:=gX x fS }:=by
 unfold jJ;rw[if_neg (show ¬ (_∧_) from h1),if_neg (show ¬ (_∧_) from h2),if_neg (show ¬ (_∧_) from h3),if_pos (show _∧_ from h)]
theorem sR (h1:¬ Cl st x) (h2:¬ Cf st lay x) (h3:¬ Ck lay x) (h4:¬ Cy lay x):jJ st lay r word x k = { r.id word k with cust:=x }:=by
 unfold jJ;rw[if_neg (show ¬ (_∧_) from h1),if_neg (show ¬ (_∧_) from h2),if_neg (show ¬ (_∧_) from h3),if_neg (show ¬ (_∧_) from h4)]
end
theorem rZ {E:Env} {lay:Bool} {p:eI} {lo hi:Nat} {sid pre v:ByteArray} (h:iI (fR sid)=pre) (hne:¬ pre.toList=[]) (hv:jM (p.s.extract (lo+1+pre.size) (hi - 1))=v) :
 mX E lay p lo hi sid=(iX E lay p pre (((lo+1+pre.size:Nat):Int),((hi - 1:Nat):Int)) v).getD (oI p ((lo:Int),(hi:Int))):=by
 have h' : iI (sid.extract 1 (sid.size - 1))=pre:=h;unfold mX;simp only[h',hv];rw[if_neg hne];cases iX E lay p pre (((lo+1+pre.size:Nat):Int),((hi - 1:Nat):Int)) v <;> rfl
theorem aG6 {E:Env} {lay:Bool} {p:eI} {x:Int×Int} {v:ByteArray}:iX E lay p fI x v=if E.lang v=true then some { p with known:=p.known++[x],plangs:=p.plangs++[(p.known.length:Int)] } else if E.dis v=true then some { p with known:=p.known++[x],plangs:=p.plangs++[(p.known.length:Int)],dis:=true } else none:=by
 unfold iX;rw[if_pos (rfl:fI=fI)]
theorem aG4 {E:Env} {lay:Bool} {p:eI} {x:Int×Int} {v:ByteArray}:iX E lay p gK x v=if (lay && E.fmt v ⟨#[]⟩)=true then some { p with known:=p.known++[x],pfmt:=p.known.length } else none:=by
 unfold iX;rw[if_neg (by decide:¬ gK=fI),if_pos (rfl:gK=gK)]
theorem aG5 {E:Env} {lay:Bool} {p:eI} {x:Int×Int} {v:ByteArray}:iX E lay p gC x v=if (lay && isKind v)=true then some { p with known:=p.known++[x],pkind:=p.known.length } else none:=by
 unfold iX;rw[if_neg (by decide:¬ gC=fI),if_neg (by decide:¬ gC=gK),if_pos (rfl:gC=gC)]
theorem aG7 {E:Env} {lay:Bool} {p:eI} {x:Int×Int} {v:ByteArray}:iX E lay p fS x v=if lay=true then some { p with known:=p.known++[x],play:=p.known.length } else none:=by
 unfold iX;rw[if_neg (by decide:¬ fS=fI),if_neg (by decide:¬ fS=gK),if_neg (by decide:¬ fS=gC),if_pos (rfl:fS=fS)]
theorem aE4 {E:Env} {lay:Bool} {p:eI} {lo hi:Nat} {sid:ByteArray} (h1:iI (fR sid)≠fI) (h2:iI (fR sid)≠gK) (h3:iI (fR sid)≠gC) (h4:iI (fR sid)≠fS) :
 mX E lay p lo hi sid=oI p ((lo:Int),(hi:Int)):=by
 have h' : iI (sid.extract 1 (sid.size - 1))=iI (fR sid):=rfl;unfold mX;simp only[h']
 by_cases c:(iI (fR sid)).toList=[]
 ·rw[if_pos c]
 rw[if_neg c];unfold iX;rw[if_neg h1,if_neg h2,if_neg h3,if_neg h4]
section
variable {st:fO} {comp T:ByteArray} {sc:Bool} {p:eI} {r:RV}
structure aIl (st:fO) (comp T:ByteArray) (p q:eI) (r:RV) (t:ByteArray):Prop where
 ix:yT q p.lang p.fmt p.kind p.cust p.pfmt p.pkind p.play p.plangs (fmt0 st comp r.ext) r
 new:Ix q p.known.length t
 ids:r.ids++[t]=kL q
 lay:(q.lay = -1∧r.layAt = -1∧r.lay1=⟨#[]⟩)∨(q.lay=r.layAt∧1≤q.lay∧∃ x,q.known[q.lay.toNat]? = some x∧sub q.s x.1 x.2=r.lay1)
 ext:Ix q 0 r.ext
theorem Rel.push (R:Rel st comp sc T p r) {q:eI} {x:Int×Int} {t:ByteArray} (ht:sub T x.1 x.2=t) (hs:q.s=p.s) (hk:q.known=p.known++[x]) (hl:q.lay=p.lay):aIl st comp T p q r t:=by
 have G:Grown p q:=⟨hs,.inl ⟨x,hk,.inl hl⟩⟩
 have hpos:=List.length_pos_iff.2 R.ne;refine ⟨R.ix.grown G,⟨aR,?_,x,?_,by rw[hs,R.s];exact ht⟩,?_,?_,R.ext.grown G⟩
 ·rw[hl];rcases R.lay with ⟨h,_⟩ | ⟨_,h,y,hy,_⟩
  ·omega
  have:=(List.getElem?_eq_some_iff.1 hy).1;omega
 ·rw[hk,Int.toNat_natCast,List.getElem?_append_right (Nat.le_refl _),Nat.sub_self];rfl
 ·rw[R.ids];unfold kL;rw[hk,hs,List.map_append,List.map_cons,List.map_nil,R.s,ht]
 rw[hl];rcases R.lay with h | ⟨h1,h2,y,hy,h3⟩
 ·exact .inl h
 refine .inr ⟨h1,h2,y,?_,by rw[hs];exact h3⟩;rw[hk,List.getElem?_append_left (List.getElem?_eq_some_iff.1 hy).1];exact hy
theorem Rel.cust (R:Rel st comp sc T p r) {x:Int×Int} {t:ByteArray} (ht:sub T x.1 x.2=t) (hw:iH (L t)=true) (k:Int):Rel st comp sc T (oI p x) { r.id t k with cust:=fR t }:=by
 have P:=R.push (q:=oI p x) (x:=x) ht rfl rfl rfl;exact ⟨R.s,R.typ,P.ids,R.unk,⟨P.ix.lang,P.ix.fmt,P.ix.kind,.inr ⟨t,P.new,hw,rfl⟩,P.ix.pfmt,P.ix.pkind,P.ix.play,P.ix.pl,P.ix.langs,P.ix.lne,P.ix.pos⟩,P.lay,R.hl,R.hk,R.base,R.dis,P.ext⟩
theorem Rel.wrap (R:Rel st comp sc T p r) (SE:qR st) {lo hi:Nat} {sid:ByteArray} (hsid:T.extract lo hi=sid) (hhi:hi≤T.size) (hw:iH (L sid)=true) (hok:eQ comp=true→okW (L sid)) (k:Int) :
 Rel st comp sc T (mX (eK st) (eQ comp) p lo hi sid) (jJ st (eQ comp) r sid (fR sid) k)∧(jJ st (eQ comp) r sid (fR sid) k).marks=r.marks++[k]:=by
 have hz:sid.size=hi - lo:=by rw[← hsid,← eF,eR];have:=eF T;simp;omega
 have h3:3≤sid.size:=by unfold iH at hw;rw[Bool.and_eq_true,decide_eq_true_eq,eF] at hw;exact hw.1
 have hi2:(fR sid).size=hi - lo - 2:=by
  unfold fR;rw[← eF,eR,List.length_take,List.length_drop,eF,hz];omega
 have hval:∀ pre:ByteArray,gU (fR sid) pre=true→sub T ((lo+1+pre.size:Nat):Int) ((hi - 1:Nat):Int)=gX (fR sid) pre:=by
  intro pre hp;have:=aHl hp;rw[aHn (T:=T) (lo:=lo) (hi:=hi) (k:=pre.size) bA hhi,hsid];rfl
 have hlow:∀ pre:ByteArray,gU (fR sid) pre=true→jM (p.s.extract (lo+1+pre.size) (hi - 1))=low (gX (fR sid) pre):=by
  intro pre hp;rw[aG3,← hval pre hp,iV,R.s]
 have hc:Rel st comp sc T (oI p ((lo:Int),(hi:Int))) { r.id sid k with cust:=fR sid }:=R.cust (by rw[iV];exact hsid) hw k
 have ne4:∀ pre:ByteArray,(pre=fI∨pre=gK∨pre=gC∨pre=fS)→¬ pre.toList=[]:=by
  rintro pre (rfl | rfl | rfl | rfl) <;> rw[L_toList] <;> decide
 have fx:∀ {t:Bool} {a:ByteArray},gU (fR sid) a=false→¬ (gU (fR sid) a=true):=fun h=>by rw[h];simp
 rcases prefOf_tag (fR sid) with ⟨e,t1,t2,t3,t4⟩ | ⟨e,t1,t2,t3,t4⟩ | ⟨e,t1,t2,t3,t4⟩ | ⟨e,t1,t2,t3,t4⟩ | ⟨⟨e1,e2,e3,e4⟩,t1,t2,t3,t4⟩
 ·rw[rZ e (ne4 _ (.inl rfl)) (hlow _ t1),aG6];have P:=fun q h1 h2 h3=>R.push (q:=q) (x:=(((lo+1+fI.size:Nat):Int),((hi - 1:Nat):Int))) (hval _ t1) h1 h2 h3;have el:(eK st).lang=listed st.langs:=rfl;have ed:(eK st).dis=listed st.dis:=rfl;rw[el,ed]
  by_cases h1:(listed st.langs (low (gX (fR sid) fI)) || listed st.dis (low (gX (fR sid) fI)))=true
  ·have hne:=aF2 (SE.lang _ h1);rw[aId ⟨t1,h1⟩]
   have lne:∀ t∈r.langs++[gX (fR sid) fI],t≠⟨#[]⟩:=by
    intro t ht;rcases List.mem_append.1 ht with ht | ht
    ·exact R.ix.lne t ht
    rw[List.mem_singleton] at ht;rw[ht];exact hne
   have hpos:=List.length_pos_iff.2 R.ne
   have posw:(p.lang = -1∨1≤p.lang)∧∀ i∈p.plangs++[(p.known.length:Int)],1≤i:=by
    refine ⟨R.ix.pos.1,fun i hi=>?_⟩;rcases List.mem_append.1 hi with hi | hi
    ·exact R.ix.pos.2 i hi
    rw[List.mem_singleton] at hi;omega
   have done:∀ q:eI,(h1:q.s=p.s)→(h2:q.known=p.known++[(((lo+1+fI.size:Nat):Int),((hi - 1:Nat):Int))])→(h3:q.lay=p.lay)→q.plangs=p.plangs++[(p.known.length:Int)]→(∀ i∈q.plangs,Ix q i (fG q i))∧r.langs++[gX (fR sid) fI]=q.plangs.map (fG q):=by
    intro q h1 h2 h3 h4;have P:=P q h1 h2 h3;have hs:=P.new.str;rw[h4];refine ⟨fun i hi=>?_,?_⟩
    ·rcases List.mem_append.1 hi with hi | hi
     ·exact P.ix.pl i hi
     rw[List.mem_singleton] at hi;rw[hi,hs];exact P.new
    rw[List.map_append,List.map_cons,List.map_nil,hs,P.ix.langs]
   by_cases h2:listed st.langs (low (gX (fR sid) fI))=true
   ·rw[if_pos h2,h2];obtain ⟨d1,d2⟩:=done { p with known:=p.known++[(((lo+1+fI.size:Nat):Int),((hi - 1:Nat):Int))],plangs:=p.plangs++[(p.known.length:Int)] } rfl rfl rfl rfl;have P:=P { p with known:=p.known++[(((lo+1+fI.size:Nat):Int),((hi - 1:Nat):Int))],plangs:=p.plangs++[(p.known.length:Int)] } rfl rfl rfl;exact ⟨⟨R.s,R.typ,P.ids,R.unk,⟨P.ix.lang,P.ix.fmt,P.ix.kind,P.ix.cust,P.ix.pfmt,P.ix.pkind,P.ix.play,d1,d2,lne,posw⟩,P.lay,R.hl,R.hk,R.base,R.dis.trans bL,P.ext⟩,rfl⟩
   have h2' : listed st.langs (low (gX (fR sid) fI))=false:=by simpa using h2
   have h3' : listed st.dis (low (gX (fR sid) fI))=true:=by rw[h2'] at h1;simpa using h1
   rw[if_neg h2,if_pos h3',h2'];obtain ⟨d1,d2⟩:=done { p with known:=p.known++[(((lo+1+fI.size:Nat):Int),((hi - 1:Nat):Int))],plangs:=p.plangs++[(p.known.length:Int)],dis:=true } rfl rfl rfl rfl;have P:=P { p with known:=p.known++[(((lo+1+fI.size:Nat):Int),((hi - 1:Nat):Int))],plangs:=p.plangs++[(p.known.length:Int)],dis:=true } rfl rfl rfl;exact ⟨⟨R.s,R.typ,P.ids,R.unk,⟨P.ix.lang,P.ix.fmt,P.ix.kind,P.ix.cust,P.ix.pfmt,P.ix.pkind,P.ix.play,d1,d2,lne,posw⟩,P.lay,R.hl,R.hk,R.base,bL,P.ext⟩,rfl⟩
  have h1' : listed st.langs (low (gX (fR sid) fI))=false∧listed st.dis (low (gX (fR sid) fI))=false:=by simpa using h1
  rw[if_neg (by rw[h1'.1];decide:¬ (listed st.langs (low (gX (fR sid) fI))=true)),if_neg (by rw[h1'.2];decide:¬ (listed st.dis (low (gX (fR sid) fI))=true)),sR (fun h=>h1 h.2) (fun h=>fx (t:=true) t2 h.2.1) (fun h=>fx (t:=true) t3 h.2.1) (fun h=>fx (t:=true) t4 h.2)];exact ⟨hc,rfl⟩
 ·rw[rZ e (ne4 _ (.inr (.inl rfl))) (hlow _ t2),aG4];have ef:(eK st).fmt (low (gX (fR sid) gK)) ⟨#[]⟩=gZ st (low (gX (fR sid) gK)):=uM st _;rw[ef];have n1:¬ Cl st (fR sid):=fun h=>fx (t:=true) t1 h.1
  by_cases h1:eQ comp=true∧gZ st (low (gX (fR sid) gK))=true
  ·rw[aIb n1 ⟨h1.1,t2,h1.2⟩,if_pos (by rw[h1.1,h1.2];rfl:(eQ comp && gZ st (low (gX (fR sid) gK)))=true)];have P:=R.push (q:={ p with known:=p.known++[(((lo+1+gK.size:Nat):Int),((hi - 1:Nat):Int))],pfmt:=p.known.length }) (x:=(((lo+1+gK.size:Nat):Int),((hi - 1:Nat):Int))) (hval _ t2) rfl rfl rfl;have hne:gX (fR sid) gK≠⟨#[]⟩:=aF2 (SE.fmt _ h1.2);exact ⟨⟨R.s,R.typ,P.ids,R.unk,⟨P.ix.lang,P.ix.fmt,P.ix.kind,P.ix.cust,.inr ⟨P.new,hne⟩,P.ix.pkind,P.ix.play,P.ix.pl,P.ix.langs,P.ix.lne,P.ix.pos⟩,P.lay,R.hl,R.hk,R.base,R.dis,P.ext⟩,rfl⟩
  rw[sR n1 (fun h=>h1 ⟨h.1,h.2.2⟩) (fun h=>fx (t:=true) t3 h.2.1) (fun h=>fx (t:=true) t4 h.2),if_neg (fun h=>h1 (by rw[Bool.and_eq_true] at h;exact h):¬ ((eQ comp && gZ st (low (gX (fR sid) gK)))=true))];exact ⟨hc,rfl⟩
 ·rw[rZ e (ne4 _ (.inr (.inr (.inl rfl)))) (hlow _ t3),aG5,aEs];have n1:¬ Cl st (fR sid):=fun h=>fx (t:=true) t1 h.1;have n2:¬ Cf st (eQ comp) (fR sid):=fun h=>fx (t:=true) t2 h.2.1
  by_cases h1:eQ comp=true∧isKind (gX (fR sid) gC)=true
  ·rw[aIc n1 n2 ⟨h1.1,t3,h1.2⟩,if_pos (by rw[h1.1,h1.2];rfl:(eQ comp && isKind (gX (fR sid) gC))=true)];have P:=R.push (q:={ p with known:=p.known++[(((lo+1+gC.size:Nat):Int),((hi - 1:Nat):Int))],pkind:=p.known.length }) (x:=(((lo+1+gC.size:Nat):Int),((hi - 1:Nat):Int))) (hval _ t3) rfl rfl rfl;have hne:gX (fR sid) gC≠⟨#[]⟩:=zU h1.2;exact ⟨⟨R.s,R.typ,P.ids,R.unk,⟨P.ix.lang,P.ix.fmt,P.ix.kind,P.ix.cust,P.ix.pfmt,.inr ⟨P.new,hne⟩,P.ix.play,P.ix.pl,P.ix.langs,P.ix.lne,P.ix.pos⟩,P.lay,R.hl,R.hk,R.base,R.dis,P.ext⟩,rfl⟩
  rw[sR n1 n2 (fun h=>h1 ⟨h.1,h.2.2⟩) (fun h=>fx (t:=true) t4 h.2),if_neg (fun h=>h1 (by rw[Bool.and_eq_true] at h;exact h):¬ ((eQ comp && isKind (gX (fR sid) gC))=true))];exact ⟨hc,rfl⟩
 ·rw[rZ e (ne4 _ (.inr (.inr (.inr rfl)))) (hlow _ t4),aG7];have n1:¬ Cl st (fR sid):=fun h=>fx (t:=true) t1 h.1;have n2:¬ Cf st (eQ comp) (fR sid):=fun h=>fx (t:=true) t2 h.2.1;have n3:¬ Ck (eQ comp) (fR sid):=fun h=>fx (t:=true) t3 h.2.1
  by_cases h1:eQ comp=true
  ·rw[aIe n1 n2 n3 ⟨h1,t4⟩,if_pos h1];have P:=R.push (q:={ p with known:=p.known++[(((lo+1+fS.size:Nat):Int),((hi - 1:Nat):Int))],play:=p.known.length }) (x:=(((lo+1+fS.size:Nat):Int),((hi - 1:Nat):Int))) (hval _ t4) rfl rfl rfl
   have hne:gX (fR sid) fS≠⟨#[]⟩:=by
    intro h
    have hsz:(fR sid).size≤fS.size:=by
     have h9:=congrArg ByteArray.size h
     have hx:(gX (fR sid) fS).size=(fR sid).size - fS.size:=by
      unfold gX;rw[← eF,eR,List.length_take,List.length_drop,eF];omega
     rw[hx] at h9;have h0:(⟨#[]⟩:ByteArray).size=0:=rfl;omega
    have hpre:(L fS) <+: (L (low (fR sid))):=List.isPrefixOf_iff_prefix.1 t4;have h8:=hpre.eq_of_length_le (by rw[eF,eF,pP];exact hsz);refine hok h1 hw ?_
    have e1:(inner (L sid))=L (fR sid):=by
     unfold inner fR;rw[eR,eF];rfl
    rw[e1,← rW,← h8];rfl
   exact ⟨⟨R.s,R.typ,P.ids,R.unk,⟨P.ix.lang,P.ix.fmt,P.ix.kind,P.ix.cust,P.ix.pfmt,P.ix.pkind,.inr ⟨P.new,hne⟩,P.ix.pl,P.ix.langs,P.ix.lne,P.ix.pos⟩,P.lay,R.hl,R.hk,R.base,R.dis,P.ext⟩,rfl⟩
  rw[sR n1 n2 n3 (fun h=>h1 h.1),if_neg h1];exact ⟨hc,rfl⟩
 rw[aE4 e1 e2 e3 e4,sR (fun h=>fx (t:=true) t1 h.1) (fun h=>fx (t:=true) t2 h.2.1) (fun h=>fx (t:=true) t3 h.2.1) (fun h=>fx (t:=true) t4 h.2)];exact ⟨hc,rfl⟩
theorem Rel.plain (R:Rel st comp sc T p r) (SE:qR st) (hext:r.ext≠⟨#[]⟩) {lo hi:Nat} {sid:ByteArray} (hsid:T.extract lo hi=sid) (pts:Nat) (last:Bool) (k:Int) (hk:last=decide (k < 0)) :
 Rel st comp sc T (jE (eK st) p comp (pts:Int) last ((lo:Int),(hi:Int)) sid).1 (jK st comp sc pts r sid k) ∧
 (jK st comp sc pts r sid k).marks=if (jE (eK st) p comp (pts:Int) last ((lo:Int),(hi:Int)) sid).2=true then r.marks++[k] else r.marks:=by
 have ht:sub T (((lo:Int),(hi:Int)):Int×Int).1 (((lo:Int),(hi:Int)):Int×Int).2=sid:=by rw[iV];exact hsid
 have el:(eK st).lang=listed st.langs:=rfl;have ed:(eK st).dis=listed st.dis:=rfl;have ef:(eK st).fmt sid (fG p 0)=jS st sid r.ext:=by rw[R.ext.str];exact aAs st _ _ hext
 unfold jE jK;rw[el,ed,ef]
 have q1:(pS p comp (pts:Int) && (listed st.langs sid || listed st.dis sid))=true↔((jX comp || eQ comp)=true∧2≤pts∧r.hasLang=false)∧(listed st.langs sid || listed st.dis sid)=true:=by
  unfold pS;rw[R.hl];simp only[Bool.and_eq_true,decide_eq_true_eq,beq_iff_eq,bne_eq_false_iff_eq];constructor
  ·rintro ⟨⟨⟨a,b⟩,c⟩,d⟩;exact ⟨⟨c,aR,b⟩,d⟩
  rintro ⟨⟨c,a,b⟩,d⟩;exact ⟨⟨⟨aR,b⟩,c⟩,d⟩
 have q3:(pA p comp && isKind sid)=true↔(eQ comp=true∧r.hasKind=false∧isKind sid=true):=by
  unfold pA;rw[R.hk];simp only[Bool.and_eq_true,beq_iff_eq,bne_eq_false_iff_eq];constructor
  ·rintro ⟨⟨a,b⟩,c⟩;exact ⟨b,a,c⟩
  rintro ⟨b,a,c⟩;exact ⟨⟨a,b⟩,c⟩
 have q5:lH p comp last=true↔(eQ comp=true∧¬ (sc=true∧k < 0)):=by
  unfold lH;rw[R.typ,hk]
  cases sc with
  | true=>simp;exact and_comm
  | false=>simp
 by_cases c1:(pS p comp (pts:Int) && (listed st.langs sid || listed st.dis sid))=true
 ·rw[if_pos c1,if_pos (show _∧_ from q1.1 c1)];have hne1:sid≠⟨#[]⟩:=SE.lang _ (q1.1 c1).2;have P:=R.push (q:={ p with known:=p.known++[((lo:Int),(hi:Int))],lang:=p.known.length,dis:=p.dis || !listed st.langs sid }) (x:=((lo:Int),(hi:Int))) ht rfl rfl rfl;refine ⟨⟨R.s,R.typ,P.ids,R.unk,⟨.inr ⟨P.new,hne1⟩,P.ix.fmt,P.ix.kind,P.ix.cust,P.ix.pfmt,P.ix.pkind,P.ix.play,P.ix.pl,P.ix.langs,P.ix.lne,⟨.inr (by have:=List.length_pos_iff.2 R.ne;show (1:Int)≤(p.known.length:Int);omega),P.ix.pos.2⟩⟩,P.lay,?_,R.hk,R.base,?_,P.ext⟩,rfl⟩
  ·show true=((p.known.length:Int) != -1);exact (bne_iff_ne.2 bA).symm
  show (p.dis || !listed st.langs sid)=(r.dis || !listed st.langs sid);rw[R.dis]
 rw[if_neg c1,if_neg (fun h=>c1 (q1.2 h):¬ (((jX comp || eQ comp)=true∧2≤pts∧r.hasLang=false)∧(listed st.langs sid || listed st.dis sid)=true))]
 by_cases c2:eQ comp=true∧jS st sid r.ext=true
 ·rw[if_pos (by rw[Bool.and_eq_true];exact c2:(eQ comp && jS st sid r.ext)=true),if_pos c2];have hne2:sid≠⟨#[]⟩:=SE.fmt _ (aBf c2.2);have P:=R.push (q:={ p with known:=p.known++[((lo:Int),(hi:Int))],fmt:=p.known.length }) (x:=((lo:Int),(hi:Int))) ht rfl rfl rfl;exact ⟨⟨R.s,R.typ,P.ids,R.unk,⟨P.ix.lang,.inr ⟨hne2,P.new⟩,P.ix.kind,P.ix.cust,P.ix.pfmt,P.ix.pkind,P.ix.play,P.ix.pl,P.ix.langs,P.ix.lne,P.ix.pos⟩,P.lay,R.hl,R.hk,R.base,R.dis,P.ext⟩,rfl⟩
 rw[if_neg (by rw[Bool.and_eq_true];exact c2:¬ ((eQ comp && jS st sid r.ext)=true)),if_neg c2]
 by_cases c3:(pA p comp && isKind sid)=true
 ·rw[if_pos c3,if_pos (show _∧_ from q3.1 c3)];have hne3:sid≠⟨#[]⟩:=zU (q3.1 c3).2.2;have P:=R.push (q:={ p with known:=p.known++[((lo:Int),(hi:Int))],kind:=p.known.length }) (x:=((lo:Int),(hi:Int))) ht rfl rfl rfl;refine ⟨⟨R.s,R.typ,P.ids,R.unk,⟨P.ix.lang,P.ix.fmt,.inr ⟨P.new,hne3⟩,P.ix.cust,P.ix.pfmt,P.ix.pkind,P.ix.play,P.ix.pl,P.ix.langs,P.ix.lne,P.ix.pos⟩,P.lay,R.hl,?_,R.base,R.dis,P.ext⟩,rfl⟩;show true=((p.known.length:Int) != -1);exact (bne_iff_ne.2 bA).symm
 rw[if_neg c3,if_neg (fun h=>c3 (q3.2 h):¬ (eQ comp=true∧r.hasKind=false∧isKind sid=true))]
 by_cases c4:sid.toList=vS
 ·rw[if_pos (by rw[c4];rfl:(sid.toList==[98,97,115,101,111,102])=true),if_pos c4];have P:=R.push (q:={ p with known:=p.known++[((lo:Int),(hi:Int))],base:=p.known.length }) (x:=((lo:Int),(hi:Int))) ht rfl rfl rfl;refine ⟨⟨R.s,R.typ,P.ids,R.unk,⟨P.ix.lang,P.ix.fmt,P.ix.kind,P.ix.cust,P.ix.pfmt,P.ix.pkind,P.ix.play,P.ix.pl,P.ix.langs,P.ix.lne,P.ix.pos⟩,P.lay,R.hl,R.hk,?_,R.dis,P.ext⟩,rfl⟩;show true=((p.known.length:Int) != -1);exact (bne_iff_ne.2 bA).symm
 rw[if_neg (by intro h;exact c4 (beq_iff_eq.1 h):¬ ((sid.toList==[98,97,115,101,111,102])=true)),if_neg c4]
 by_cases c5:lH p comp last=true
 ·rw[if_pos c5,if_pos (show _∧_ from q5.1 c5)];rcases R.lay with ⟨l1,l2,l3⟩ | ⟨l1,l2,y,l3,l4⟩
  ·rw[if_neg (by rw[l1];decide:¬ ((p.lay != -1)=true)),if_pos (by rw[l2];decide:r.layAt < 0)]
   have G:Grown p { p with known:=p.known++[((lo:Int),(hi:Int))],lay:=p.known.length }:=⟨rfl,.inl ⟨_,rfl,.inr rfl⟩⟩
   have M:=R.ix.grown G;have hpos:=List.length_pos_iff.2 R.ne;refine ⟨⟨R.s,R.typ,?_,R.unk,⟨M.lang,M.fmt,M.kind,M.cust,M.pfmt,M.pkind,M.play,M.pl,M.langs,M.lne,M.pos⟩,.inr ⟨?_,?_,((lo:Int),(hi:Int)),?_,?_⟩,R.hl,R.hk,R.base,R.dis,R.ext.grown G⟩,rfl⟩
   ·show r.ids++[sid]=kL _;rw[R.ids];unfold kL;rw[List.map_append,List.map_cons,List.map_nil,R.s,ht]
   ·show (p.known.length:Int)=(r.ids.length:Int);rw[R.ids];unfold kL;rw[List.length_map]
   ·show (1:Int)≤(p.known.length:Int);omega
   ·show (p.known++[_])[(p.known.length:Int).toNat]? = _;rw[Int.toNat_natCast,List.getElem?_append_right (Nat.le_refl _),Nat.sub_self];rfl
   show sub p.s _ _=sid;rw[R.s];exact ht
  rw[if_pos (bne_iff_ne.2 bA:(p.lay != -1)=true),if_neg (by omega:¬ (r.layAt < 0))]
  have G:Grown p { p with known:=p.known.set p.lay.toNat ((lo:Int),(hi:Int)),unknown:=p.unknown++[p.known.getD p.lay.toNat (0,0)] }:=⟨rfl,.inr (.inl ⟨_,rfl,rfl,l2⟩)⟩
  have M:=R.ix.grown G;have hlt:=(List.getElem?_eq_some_iff.1 l3).1;refine ⟨⟨R.s,R.typ,?_,?_,⟨M.lang,M.fmt,M.kind,M.cust,M.pfmt,M.pkind,M.play,M.pl,M.langs,M.lne,M.pos⟩,.inr ⟨l1,l2,((lo:Int),(hi:Int)),?_,?_⟩,R.hl,R.hk,R.base,R.dis,R.ext.grown G⟩,rfl⟩
  ·show r.ids.set r.layAt.toNat sid=kL _;rw[R.ids,← l1];unfold kL;rw[List.map_set,R.s,ht]
  ·show r.unk++[r.lay1]=lL _;rw[R.unk];unfold lL;rw[List.map_append,List.map_cons,List.map_nil,List.getD_eq_getElem?_getD,l3,Option.getD_some,l4]
  ·show (p.known.set p.lay.toNat _)[p.lay.toNat]? = _;rw[List.getElem?_set_self hlt]
  show sub p.s _ _=sid;rw[R.s];exact ht
 rw[if_neg c5,if_neg (fun h=>c5 (q5.2 h):¬ (eQ comp=true∧¬ (sc=true∧k < 0)))]
 have G:Grown p { p with unknown:=p.unknown++[((lo:Int),(hi:Int))] }:=⟨rfl,.inr (.inr ⟨rfl,rfl⟩)⟩
 have M:=R.ix.grown G;refine ⟨⟨R.s,R.typ,R.ids,?_,⟨M.lang,M.fmt,M.kind,M.cust,M.pfmt,M.pkind,M.play,M.pl,M.langs,M.lne,M.pos⟩,R.lay,R.hl,R.hk,R.base,R.dis,R.ext.grown G⟩,rfl⟩;show r.unk++[sid]=lL _;rw[R.unk];unfold lL;rw[List.map_append,List.map_cons,List.map_nil,R.s,ht]
theorem Rel.first {p:eI} (hs:p.s=T) (htyp:p.typ=if sc then 7 else 0) (hz:p = { gB with comp:=p.comp,s:=p.s,typ:=p.typ }) {lo hi:Nat} {sid:ByteArray} (hsid:T.extract lo hi=sid) (k:Int) :
 Rel st comp sc T (rO (eK st) (eQ comp) p ((lo:Int),(hi:Int)) sid) (oR kZ sid k)∧(oR kZ sid k).marks=[k]:=by
 have ef:(eK st).fmt sid ⟨#[]⟩=gZ st sid:=uM st _;unfold rO;rw[ef];have e:∀ {α:Type} (f:eI→α),f p=f { gB with comp:=p.comp,s:=p.s,typ:=p.typ }:=fun f=>congrArg f hz;have k1:p.known=[]:=e (·.known);refine ⟨⟨hs,htyp,?_,?_,⟨.inl ⟨e (·.lang),rfl⟩,.inl ⟨rfl,?_⟩,.inl ⟨e (·.kind),rfl⟩,.inl ⟨e (·.cust),rfl⟩,.inl ⟨e (·.pfmt),rfl⟩,.inl ⟨e (·.pkind),rfl⟩,.inl ⟨e (·.play),rfl⟩,?_,?_,(fun t ht=>by cases ht),⟨.inl (e (·.lang)),?_⟩⟩,.inl ⟨e (·.lay),rfl,rfl⟩,?_,?_,?_,e (·.dis),⟨Int.le_refl 0,?_,((lo:Int),(hi:Int)),?_,?_⟩⟩,rfl⟩
 ·show [sid]=(p.known++[_]).map _;rw[k1,hs];show _=[sub T (lo:Int) (hi:Int)];rw[iV,hsid]
 ·show []=p.unknown.map _;rw[show p.unknown=[] from e (·.unknown)];rfl
 ·show (if (eQ comp && gZ st sid)=true then (0:Int) else p.fmt)=if (eQ comp && gZ st sid)=true then 0 else -1
  rw[show p.fmt = -1 from e (·.fmt)]
 ·show ∀ i∈p.plangs,_;rw[show p.plangs=[] from e (·.plangs)];intro i hi;cases hi
 ·show []=p.plangs.map _;rw[show p.plangs=[] from e (·.plangs)];rfl
 ·show ∀ i∈p.plangs,_;rw[show p.plangs=[] from e (·.plangs)];intro i hi;cases hi
 ·show false=(p.lang != -1);rw[show p.lang = -1 from e (·.lang)];rfl
 ·show false=(p.kind != -1);rw[show p.kind = -1 from e (·.kind)];rfl
 ·show false=(p.base != -1);rw[show p.base = -1 from e (·.base)];rfl
 ·show (0:Int)≠p.lay;rw[show p.lay = -1 from e (·.lay)];decide
 ·show (p.known++[_])[0]? = _;rw[k1];rfl
 show sub p.s _ _=sid;rw[hs,iV];exact hsid
theorem aF5 {E:Env} {nd:Int} {last:Bool} {lo hi ld:Nat} {sid:ByteArray} (h1:idHigh p ld=hi) (h2:p.s.extract lo hi=sid) (hw:mG sid=true):iY E p comp lo ld nd last=(mX E (eQ comp) p lo hi sid,true):=by
 unfold iY;rw[h1];simp only[h2,hw,if_true]
theorem Rel.later (R:Rel st comp sc T p r) (SE:qR st) (hext:r.ext≠⟨#[]⟩) {lo ld:Nat} {sid:ByteArray} (hsid:T.extract lo ld=sid) (hld:ld≤T.size) (hok:eQ comp=true→okW (L sid)) (pts:Nat) (last:Bool) (k:Int) (hk:last=decide (k < 0)) :
 Rel st comp sc T (iY (eK st) p comp lo ld (pts:Int) last).1 (lV st comp sc pts r sid k) ∧
 (lV st comp sc pts r sid k).marks=if (iY (eK st) p comp lo ld (pts:Int) last).2=true then r.marks++[k] else r.marks:=by
 have hh:idHigh p ld=ld:=by unfold idHigh;rw[if_neg R.ne]
 have hs:p.s.extract lo ld=sid:=by rw[R.s];exact hsid
 by_cases hw:iH (L sid)=true
 ·have e1:lV st comp sc pts r sid k=jJ st (eQ comp) r sid (fR sid) k:=by unfold lV;rw[if_pos hw]
  rw[aF5 hh hs (by rw[tC];exact hw),e1,if_pos rfl];exact R.wrap SE hsid hld hw hok k
 have e1:lV st comp sc pts r sid k=jK st comp sc pts r sid k:=by unfold lV;rw[if_neg hw]
 rw[wI hh hs (by rw[tC];simpa using hw) R.ne,e1];exact R.plain SE hext hsid pts last k hk
end
def nE (st:fO) (comp:ByteArray) (sc:Bool) (pts:Nat) (name:ByteArray) (d:RV×Nat) (c:Nat):RV×Nat:=(mB st comp sc pts d.1 (name.extract (c+1) d.2) (c:Int),c)
def gL (st:fO) (comp:ByteArray) (sc:Bool) (name:ByteArray) (cuts:List Nat):RV :=
 if cuts=[] then kZ else
  let d:=cuts.reverse.foldl (nE st comp sc cuts.length name) (kZ,name.size)
  mB st comp sc cuts.length d.1 (name.extract 0 d.2) (-1)
theorem xD (m:List Int) (k N:Int):kF (m++[k]) N=if 0≤k∧k < kF m N then k else kF m N:=by
 unfold kF;rw[List.foldl_append];rfl
theorem yM (n:List UInt8) (c e:Nat) (t:List Nat):∀ (a:List Nat) (o:Nat),(n.drop (c+1)).take (e - (c+1))∈sT n o (a++c::e::t)
 | [],o=>List.mem_cons_of_mem _ (List.mem_cons_self ..)
 | x::a,o=>List.mem_cons_of_mem _ (yM n c e t a (x+1))
theorem rQ {l pre n:List UInt8} (S:mV l pre n):(eS n).Pairwise (· < ·)∧∀ c∈eS n,c < n.length:=by
 rw[(tF S).2];exact ⟨List.Pairwise.filter _ List.pairwise_lt_range,fun c hc=>List.mem_range.1 (List.mem_filter.1 hc).1⟩
theorem zZ {E:Env} {p:eI} {comp:ByteArray} {lo ld:Nat} {nd:Int} {last:Bool} (hl:p.lay = -1∨(1≤p.lay∧p.lay < p.known.length)) :
 ((iY E p comp lo ld nd last).1.lay=p.lay∧∀ x,p.known[p.lay.toNat]? = some x→p.lay≠-1→(iY E p comp lo ld nd last).1.known[p.lay.toNat]? = some x) ∨
 (lH p comp last=true∧∃ h:Int,(iY E p comp lo ld nd last).1.known[(iY E p comp lo ld nd last).1.lay.toNat]? = some ((lo:Int),h)):=by
 have app:∀ (y:Int×Int) (x:Int×Int),p.known[p.lay.toNat]? = some x→p.lay≠-1→(p.known++[y])[p.lay.toNat]? = some x:=by
  intro y x hx _;rw[List.getElem?_append_left (List.getElem?_eq_some_iff.1 hx).1];exact hx
 unfold iY;simp only[];split
 ·left;unfold mX;simp only[];split
  ·exact ⟨rfl,app _⟩
  split
  ·rename_i q hq
   have:q.lay=p.lay∧∃ y,q.known=p.known++[y]:=by
    unfold iX at hq
    repeat' split at hq
    all_goals first | (cases hq;exact ⟨rfl,_,rfl⟩) | cases hq
   obtain ⟨e1,y,e2⟩:=this;rw[e1,e2];exact ⟨rfl,app y⟩
  exact ⟨rfl,app _⟩
 split
 ·exact .inl ⟨rfl,app _⟩
 unfold jE;split
 ·exact .inl ⟨rfl,app _⟩
 split
 ·exact .inl ⟨rfl,app _⟩
 split
 ·exact .inl ⟨rfl,app _⟩
 split
 ·exact .inl ⟨rfl,app _⟩
 split
 ·rename_i hm
  right;refine ⟨hm,?_⟩;split
  ·rename_i h
   have h1:p.lay≠-1:=bne_iff_ne.1 h;refine ⟨(idHigh p ld:Int),?_⟩;show (p.known.set p.lay.toNat _)[p.lay.toNat]? = _;rw[List.getElem?_set_self bA]
  refine ⟨(idHigh p ld:Int),?_⟩;show (p.known++[_])[(p.known.length:Int).toNat]? = _;rw[Int.toNat_natCast,List.getElem?_append_right (Nat.le_refl _),Nat.sub_self];rfl
 exact .inl ⟨rfl,fun x hx _=>hx⟩
section
variable {st:fO} {comp T:ByteArray} {sc:Bool} {q:Nat} {pre n:List UInt8}
structure At (st:fO) (comp:ByteArray) (sc:Bool) (T:ByteArray) (q:Nat) (N:Nat) (e:Nat) (d:DoV) (r:RV×Nat):Prop where
 rel:Rel st comp sc T d.p r.1
 ld:d.ld=q+1+e
 re:r.2=e
 chi:d.p.cHigh = -1
 nEnd:d.p.nEnd=(q:Int)+1+kF r.1.marks N
 le:(e:Int)≤kF r.1.marks N
 lt:kF r.1.marks N < N
 low:∀ x,d.p.known[d.p.lay.toNat]? = some x→d.p.lay≠-1→(q:Int)+1 < x.1
 mem:∃ c∈eS ((L T).drop (q+1)),kF r.1.marks N=(c:Int)
 ext:r.1.ext≠⟨#[]⟩
theorem aE7 (r:RV) (w:ByteArray) (k:Int):(oR r w k).ext=w:=rfl
theorem qV (r:RV) (pts:Nat) (w:ByteArray) (k:Int):(lV st comp sc pts r w k).ext=r.ext:=by
 unfold lV jJ jK
 repeat' split
 all_goals rfl
theorem aE8 {r:RV} (h:r.ids≠[]) (pts:Nat) (w:ByteArray) (k:Int):(lV st comp sc pts r w k).ids≠[]:=by
 have h1:∀ t:ByteArray,r.ids++[t]≠[]:=by intro t;simp
 have h2:∀ (i:Nat) (t:ByteArray),r.ids.set i t≠[]:=by intro i t;simpa using h
 unfold lV jJ jK
 repeat' split
 all_goals first | exact h1 _ | exact h2 _ _ | exact h
theorem Rel.idsNe {p:eI} {r:RV} (R:Rel st comp sc T p r):r.ids≠[]:=by
 rw[R.ids];unfold kL
 simpa using R.ne
theorem Rel.layPos {p:eI} {r:RV} (R:Rel st comp sc T p r):p.lay = -1∨(1≤p.lay∧p.lay < p.known.length):=by
 rcases R.lay with ⟨h,_⟩ | ⟨_,h,x,hx,_⟩
 ·exact .inl h
 have:=(List.getElem?_eq_some_iff.1 hx).1;exact .inr ⟨h,aR⟩
theorem sH (S:mV (L T) pre n) (hq:pre.length=q+1) {name:ByteArray} (hn:L name=n) (a b:Nat):T.extract (q+1+a) (q+1+b)=name.extract a b:=by
 refine L_inj ?_;rw[eR,eR,hn,S.eq,← hq,List.drop_append,List.drop_of_length_le bA,List.nil_append];congr 1
 ·omega
 congr 1;omega
theorem At.start (S:mV (L T) pre n) (hq:pre.length=q+1) {name:ByteArray} (hn:L name=n) (K:nW (eQ comp) n) (pts:Nat) {c:Nat} (hc:(eS n).getLast? = some c) {p:eI} (hp:p = { gB with comp:=comp,s:=T,typ:=if sc then 7 else 0 }) :
 At st comp sc T q n.length c (mA (eK st) comp (pts:Int) ⟨p,0,0⟩ (q+1+c)) (nE st comp sc pts name (kZ,name.size) c):=by
 have hmem:c∈eS n:=List.mem_of_getLast? hc;obtain ⟨hup,hlt⟩:=rQ S;have hcn:=hlt c hmem;have hsz:T.size=q+1+n.length:=by rw[← eF,S.eq,List.length_append,hq]
 have hnz:name.size=n.length:=by rw[← eF,hn]
 have hk:p.known=[]:=by rw[hp];rfl
 have hch:p.cHigh = -1:=by rw[hp];rfl
 have hs:p.s=T:=by rw[hp]
 have ht:p.typ=if sc then 7 else 0:=by rw[hp]
 have hih:idHigh p 0=T.size:=by unfold idHigh;rw[if_pos hk,hs]
 have hword:T.extract (q+1+c+1) T.size=name.extract (c+1) name.size:=by
  rw[hsz,hnz,Nat.add_assoc];exact sH S hq hn (c+1) n.length
 have hLw:L (name.extract (c+1) name.size)=n.drop (c+1):=by
  rw[eR,hn,hnz];exact List.take_of_length_le (by rw[List.length_drop];omega)
 have hw:mG (name.extract (c+1) name.size)=false:=by rw[tC,hLw];exact (K.last c hc).1
 have hd:mA (eK st) comp (pts:Int) ⟨p,0,0⟩ (q+1+c)=⟨{ rO (eK st) (eQ comp) p (((q+1+c+1:Nat):Int),(T.size:Int)) (name.extract (c+1) name.size) with nEnd:=((q+1+c:Nat):Int) },0,q+1+c⟩:=by
  unfold mA;rw[uS hch];unfold iY;simp only[];rw[hih,hs,hword,hw];simp only[Bool.false_eq_true,if_false];rw[if_pos hk];rfl
 obtain ⟨R,hm⟩:=Rel.first (st:=st) (comp:=comp) (sc:=sc) (T:=T) hs ht (by rw[hp]) (lo:=q+1+c+1) (hi:=T.size) hword (c:Int)
 have hr:nE st comp sc pts name (kZ,name.size) c=(oR kZ (name.extract (c+1) name.size) (c:Int),c):=rfl
 have hre:kF (oR kZ (name.extract (c+1) name.size) (c:Int)).marks (n.length:Int)=(c:Int):=by
  rw[hm];show (if 0≤(c:Int)∧(c:Int) < (n.length:Int) then (c:Int) else (n.length:Int))=_;rw[if_pos bA]
 rw[hd,hr];refine ⟨⟨R.s,R.typ,R.ids,R.unk,⟨R.ix.lang,R.ix.fmt,R.ix.kind,R.ix.cust,R.ix.pfmt,R.ix.pkind,R.ix.play,R.ix.pl,R.ix.langs,R.ix.lne,R.ix.pos⟩,R.lay,R.hl,R.hk,R.base,R.dis,R.ext⟩,rfl,rfl,hch,?_,?_,?_,?_,⟨c,?_,hre⟩,?_⟩
 ·show ((q+1+c:Nat):Int)=_;rw[hre];omega
 ·rw[hre];omega
 ·rw[hre];omega
 ·intro x _ hl;refine absurd ?_ hl;show p.lay = -1;rw[hp];rfl
 ·rw[← hq,S.eq,List.drop_left];exact hmem
 rw[aE7];intro h;have h2:=(K.last c hc).2;have h3:=congrArg ByteArray.size h;rw[← eF,hLw,List.length_drop] at h3;have h0:(⟨#[]⟩:ByteArray).size=0:=rfl;omega
theorem At.step (S:mV (L T) pre n) (hq:pre.length=q+1) {name:ByteArray} (hn:L name=n) (K:nW (eQ comp) n) (SE:qR st) (pts:Nat) {d:DoV} {r:RV×Nat} {c e:Nat} (A:At st comp sc T q n.length e d r) (hc:c∈eS n) (hce:c < e) (hen:e < n.length) (hok:eQ comp=true→okW ((n.drop (c+1)).take (e - (c+1)))) :
 At st comp sc T q n.length c (mA (eK st) comp (pts:Int) d (q+1+c)) (nE st comp sc pts name r c):=by
 have hsz:T.size=q+1+n.length:=by rw[← eF,S.eq,List.length_append,hq]
 have hword:T.extract (q+1+c+1) d.ld=name.extract (c+1) r.2:=by
  rw[A.ld,A.re,Nat.add_assoc];exact sH S hq hn (c+1) e
 have hLw:L (name.extract (c+1) r.2)=(n.drop (c+1)).take (e - (c+1)):=by rw[eR,hn,A.re]
 obtain ⟨R,hm⟩:=A.rel.later SE A.ext (lo:=q+1+c+1) (ld:=d.ld) hword (by rw[A.ld,hsz];omega) (fun h=>by rw[hLw];exact hok h) pts false (c:Int) (by rw[decide_eq_false bA])
 have hr:nE st comp sc pts name r c=(lV st comp sc pts r.1 (name.extract (c+1) r.2) (c:Int),c):=by
  unfold nE mB;rw[if_neg A.rel.idsNe]
 have hlay:=zZ (E:=eK st) (p:=d.p) (comp:=comp) (lo:=q+1+c+1) (ld:=d.ld) (nd:=(pts:Int)) (last:=false) A.rel.layPos;have hkeep:=wH (eK st) d.p comp (q+1+c+1) d.ld (pts:Int) false
 obtain ⟨M,hM⟩:∃ M,iY (eK st) d.p comp (q+1+c+1) d.ld (pts:Int) false=M:=⟨_,rfl⟩
 have hne:M.1.nEnd=d.p.nEnd:=by
  rw[← hM];have:=(tK (E:=eK st) (p:=d.p) (comp:=comp) (i:=q+1+c+1) (ld:=d.ld) (nd:=(pts:Int)) (last:=false) (N:=T.size) (by unfold idHigh;rw[if_neg A.rel.ne,A.ld];omega) (by unfold idHigh;rw[if_neg A.rel.ne,A.ld,hsz];omega) (by rw[A.rel.s])).2.1;exact this
 obtain ⟨r',hr'⟩:∃ r',lV st comp sc pts r.1 (name.extract (c+1) r.2) (c:Int)=r':=⟨_,rfl⟩
 have hext:r'.ext≠⟨#[]⟩:=by rw[← hr',qV];exact A.ext
 rw[hM] at R hm hlay hkeep;rw[hr'] at R hm hr
 have hd:mA (eK st) comp (pts:Int) d (q+1+c) = { d with p:={ M.1 with nEnd:=if M.2=true then ((q+1+c:Nat):Int) else d.p.nEnd },ld:=q+1+c }:=by
  unfold mA;rw[uS A.chi,hM];unfold mI
  by_cases h:M.2=true
  ·rw[if_pos h,if_pos h];rfl
  rw[if_neg h,if_neg h,← hne]
 have hre:kF r'.marks (n.length:Int)=if M.2=true then (c:Int) else kF r.1.marks (n.length:Int):=by
  rw[hm]
  by_cases h:M.2=true
  ·rw[if_pos h,if_pos h,xD,if_pos ⟨aR,by have:=A.le;omega⟩]
  rw[if_neg h,if_neg h]
 rw[hd,hr];refine ⟨⟨R.s,R.typ,R.ids,R.unk,⟨R.ix.lang,R.ix.fmt,R.ix.kind,R.ix.cust,R.ix.pfmt,R.ix.pkind,R.ix.play,R.ix.pl,R.ix.langs,R.ix.lne,R.ix.pos⟩,R.lay,R.hl,R.hk,R.base,R.dis,R.ext⟩,rfl,rfl,hkeep.cHigh.trans A.chi,?_,?_,?_,?_,?_,hext⟩
 ·show (if M.2=true then ((q+1+c:Nat):Int) else d.p.nEnd)=_;rw[hre];split
  ·omega
  exact A.nEnd
 ·rw[hre];split
  ·exact Int.le_refl _
  have:=A.le;omega
 ·rw[hre];split
  ·omega
  exact A.lt
 ·show ∀ x,M.1.known[M.1.lay.toNat]? = some x→M.1.lay≠-1→_;intro x hx hl;rcases hlay with ⟨e1,e2⟩ | ⟨_,h,e2⟩
  ·rw[e1] at hx hl;rcases A.rel.layPos with h0 | h0
   ·exact absurd h0 hl
   have hlt:d.p.lay.toNat < d.p.known.length:=by omega
   have:=e2 _ (List.getElem?_eq_getElem hlt) hl;rw[hx] at this;injection this with this
   rw[this];exact A.low _ (List.getElem?_eq_getElem hlt) hl
  rw[hx] at e2;injection e2 with e2
  rw[e2];show (q:Int)+1 < ((q+1+c+1:Nat):Int);omega
 show ∃ c∈eS ((L T).drop (q+1)),kF r'.marks (n.length:Int)=(c:Int);rw[hre];split
 ·exact ⟨c,by rw[← hq,S.eq,List.drop_left];exact hc,rfl⟩
 exact A.mem
theorem At.steps (S:mV (L T) pre n) (hq:pre.length=q+1) {name:ByteArray} (hn:L name=n) (K:nW (eQ comp) n) (SE:qR st) (pts:Nat):∀ (todo:List Nat) (e:Nat) (tail:List Nat) (d:DoV) (r:RV×Nat),eS n=todo.reverse++e::tail→At st comp sc T q n.length e d r →
 ∃ e',(eS n).head? = some e'∧At st comp sc T q n.length e' ((todo.map (q+1 + ·)).foldl (mA (eK st) comp (pts:Int)) d) (todo.foldl (nE st comp sc pts name) r)
 | [],e,tail,d,r,h,A=>⟨e,by rw[h];rfl,A⟩
 | c::todo,e,tail,d,r,h,A=>by
  obtain ⟨hup,hlt⟩:=rQ S;have h' : eS n=todo.reverse++c::e::tail:=by rw[h];simp
  have hce:c < e:=by
   rw[h',List.pairwise_append] at hup;exact (List.pairwise_cons.1 hup.2.1).1 e bL
  have hne:eS n≠[]:=by rw[h'];simp
  have hstep:=A.step S hq hn K SE pts (c:=c) (by rw[h'];simp) hce (hlt e (by rw[h'];simp)) (fun hl=>K.words hl hne _ (by rw[h'];exact yM n c e tail _ 0));exact At.steps S hq hn K SE pts todo c (e::tail) _ _ h' hstep
theorem aGl (S:mV (L T) pre n) (hq:pre.length=q+1) {name:ByteArray} (hn:L name=n) (K:nW (eQ comp) n) (SE:qR st) {p:eI} (hp:p = { gB with comp:=comp,s:=T,typ:=if sc then 7 else 0 }) (hne:eS n≠[]) :
 Rel st comp sc T (lW (eK st) comp p q n) (gL st comp sc name (eS n))∧(lW (eK st) comp p q n).nEnd=(q:Int)+1+kF (gL st comp sc name (eS n)).marks n.length ∧
 (∃ c∈eS n,kF (gL st comp sc name (eS n)).marks n.length=(c:Int))∧(gL st comp sc name (eS n)).ext≠⟨#[]⟩ ∧
 (sc=true→∀ x,(lW (eK st) comp p q n).known[(lW (eK st) comp p q n).lay.toNat]? = some x→(lW (eK st) comp p q n).lay≠-1→(q:Int)+1 < x.1):=by
 obtain ⟨c0,hc0⟩:∃ c,(eS n).getLast? = some c:=by
  cases h:(eS n).getLast? with
  | none=>exact absurd (List.getLast?_eq_none_iff.1 h) hne
  | some c=>exact ⟨c,rfl⟩
 obtain ⟨front,hfront⟩:=List.getLast?_eq_some_iff.1 hc0;have hrev:(eS n).reverse=c0::front.reverse:=by rw[hfront];simp
 have A0:=At.start (st:=st) (sc:=sc) S hq hn K (eS n).length hc0 hp;obtain ⟨e,he,A⟩:=At.steps S hq hn K SE (eS n).length front.reverse c0 [] _ _ (by rw[List.reverse_reverse];exact hfront) A0
 have e1:nR (eK st) comp p (q+1) n=(front.reverse.map (q+1 + ·)).foldl (mA (eK st) comp ((eS n).length:Int)) (mA (eK st) comp ((eS n).length:Int) ⟨p,0,0⟩ (q+1+c0)):=by
  unfold nR;rw[hrev];rfl
 have e2:gL st comp sc name (eS n)=mB st comp sc (eS n).length (front.reverse.foldl (nE st comp sc (eS n).length name) (nE st comp sc (eS n).length name (kZ,name.size) c0)).1 (name.extract 0 (front.reverse.foldl (nE st comp sc (eS n).length name) (nE st comp sc (eS n).length name (kZ,name.size) c0)).2) (-1):=by
  unfold gL;rw[if_neg hne,hrev];rfl
 obtain ⟨d,hd⟩:∃ d,nR (eK st) comp p (q+1) n=d:=⟨_,rfl⟩
 rw[← e1,hd] at A
 obtain ⟨r,hr⟩:∃ r,front.reverse.foldl (nE st comp sc (eS n).length name) (nE st comp sc (eS n).length name (kZ,name.size) c0)=r:=⟨_,rfl⟩
 rw[hr] at A e2;have hsz:T.size=q+1+n.length:=by rw[← eF,S.eq,List.length_append,hq]
 have hen:e < n.length:=(rQ S).2 e (List.mem_of_head? he)
 have hword:T.extract (q+1) d.ld=name.extract 0 r.2:=by
  rw[A.ld,A.re];exact sH S hq hn 0 e
 have hLw:L (name.extract 0 r.2)=(n.drop 0).take (e - 0):=by rw[eR,hn,A.re]
 have hokw:eQ comp=true→okW (L (name.extract 0 r.2)):=by
  intro hl;rw[hLw];refine K.words hl hne _ ?_
  cases hs:eS n with
  | nil=>exact absurd hs hne
  | cons a t =>
   rw[hs] at he;injection he with he
   rw[he];exact List.mem_cons_self ..
 obtain ⟨R,hm⟩:=A.rel.later SE A.ext (lo:=q+1) (ld:=d.ld) hword (by rw[A.ld,hsz];omega) hokw (eS n).length true (-1) bG;have hlay:=zZ (E:=eK st) (p:=d.p) (comp:=comp) (lo:=q+1) (ld:=d.ld) (nd:=((eS n).length:Int)) (last:=true) A.rel.layPos
 obtain ⟨M,hM⟩:∃ M,iY (eK st) d.p comp (q+1) d.ld ((eS n).length:Int) true=M:=⟨_,rfl⟩
 have hnE:M.1.nEnd=d.p.nEnd:=by
  rw[← hM];exact (tK (E:=eK st) (p:=d.p) (comp:=comp) (i:=q+1) (ld:=d.ld) (nd:=((eS n).length:Int)) (last:=true) (N:=T.size) (by unfold idHigh;rw[if_neg A.rel.ne,A.ld];omega) (by unfold idHigh;rw[if_neg A.rel.ne,A.ld,hsz];omega) (by rw[A.rel.s])).2.1
 have e3:gL st comp sc name (eS n)=lV st comp sc (eS n).length r.1 (name.extract 0 r.2) (-1):=by
  rw[e2];unfold mB;rw[if_neg A.rel.idsNe]
 rw[← e3] at R hm;have hx:(gL st comp sc name (eS n)).ext≠⟨#[]⟩:=by rw[e3,qV];exact A.ext
 obtain ⟨r',hr'⟩:∃ r',gL st comp sc name (eS n)=r':=⟨_,rfl⟩
 rw[hr'] at R hm hx ⊢;rw[hM] at R hm hlay;have hpos:¬ (M.1.nEnd≤0):=by rw[hnE,A.nEnd];have:=A.le;omega
 have e4:lW (eK st) comp p q n=M.1:=by
  unfold lW;rw[hd,if_pos (by rw[A.ld];omega),uS A.chi,hM];unfold mI
  by_cases h:M.2=true
  ·rw[if_pos h,if_pos rfl,if_neg hpos]
  rw[if_neg h]
 have hre:kF r'.marks (n.length:Int)=kF r.1.marks (n.length:Int):=by
  rw[hm]
  by_cases h:M.2=true
  ·rw[if_pos h,xD,if_neg bA]
  rw[if_neg h]
 rw[e4,hre];refine ⟨R,hnE.trans A.nEnd,?_,hx,?_⟩
 ·have:=A.mem;rw[← hq,S.eq,List.drop_left] at this;exact this
 intro hsc x hx hl;rcases hlay with ⟨e1,e2⟩ | ⟨hmay,h,e2⟩
 ·rw[e1] at hx hl;rcases A.rel.layPos with h0 | h0
  ·exact absurd h0 hl
  have hlt:d.p.lay.toNat < d.p.known.length:=by omega
  have:=e2 _ (List.getElem?_eq_getElem hlt) hl;rw[hx] at this;injection this with this
  rw[this];exact A.low _ (List.getElem?_eq_getElem hlt) hl
 exfalso;unfold lH at hmay;rw[A.rel.typ,hsc] at hmay
 simp at hmay
end
structure WV where
 comp:ByteArray
 path:ByteArray
 name:ByteArray
 nEnd:Nat
 ids:List ByteArray
 unk:List ByteArray
 langs:List ByteArray
 ext:ByteArray
 fmt:ByteArray
 kind:ByteArray
 lay:ByteArray
 lang:ByteArray
 cust:ByteArray
 dis:Bool
 typ:Int
def chooseB (a b:ByteArray):ByteArray:=if a=⟨#[]⟩ then b else a
def mL (st:fO) (comp:ByteArray) (path nm:List UInt8) (pointed:Bool) (ext:ByteArray) (baseof:Bool):Int :=
 if (pointed=true∧(jX comp || kS comp)=true∧listed st.cont ext=true)∧nm≠[] then
  if nm=nQ then 3 else if nm=mS then 4 else 2
 else if (pointed=true∧nm=lM∧L ext=mR)∧eQ comp=false then 5
 else if (pointed=true∧nm=lM∧L ext=mR)∧baseof=true then 9
 else if fA path fV=true then 7
 else if eQ comp=true∧baseof=true then 9
 else if eQ comp=true∧fA path jZ=true then 6
 else if eQ comp=true∧jB.isPrefixOf path=true then 8
 else if pointed=true∧nm=lM∧L ext=mR then 5
 else 0
def lastB (path:ByteArray):ByteArray:=⟨((L path).drop (behind (L path))).toArray⟩
def wOf (st:fO) (comp path:ByteArray):WV :=
 let name:=lastB path
 let r:=gL st comp (fA (L path) fV) name (eS (L name))
 let e:=(kF r.marks (name.size:Int)).toNat
 let f:=chooseB r.fmt r.fmt1
 { comp:=comp,path:=path,name:=name,nEnd:=e,ids:=r.ids,unk:=r.unk,langs:=r.langs,ext:=r.ext,fmt:=if eQ comp=true∧f=⟨#[]⟩∧eS (L name)≠[]∧gZ st r.ext=true then r.ext else f,kind:=chooseB r.kind r.kind1,lay:=chooseB r.lay r.lay1,lang:=(match r.langs with | []=>r.lang1 | l::_=>l),cust:=r.cust,dis:=r.dis,typ:=mL st comp (L path) (L (name.extract 0 e)) (!r.ids.isEmpty) r.ext r.baseof }
def slB (l:List UInt8):Nat→Option Nat
 | 0=>none
 | i+1=>if l[i]? = some 47 then some i else slB l i
def hY (path:ByteArray):ByteArray :=
 match slB (L path) path.size with
 | some (a+1)=>path.extract 0 (a+1)
 | _=>⟨#[47]⟩
def jA (path:ByteArray):ByteArray :=
 match slB (L path) path.size with
 | some (a+1)=>lastB (path.extract 0 (a+1))
 | _=>⟨#[]⟩
def kD (l:List UInt8):Nat:=(l.filter fun c=>c==47).length
def pK (path:ByteArray) (typ:Int):ByteArray :=
 if kD ((L path).drop 1)=0∨(kD ((L path).drop 1)=1∧typ=3) then ⟨#[]⟩ else ⟨(((L path).drop 1).takeWhile fun c=>c != 47).toArray⟩
def jL (t:Int):Bool:=decide (3≤t∧t≤5)
def qY (w:WV):ByteArray:=w.path.extract 0 (w.path.size - w.name.size)
def kI (w:WV):ByteArray:=if w.ids=[] then w.path else qY w++w.name.extract 0 w.nEnd
def lQ (w:WV):ByteArray :=
 if w.ids=[] then (if w.path=⟨#[47]⟩∧2≤w.typ∧w.typ≤5 then ⟨#[]⟩ else w.path)
 else if jL w.typ=true then (if hY w.path=⟨#[47]⟩ then ⟨#[]⟩ else hY w.path)
 else if w.typ=2 then kI w
 else if w.ids.length=1 then w.path
 else kI w++⟨#[46]⟩++w.ext
def mD (w:WV):ByteArray:=if w.lang=⟨#[]⟩ then w.path else qY w++w.name.extract 0 w.nEnd++⟨#[46]⟩++w.ext
def kR (w:WV) (s:ByteArray):ByteArray:=if w.ids=[] then s else s.extract 0 (s.size - w.ext.size - 1)
def mJ (w:WV):ByteArray :=
 if jL w.typ=true∧jA w.path≠⟨#[]⟩ then (hY w.path).extract 0 ((slB (L (hY w.path)) (hY w.path).size).getD 0) else hY w.path
def vR (w:WV):gF where
 component:=w.comp
 container:=jA w.path
 containerDir:=mJ w
 section_:=pK w.path w.typ
 name:=w.name
 nameNoExt:=kR w w.name
 baseName:=if jL w.typ=true then jA w.path else w.name.extract 0 w.nEnd
 nameNoId:=w.name.extract 0 w.nEnd
 dir:=hY w.path
 path:=w.path
 pathNoLang:=mD w
 pathNoId:=kI w
 pathBefore:=kR w w.path
 base:=lQ w
 idBase:=if eQ w.comp=true then w.path else lQ w
 ext:=w.ext
 fmt:=w.fmt
 kind:=w.kind
 layout:=w.lay
 lang:=w.lang
 custom:=w.cust
 langs:=w.langs
 ids:=w.ids
 unk:=w.unk
 disabled:=w.dis
 isContent:=decide (1≤w.typ∧w.typ≤5)
 isBundle:=jL w.typ
 isBranch:=w.typ==4
 isLeaf:=w.typ==3
 isData:=w.typ==5
 typ:=w.typ
theorem aGd {st:fO} {comp T:ByteArray} {d:DoV} {r:RV} {nm:List UInt8} (hs:d.p.s=T) (ht:d.p.trim=false) (hc:d.p.comp=comp) (htyp:d.p.typ=if fA (L T) fV then 7 else 0)
 (hids:r.ids=[]↔d.p.known=[]) (hext:d.p.known≠[]→fG d.p 0=r.ext) (hbase:r.baseof=(d.p.base != -1)) (hb0:d.p.known=[]→d.p.base = -1)
 (hnm:L (sub (gI d.p).s (gI d.p).nLow (gI d.p).nHigh)=nm) (hlt:(gI d.p).nLow < (gI d.p).nHigh↔nm≠[])
 (hstrike:fA (L T) fV=true→d.p.lay≠-1→(d.p.known.getD d.p.lay.toNat (0,0)).1≠d.p.cHigh) :
 tG (eK st) comp d = { gI d.p with typ:=mL st comp (L T) nm (!r.ids.isEmpty) r.ext r.baseof,sec:=if mL st comp (L T) nm (!r.ids.isEmpty) r.ext r.baseof=3∧d.sc=2 then 0 else d.p.sec }:=by
 have ecl:eQ comp=true→jX comp=false∧kS comp=false:=by
  intro h;unfold eQ at h;have h:=beq_iff_eq.1 h;unfold jX kS;rw[h];exact ⟨by decide,by decide⟩
 have hn7:∀ x:eI,x.trim=false→x.s=T→(nrm x.trim x.s).data.toList=L T:=by
  intro x h1 h2;rw[h1,h2];rfl
 -- the third sort never strikes
 have s3:∀ x:eI,x.lay=d.p.lay→x.known=d.p.known→x.cHigh=d.p.cHigh→(x.typ=7→fA (L T) fV=true)→nI x=x:=by
  intro x h1 h2 h3 h4;unfold nI;rw[if_neg];rintro ⟨c1,c2,c3⟩;rw[h1,h2,h3] at *;exact hstrike (h4 c1) c2 c3
 obtain ⟨sh,hsh⟩:∃ x,fA (L T) fV=x:=⟨_,rfl⟩
 have P0:(gI d.p).typ=if sh then 7 else 0:=by rw[← hsh];exact htyp
 have Pid:fG (gI d.p) 0=fG d.p 0:=rfl;have Pk:(gI d.p).known=d.p.known:=rfl;have Pc:(gI d.p).comp=comp:=hc
 -- the second sort
 have s2:∀ x:eI,x.trim=false→x.s=T→x.base=d.p.base→x.typ < 6∨x.typ=7 →
  lD comp x = { x with typ:=if x.typ < 6∧eQ comp=true then (if r.baseof=true then 9 else if sh=true then 7 else if fA (L T) jZ=true then 6 else if jB.isPrefixOf (L T)=true then 8 else x.typ) else x.typ }:=by
  intro x h1 h2 h3 h4;have hb' : r.baseof=(x.base != -1):=by rw[h3];exact hbase
  unfold lD;rw[hn7 x h1 h2,hsh,hb']
  by_cases c1:x.typ < 6∧eQ comp=true
  ·rw[if_pos c1,if_pos c1]
   by_cases c2:x.base = -1
   ·have e1:¬ (x.base≠-1):=fun h=>h c2;have e2:¬ ((x.base != -1)=true):=by rw[c2];decide
    rw[if_neg e1,if_neg e2]
    cases sh with
    | true=>rfl
    | false =>
     cases fA (L T) jZ with
     | true=>rfl
     | false =>
      cases jB.isPrefixOf (L T) with
      | true=>rfl
      | false=>rfl
   have e2:(x.base != -1)=true:=bne_iff_ne.2 c2;rw[if_pos c2,if_pos e2]
  rw[if_neg c1,if_neg c1]
 have fin:∀ (x:eI) (R:Int),iF (eK st) d.sc (gI d.p)=x→x.trim=false→x.s=T→x.base=d.p.base→x.lay=d.p.lay→x.known=d.p.known→x.cHigh=d.p.cHigh→(x.typ < 6∨x.typ=7) →
  (if x.typ < 6∧eQ comp=true then (if r.baseof=true then (9:Int) else if sh=true then 7 else if fA (L T) jZ=true then 6 else if jB.isPrefixOf (L T)=true then 8 else x.typ) else x.typ)=R→(R=7→fA (L T) fV=true)→tG (eK st) comp d = { x with typ:=R }:=by
  intro x R h1 h2 h3 h4 h5 h6 h7 h8 h9 h10;unfold tG;rw[h1,s2 x h2 h3 h4 h8,h9];exact s3 { x with typ:=R } h5 h6 h7 h10
 by_cases hk:d.p.known=[]
 ·
  have hi:r.ids=[]:=hids.2 hk;have s1:iF (eK st) d.sc (gI d.p)=gI d.p:=by unfold iF;rw[if_pos (show (gI d.p).known=[] from hk)]
  have hb:r.baseof=false:=by rw[hbase,hb0 hk];rfl
  have hR:mL st comp (L T) nm (!r.ids.isEmpty) r.ext r.baseof=if sh=true then 7 else if eQ comp=true∧fA (L T) jZ=true then 6 else if eQ comp=true∧jB.isPrefixOf (L T)=true then 8 else 0:=by
   unfold mL;rw[hi,hb,hsh]
   simp
  obtain ⟨R,hRR⟩:∃ R,mL st comp (L T) nm (!r.ids.isEmpty) r.ext r.baseof=R:=⟨_,rfl⟩
  rw[hRR] at hR ⊢
  have h3:¬ (R=3∧d.sc=2):=by
   rintro ⟨h,_⟩;rw[hR] at h
   revert h
   cases sh <;> cases eQ comp <;> cases fA (L T) jZ <;> cases jB.isPrefixOf (L T) <;> decide
  rw[if_neg h3];refine fin (gI d.p) R s1 ht hs rfl rfl rfl rfl (by rw[P0];cases sh <;> decide) ?_ ?_
  ·rw[P0,hb,hR];cases sh <;> cases eQ comp <;> cases fA (L T) jZ <;> cases jB.isPrefixOf (L T) <;> rfl
  intro h;rw[hR] at h;rw[hsh]
  revert h
  cases sh <;> cases eQ comp <;> cases fA (L T) jZ <;> cases jB.isPrefixOf (L T) <;> decide
 have hi:(!r.ids.isEmpty)=true:=by
  cases h:r.ids with
  | nil=>exact absurd (hids.1 h) hk
  | cons a l=>rfl
 rw[hi];have hex:=hext hk
 have hisc:((jX (gI d.p).comp || kS (gI d.p).comp) && (eK st).cont (fG (gI d.p) 0))=((jX comp || kS comp) && listed st.cont r.ext):=by
  rw[Pc,Pid,hex];rfl
 have hext0:(fG (gI d.p) 0).toList=L r.ext:=by rw[Pid,hex,L_toList]
 have hnm2:(sub (gI d.p).s (gI d.p).nLow (gI d.p).nHigh).toList=nm:=by rw[L_toList];exact hnm
 obtain ⟨R,hRR⟩:∃ R,mL st comp (L T) nm true r.ext r.baseof=R:=⟨_,rfl⟩
 rw[hRR]
 by_cases c1:((jX comp || kS comp)=true∧listed st.cont r.ext=true)∧nm≠[]
 ·
  have hl:eQ comp=false:=by
   cases h:eQ comp with
   | false=>rfl
   | true =>
    obtain ⟨h1,h2⟩:=ecl h;rw[h1,h2] at c1;exact absurd c1.1.1 bG
  have hR:R=if nm=nQ then 3 else if nm=mS then 4 else 2:=by
   rw[← hRR];unfold mL;rw[if_pos (show (true=true∧(jX comp || kS comp)=true∧listed st.cont r.ext=true)∧nm≠[] from ⟨⟨rfl,c1.1.1,c1.1.2⟩,c1.2⟩)]
  have hc9:((jX comp || kS comp) && listed st.cont r.ext)=true:=by rw[c1.1.1,c1.1.2];rfl
  have s1:iF (eK st) d.sc (gI d.p) = { gI d.p with typ:=R,sec:=if R=3∧d.sc=2 then 0 else d.p.sec }:=by
   unfold iF;rw[if_neg (show ¬ ((gI d.p).known=[]) from hk)];simp only[hisc,hnm2,hc9,if_pos (hlt.2 c1.2),if_true]
   by_cases d1:nm=nQ
   ·rw[if_pos d1] at hR;subst hR;rw[if_pos d1]
    by_cases d2:d.sc=2
    ·rw[if_pos d2,if_pos (show (3:Int)=3∧d.sc=2 from ⟨rfl,d2⟩)]
    rw[if_neg d2,if_neg (fun h=>d2 h.2:¬ ((3:Int)=3∧d.sc=2))];rfl
   rw[if_neg d1] at hR;rw[if_neg d1]
   by_cases d2:nm=mS
   ·rw[if_pos d2] at hR;subst hR;rw[if_pos d2,if_neg (by rintro ⟨h,_⟩;omega:¬ ((4:Int)=3∧d.sc=2))];rfl
   rw[if_neg d2] at hR;subst hR;rw[if_neg d2,if_neg (by rintro ⟨h,_⟩;omega:¬ ((2:Int)=3∧d.sc=2))];rfl
  have hty:R < 6:=by
   rw[hR];split
   ·decide
   split <;> decide
  exact fin _ R s1 ht hs rfl rfl rfl rfl (.inl hty) (by rw[hl];show (if R < 6∧false=true then _ else R)=R;rw[if_neg bL]) (by intro h;exfalso;omega)
 have hnot:¬ ((true=true∧(jX comp || kS comp)=true∧listed st.cont r.ext=true)∧nm≠[]):=fun h=>c1 ⟨⟨h.1.2.1,h.1.2.2⟩,h.2⟩
 obtain ⟨dt,hdt⟩:∃ b:Bool,decide (nm=lM∧L r.ext=mR)=b:=⟨_,rfl⟩
 have s1:iF (eK st) d.sc (gI d.p) = { gI d.p with typ:=if dt=true then 5 else (gI d.p).typ }:=by
  unfold iF;rw[if_neg (show ¬ ((gI d.p).known=[]) from hk)];simp only[hisc,hnm2,hext0]
  by_cases c2:nm=[]
  ·have hd:dt=false:=by rw[← hdt];exact decide_eq_false (by rintro ⟨h,_⟩;rw[c2] at h;cases h)
   rw[if_neg (fun h=>(hlt.1 h) c2),hd];rfl
  have hc9:¬ (((jX comp || kS comp) && listed st.cont r.ext)=true):=by intro h;rw[Bool.and_eq_true] at h;exact c1 ⟨h,c2⟩
  rw[if_pos (hlt.2 c2),if_neg hc9]
  cases dt with
  | true=>rw[if_pos (of_decide_eq_true hdt)];rfl
  | false=>rw[if_neg (of_decide_eq_false hdt)];rfl
 have hR:R=if eQ comp=true then (if dt=true∧r.baseof=true then 9 else if sh=true then 7 else if r.baseof=true then 9 else if fA (L T) jZ=true then 6 else if jB.isPrefixOf (L T)=true then 8 else if dt=true then 5 else 0) else if dt=true then 5 else if sh=true then 7 else 0:=by
  rw[← hRR];unfold mL;rw[if_neg hnot,hsh]
  cases dt with
  | true =>
   have h:=of_decide_eq_true hdt;simp only[h.1,h.2,true_and,and_true,and_self,if_true];cases eQ comp <;> cases r.baseof <;> cases sh <;> simp
  | false =>
   have h:¬ (true=true∧nm=lM∧L r.ext=mR):=fun h=>of_decide_eq_false hdt h.2;rw[if_neg (fun g=>h g.1),if_neg (fun g=>h g.1),if_neg h];cases eQ comp <;> cases r.baseof <;> cases sh <;> simp
 have h3:¬ (R=3∧d.sc=2):=by
  rintro ⟨h,_⟩;rw[hR] at h
  revert h
  cases dt <;> cases r.baseof <;> cases sh <;> cases eQ comp <;> cases fA (L T) jZ <;> cases jB.isPrefixOf (L T) <;> decide
 rw[if_neg h3];refine fin { gI d.p with typ:=if dt=true then 5 else (gI d.p).typ } R s1 ht hs rfl rfl rfl rfl ?_ ?_ ?_
 ·show (if dt=true then (5:Int) else (gI d.p).typ) < 6∨(if dt=true then (5:Int) else (gI d.p).typ)=7;rw[P0];cases dt <;> cases sh <;> decide
 ·show (if (if dt=true then (5:Int) else (gI d.p).typ) < 6∧eQ comp=true then (if r.baseof=true then (9:Int) else if sh=true then 7 else if fA (L T) jZ=true then 6 else if jB.isPrefixOf (L T)=true then 8 else (if dt=true then (5:Int) else (gI d.p).typ)) else (if dt=true then (5:Int) else (gI d.p).typ))=R;rw[P0,hR];cases dt <;> cases r.baseof <;> cases sh <;> cases eQ comp <;> cases fA (L T) jZ <;> cases jB.isPrefixOf (L T) <;> rfl
 intro h;rw[hR] at h;rw[hsh]
 revert h
 cases dt <;> cases r.baseof <;> cases sh <;> cases eQ comp <;> cases fA (L T) jZ <;> cases jB.isPrefixOf (L T) <;> decide
end Go.Proofs.YtlkoeeccebmjmaaGreatDoor.Path
