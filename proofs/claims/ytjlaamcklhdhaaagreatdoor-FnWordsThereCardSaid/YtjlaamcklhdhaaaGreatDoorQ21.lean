/- Texts that the law leans on: Spec, Spec2, Spec3. Condition: as told at each. -/
import Derived.Test.YtjlaamcklhdhaaaGreatDoorQ20
set_option linter.unusedVariables false
set_option linter.unusedSimpArgs false
namespace Go.Proofs.YtjlaamcklhdhaaaGreatDoor.Path
open Go.RowKit Go.Proofs.YtjlaamcklhdhaaaGreatDoorW.PrintWords Go.Proofs.YtjlaamcklhdhaaaGreatDoor.Base Go.Proofs.YtjlaamcklhdhaaaGreatDoor.Total Go.Proofs.YtjlaamcklhdhaaaGreatDoor.Lower
structure RV where
 ids:List ByteArray
 unk:List ByteArray
 langs:List ByteArray
 ext:ByteArray
 fmt:ByteArray
 kind:ByteArray
 lay:ByteArray
 cust:ByteArray
 dis:Bool
 marks:List Int
 lang1:ByteArray
 fmt1:ByteArray
 kind1:ByteArray
 lay1:ByteArray
 hasLang:Bool
 hasKind:Bool
 baseof:Bool
 layAt:Int
def rZero:RV:=⟨[],[],[],⟨#[]⟩,⟨#[]⟩,⟨#[]⟩,⟨#[]⟩,⟨#[]⟩,false,[],⟨#[]⟩,⟨#[]⟩,⟨#[]⟩,⟨#[]⟩,false,false,false,-1⟩
def RV.id (r:RV) (t:ByteArray) (k:Int):RV:={ r with ids:=r.ids++[t],marks:=r.marks++[k] }
def tagD (x pre:ByteArray):Bool:=(L pre).isPrefixOf (L (low x))
def cutP (x pre:ByteArray):ByteArray:=x.extract pre.size x.size
def fmtNamed (st:SiteV) (n:ByteArray):Bool:=st.fmts.any fun x=>x.1.toList==n.toList
def fmtBeside (st:SiteV) (n e:ByteArray):Bool:=st.fmts.any fun x=>x.1.toList==n.toList && x.2.toList==e.toList
def tBaseof:List UInt8:=[98,97,115,101,111,102]
def innerB (word:ByteArray):ByteArray:=word.extract 1 (word.size - 1)
def rWrap (st:SiteV) (lay:Bool) (r:RV) (word x:ByteArray) (k:Int):RV :=
 if tagD x prefLang=true∧(listed st.langs (low (cutP x prefLang)) || listed st.dis (low (cutP x prefLang)))=true then
  { r.id (cutP x prefLang) k with langs:=r.langs++[cutP x prefLang],dis:=r.dis || !listed st.langs (low (cutP x prefLang)) }
 else if lay=true∧tagD x prefFmt=true∧fmtNamed st (low (cutP x prefFmt))=true then { r.id (cutP x prefFmt) k with fmt:=cutP x prefFmt }
 else if lay=true∧tagD x prefKind=true∧isKind (cutP x prefKind)=true then { r.id (cutP x prefKind) k with kind:=cutP x prefKind }
 else if lay=true∧tagD x prefLayout=true then { r.id (cutP x prefLayout) k with lay:=cutP x prefLayout }
 else { r.id word k with cust:=x }
def rPlain (st:SiteV) (comp:ByteArray) (sc:Bool) (pts:Nat) (r:RV) (word:ByteArray) (k:Int):RV :=
 if ((isCon comp || isLay comp)=true∧2≤pts∧r.hasLang=false)∧(listed st.langs word || listed st.dis word)=true then
  { r.id word k with lang1:=word,hasLang:=true,dis:=r.dis || !listed st.langs word }
 else if isLay comp=true∧fmtBeside st word r.ext=true then { r.id word k with fmt1:=word }
 else if isLay comp=true∧r.hasKind=false∧isKind word=true then { r.id word k with kind1:=word,hasKind:=true }
 else if word.toList=tBaseof then { r.id word k with baseof:=true }
 else if isLay comp=true∧¬ (sc=true∧k < 0) then
  if r.layAt < 0 then { r.id word k with layAt:=r.ids.length,lay1:=word }
  else { r with unk:=r.unk++[r.lay1],ids:=r.ids.set r.layAt.toNat word,marks:=r.marks++[k],lay1:=word }
 else { r with unk:=r.unk++[word] }
def rFirst (r:RV) (word:ByteArray) (k:Int):RV:={ r.id word k with ext:=word }
def rLater (st:SiteV) (comp:ByteArray) (sc:Bool) (pts:Nat) (r:RV) (word:ByteArray) (k:Int):RV :=
 if isWrapL (L word)=true then rWrap st (isLay comp) r word (innerB word) k else rPlain st comp sc pts r word k
def rWord (st:SiteV) (comp:ByteArray) (sc:Bool) (pts:Nat) (r:RV) (word:ByteArray) (k:Int):RV :=
 if r.ids=[] then rFirst r word k else rLater st comp sc pts r word k
def rEnd (marks:List Int) (N:Int):Int:=marks.foldl (fun e m=>if 0≤m∧m < e then m else e) N
def Ix (p:PathV) (i:Int) (t:ByteArray):Prop:=0≤i∧i≠p.lay∧∃ x,p.known[i.toNat]? = some x∧sub p.s x.1 x.2=t
def Ox (p:PathV) (i:Int) (t:ByteArray):Prop:=(i = -1∧t=⟨#[]⟩)∨(Ix p i t∧t≠⟨#[]⟩)
theorem Ix.str {p:PathV} {i:Int} {t:ByteArray} (h:Ix p i t):mIdStr p i=t:=by
 obtain ⟨h0,_,x,hx,ht⟩:=h;unfold mIdStr;rw[if_neg (by omega),hx];exact ht
theorem Ox.str {p:PathV} {i:Int} {t:ByteArray} (h:Ox p i t):mIdStr p i=t:=by
 rcases h with ⟨rfl,rfl⟩ | ⟨h,_⟩
 ·rfl
 ·exact h.str
def Grown (p q:PathV):Prop:=q.s=p.s∧((∃ x,q.known=p.known++[x]∧(q.lay=p.lay∨q.lay=p.known.length))∨(∃ x,q.known=p.known.set p.lay.toNat x∧q.lay=p.lay∧1≤p.lay)∨(q.known=p.known∧q.lay=p.lay))
theorem Ix.grown {p q:PathV} {i:Int} {t:ByteArray} (g:Grown p q) (h:Ix p i t):Ix q i t:=by
 obtain ⟨hs,g⟩:=g;obtain ⟨h0,hl,x,hx,ht⟩:=h;have hlt:=(List.getElem?_eq_some_iff.1 hx).1;refine ⟨h0,?_,x,?_,by rw[hs];exact ht⟩
 ·rcases g with ⟨y,_,e | e⟩ | ⟨y,_,e,_⟩ | ⟨_,e⟩
  ·rw[e];exact hl
  ·rw[e];omega
  ·rw[e];exact hl
  ·rw[e];exact hl
 ·rcases g with ⟨y,e,_⟩ | ⟨y,e,_,h1⟩ | ⟨e,_⟩
  ·rw[e,List.getElem?_append_left hlt];exact hx
  ·rw[e,List.getElem?_set_ne (by omega)];exact hx
  ·rw[e];exact hx
theorem Ox.grown {p q:PathV} {i:Int} {t:ByteArray} (g:Grown p q) (h:Ox p i t):Ox q i t:=h.imp id (fun ⟨x,y⟩=>⟨x.grown g,y⟩)
structure RelI (q:PathV) (zl zf zk zc zpf zpk zpy:Int) (zs:List Int) (f0:Int) (r:RV):Prop where
 lang:Ox q zl r.lang1
 fmt:(r.fmt1=⟨#[]⟩∧zf=f0)∨(r.fmt1≠⟨#[]⟩∧Ix q zf r.fmt1)
 kind:Ox q zk r.kind1
 cust:(zc = -1∧r.cust=⟨#[]⟩)∨∃ word,Ix q zc word∧isWrapL (L word)=true∧r.cust=innerB word
 pfmt:Ox q zpf r.fmt
 pkind:Ox q zpk r.kind
 play:Ox q zpy r.lay
 pl:∀ i∈zs,Ix q i (mIdStr q i)
 langs:r.langs=zs.map (mIdStr q)
 lne:∀ t∈r.langs,t≠⟨#[]⟩
 pos:(zl = -1∨1≤zl)∧∀ i∈zs,1≤i
theorem RelI.grown {p q:PathV} {a b c d e f g:Int} {l:List Int} {f0:Int} {r:RV} (h:RelI p a b c d e f g l f0 r) (G:Grown p q):RelI q a b c d e f g l f0 r:=by
 have key:∀ i∈l,mIdStr q i=mIdStr p i:=fun i hi=>(Ix.grown G (h.pl i hi)).str;refine ⟨h.lang.grown G,h.fmt.imp id (fun ⟨x,y⟩=>⟨x,y.grown G⟩),h.kind.grown G,h.cust.imp id (fun ⟨w,x,y⟩=>⟨w,x.grown G,y⟩),h.pfmt.grown G,h.pkind.grown G,h.play.grown G,fun i hi=>?_,?_,h.lne,h.pos⟩
 ·rw[key i hi];exact (h.pl i hi).grown G
 ·rw[h.langs];exact List.map_congr_left (fun i hi=>(key i hi).symm)
def fmt0 (st:SiteV) (comp ext:ByteArray):Int:=if isLay comp && fmtNamed st ext then 0 else -1
structure Rel (st:SiteV) (comp:ByteArray) (sc:Bool) (T:ByteArray) (p:PathV) (r:RV):Prop where
 s:p.s=T
 typ:p.typ=if sc then 7 else 0
 ids:r.ids=mIds p
 unk:r.unk=mUnk p
 ix:RelI p p.lang p.fmt p.kind p.cust p.pfmt p.pkind p.play p.plangs (fmt0 st comp r.ext) r
 lay:(p.lay = -1∧r.layAt = -1∧r.lay1=⟨#[]⟩)∨(p.lay=r.layAt∧1≤p.lay∧∃ x,p.known[p.lay.toNat]? = some x∧sub p.s x.1 x.2=r.lay1)
 hl:r.hasLang=(p.lang != -1)
 hk:r.hasKind=(p.kind != -1)
 base:r.baseof=(p.base != -1)
 dis:p.dis=r.dis
 ext:Ix p 0 r.ext
theorem Rel.ne {st:SiteV} {comp T:ByteArray} {sc:Bool} {p:PathV} {r:RV} (R:Rel st comp sc T p r):p.known≠[]:=by
 obtain ⟨_,_,x,hx,_⟩:=R.ext;intro h;rw[h] at hx;cases hx
structure SiteE (st:SiteV):Prop where
 lang:∀ w,(listed st.langs w || listed st.dis w)=true→w≠⟨#[]⟩
 fmt:∀ n,fmtNamed st n=true→n≠⟨#[]⟩
theorem fmtAsk_named (st:SiteV) (n:ByteArray):fmtAsk st.fmts n ⟨#[]⟩=fmtNamed st n:=by
 unfold fmtAsk fmtNamed;congr 1
 funext x
 have:((⟨#[]⟩:ByteArray).toList==[])=true:=by rw[L_toList];rfl
 rw[this,Bool.true_or,Bool.and_true]
theorem fmtAsk_beside (st:SiteV) (n e:ByteArray) (he:e≠⟨#[]⟩):fmtAsk st.fmts n e=fmtBeside st n e:=by
 unfold fmtAsk fmtBeside;congr 1
 funext x
 have:(e.toList==[])=false:=by
  rw[L_toList]
  cases h:L e with
  | nil=>exact absurd (L_inj (h.trans rfl)) he
  | cons a r=>rfl
 rw[this,Bool.false_or]
theorem beside_named {st:SiteV} {n e:ByteArray} (h:fmtBeside st n e=true):fmtNamed st n=true:=by
 unfold fmtBeside at h;unfold fmtNamed;rw[List.any_eq_true] at h ⊢;obtain ⟨x,hx,hh⟩:=h;rw[Bool.and_eq_true] at hh;exact ⟨x,hx,hh.1⟩
theorem isKind_ne {t:ByteArray} (h:isKind t=true):t≠⟨#[]⟩:=by
 rintro rfl;exact absurd h (by decide)
theorem low_ne {t:ByteArray} (h:low t≠⟨#[]⟩):t≠⟨#[]⟩:=by
 rintro rfl;exact h (L_inj (by rw[L_low];rfl))
theorem lowB_lib (c:UInt8):Lib.lowerB c=lowB c:=by
 unfold Lib.lowerB Lib.isUpperB lowB
 by_cases h:65≤c.toNat∧c.toNat≤90
 ·rw[if_pos h,if_pos (by simp only[Bool.and_eq_true,decide_eq_true_eq,UInt8.le_iff_toNat_le];exact h)]
 ·rw[if_neg h,if_neg (by simp only[Bool.and_eq_true,decide_eq_true_eq,UInt8.le_iff_toNat_le];exact h)]
theorem toLowerA_low (s:ByteArray):Lib.toLowerA (L s)=L (low s):=by
 rw[L_low];exact List.map_congr_left (fun c _=>lowB_lib c)
theorem lowS_low (s:ByteArray):lowS s=low s:=by
 refine L_inj ?_;show L (⟨(Lib.toLowerA (L s)).toArray⟩:ByteArray)=_;rw[L_mk,toLowerA_low]
theorem tag_apart {x a b:ByteArray} (h1:tagD x a=true) (h2:tagD x b=true) (h3:(L a).isPrefixOf (L b)=false) (h4:(L b).isPrefixOf (L a)=false):False:=by
 unfold tagD at h1 h2;rw[List.isPrefixOf_iff_prefix] at h1 h2;rcases List.prefix_or_prefix_of_prefix h1 h2 with h | h
 ·rw[List.isPrefixOf_iff_prefix.2 h] at h3;cases h3
 ·rw[List.isPrefixOf_iff_prefix.2 h] at h4;cases h4
theorem prefOf_tag (x:ByteArray) :
 (prefOf x=prefLang∧tagD x prefLang=true∧tagD x prefFmt=false∧tagD x prefKind=false∧tagD x prefLayout=false) ∨
 (prefOf x=prefFmt∧tagD x prefLang=false∧tagD x prefFmt=true∧tagD x prefKind=false∧tagD x prefLayout=false) ∨
 (prefOf x=prefKind∧tagD x prefLang=false∧tagD x prefFmt=false∧tagD x prefKind=true∧tagD x prefLayout=false) ∨
 (prefOf x=prefLayout∧tagD x prefLang=false∧tagD x prefFmt=false∧tagD x prefKind=false∧tagD x prefLayout=true) ∨
 ((prefOf x≠prefLang∧prefOf x≠prefFmt∧prefOf x≠prefKind∧prefOf x≠prefLayout)∧tagD x prefLang=false∧tagD x prefFmt=false∧tagD x prefKind=false∧tagD x prefLayout=false):=by
 have hp:∀ a:ByteArray,Lib.hasPrefix (Lib.toLowerA (L x)) a.data.toList=tagD x a:=by
  intro a;rw[toLowerA_low];rfl
 have e:prefOf x=if tagD x prefLang=true then prefLang else if tagD x prefVersion=true then prefVersion else if tagD x prefRole=true then prefRole else if tagD x prefFmt=true then prefFmt else if tagD x prefKind=true then prefKind else if tagD x prefLayout=true then prefLayout else ⟨#[]⟩:=by
  unfold prefOf prefs;simp only[prefIn];rw[← hp prefLang,← hp prefVersion,← hp prefRole,← hp prefFmt,← hp prefKind,← hp prefLayout];rfl
 have ap:∀ a b:ByteArray,tagD x a=true→(L a).isPrefixOf (L b)=false→(L b).isPrefixOf (L a)=false→tagD x b=false:=by
  intro a b h1 h3 h4
  cases h2:tagD x b with
  | false=>rfl
  | true=>exact (tag_apart h1 h2 h3 h4).elim
 rw[e]
 by_cases h1:tagD x prefLang=true
 ·rw[if_pos h1];exact .inl ⟨rfl,h1,ap _ _ h1 (by decide) (by decide),ap _ _ h1 (by decide) (by decide),ap _ _ h1 (by decide) (by decide)⟩
 ·rw[if_neg h1];have g1:tagD x prefLang=false:=by simpa using h1
  by_cases h2:tagD x prefVersion=true
  ·rw[if_pos h2];exact .inr (.inr (.inr (.inr ⟨⟨by decide,by decide,by decide,by decide⟩,g1,ap _ _ h2 (by decide) (by decide),ap _ _ h2 (by decide) (by decide),ap _ _ h2 (by decide) (by decide)⟩)))
  ·rw[if_neg h2]
   by_cases h3:tagD x prefRole=true
   ·rw[if_pos h3];exact .inr (.inr (.inr (.inr ⟨⟨by decide,by decide,by decide,by decide⟩,g1,ap _ _ h3 (by decide) (by decide),ap _ _ h3 (by decide) (by decide),ap _ _ h3 (by decide) (by decide)⟩)))
   ·rw[if_neg h3]
    by_cases h4:tagD x prefFmt=true
    ·rw[if_pos h4];exact .inr (.inl ⟨rfl,g1,h4,ap _ _ h4 (by decide) (by decide),ap _ _ h4 (by decide) (by decide)⟩)
    ·rw[if_neg h4]
     by_cases h5:tagD x prefKind=true
     ·rw[if_pos h5];exact .inr (.inr (.inl ⟨rfl,g1,by simpa using h4,h5,ap _ _ h5 (by decide) (by decide)⟩))
     ·rw[if_neg h5]
      by_cases h6:tagD x prefLayout=true
      ·rw[if_pos h6];exact .inr (.inr (.inr (.inl ⟨rfl,g1,by simpa using h4,by simpa using h5,h6⟩)))
      ·rw[if_neg h6];exact .inr (.inr (.inr (.inr ⟨⟨by decide,by decide,by decide,by decide⟩,g1,by simpa using h4,by simpa using h5,by simpa using h6⟩)))
theorem isKind_low (s:ByteArray):isKind (low s)=isKind s:=by
 unfold isKind;rw[toLowerA_low,toLowerA_low];congr 1;rw[L_low,L_low,List.map_map];refine List.map_congr_left (fun c _=>?_);show lowB (lowB c)=lowB c
 by_cases h:65≤c.toNat∧c.toNat≤90
 ·have e1:lowB c=c+32:=by unfold lowB;rw[if_pos h]
  have e2:(c+32).toNat=c.toNat+32:=by rw[UInt8.toNat_add,show (32:UInt8).toNat=32 from rfl];omega
  rw[e1];unfold lowB;rw[if_neg (by rw[e2];omega)]
 ·have e1:lowB c=c:=by unfold lowB;rw[if_neg h]
  rw[e1,e1]
theorem tag_size {x pre:ByteArray} (h:tagD x pre=true):pre.size≤x.size:=by
 unfold tagD at h;have:=(List.isPrefixOf_iff_prefix.1 h).length_le;rw[L_length,L_length,low_size] at this;exact this
theorem value_at {T:ByteArray} {lo hi k:Nat} (h1:lo+1+k≤hi - 1) (h2:hi≤T.size):sub T ((lo+1+k:Nat):Int) ((hi - 1:Nat):Int)=(innerB (T.extract lo hi)).extract k (innerB (T.extract lo hi)).size:=by
 refine L_inj ?_;have e0:(T.extract lo hi).size=hi - lo:=by rw[← L_length,L_extract];have:=L_length T;simp;omega
 have e1:(innerB (T.extract lo hi)).size=hi - lo - 2:=by
  unfold innerB;rw[e0,← L_length,L_extract,L_extract];have:=L_length T
  simp
  omega
 rw[e1,sub_nat,L_extract,L_extract];unfold innerB;rw[e0,L_extract,L_extract];refine List.ext_getElem? (fun i=>?_);simp only[List.getElem?_take,List.getElem?_drop]
 by_cases h:i < hi - 1 - (lo+1+k)
 ·rw[if_pos h,if_pos (by omega),if_pos (by omega),if_pos (by omega)];exact congrArg (fun j=>(L T)[j]?) (by omega)
 ·rw[if_neg h,if_neg (by omega)]
section
variable {st:SiteV} {lay:Bool} {r:RV} {word x:ByteArray} {k:Int}
def Cl (st:SiteV) (x:ByteArray):Prop:=tagD x prefLang=true∧(listed st.langs (low (cutP x prefLang)) || listed st.dis (low (cutP x prefLang)))=true
def Cf (st:SiteV) (lay:Bool) (x:ByteArray):Prop:=lay=true∧tagD x prefFmt=true∧fmtNamed st (low (cutP x prefFmt))=true
def Ck (lay:Bool) (x:ByteArray):Prop:=lay=true∧tagD x prefKind=true∧isKind (cutP x prefKind)=true
def Cy (lay:Bool) (x:ByteArray):Prop:=lay=true∧tagD x prefLayout=true
theorem rWrap_l (h:Cl st x):rWrap st lay r word x k = { r.id (cutP x prefLang) k with langs:=r.langs++[cutP x prefLang],dis:=r.dis || !listed st.langs (low (cutP x prefLang)) }:=by
 unfold rWrap;rw[if_pos (show _∧_ from h)]
theorem rWrap_f (h1:¬ Cl st x) (h:Cf st lay x):rWrap st lay r word x k = { r.id (cutP x prefFmt) k with fmt:=cutP x prefFmt }:=by
 unfold rWrap;rw[if_neg (show ¬ (_∧_) from h1),if_pos (show _∧_ from h)]
theorem rWrap_k (h1:¬ Cl st x) (h2:¬ Cf st lay x) (h:Ck lay x):rWrap st lay r word x k = { r.id (cutP x prefKind) k with kind:=cutP x prefKind }:=by
 unfold rWrap;rw[if_neg (show ¬ (_∧_) from h1),if_neg (show ¬ (_∧_) from h2),if_pos (show _∧_ from h)]
theorem rWrap_y (h1:¬ Cl st x) (h2:¬ Cf st lay x) (h3:¬ Ck lay x) (h:Cy lay x):rWrap st lay r word x k = { r.id (cutP x prefLayout) k with lay:=cutP x prefLayout }:=by
 unfold rWrap;rw[if_neg (show ¬ (_∧_) from h1),if_neg (show ¬ (_∧_) from h2),if_neg (show ¬ (_∧_) from h3),if_pos (show _∧_ from h)]
theorem rWrap_c (h1:¬ Cl st x) (h2:¬ Cf st lay x) (h3:¬ Ck lay x) (h4:¬ Cy lay x):rWrap st lay r word x k = { r.id word k with cust:=x }:=by
 unfold rWrap;rw[if_neg (show ¬ (_∧_) from h1),if_neg (show ¬ (_∧_) from h2),if_neg (show ¬ (_∧_) from h3),if_neg (show ¬ (_∧_) from h4)]
end
theorem mWrap_pre {E:Env} {lay:Bool} {p:PathV} {lo hi:Nat} {sid pre v:ByteArray} (h:prefOf (innerB sid)=pre) (hne:¬ pre.toList=[]) (hv:lowS (p.s.extract (lo+1+pre.size) (hi - 1))=v) :
 mWrap E lay p lo hi sid=(mApply E lay p pre (((lo+1+pre.size:Nat):Int),((hi - 1:Nat):Int)) v).getD (mCust p ((lo:Int),(hi:Int))):=by
 have h' : prefOf (sid.extract 1 (sid.size - 1))=pre:=h;unfold mWrap;simp only[h',hv];rw[if_neg hne];cases mApply E lay p pre (((lo+1+pre.size:Nat):Int),((hi - 1:Nat):Int)) v <;> rfl
theorem mApply_l {E:Env} {lay:Bool} {p:PathV} {x:Int×Int} {v:ByteArray}:mApply E lay p prefLang x v=if E.lang v=true then some { p with known:=p.known++[x],plangs:=p.plangs++[(p.known.length:Int)] } else if E.dis v=true then some { p with known:=p.known++[x],plangs:=p.plangs++[(p.known.length:Int)],dis:=true } else none:=by
 unfold mApply;rw[if_pos (rfl:prefLang=prefLang)]
theorem mApply_f {E:Env} {lay:Bool} {p:PathV} {x:Int×Int} {v:ByteArray}:mApply E lay p prefFmt x v=if (lay && E.fmt v ⟨#[]⟩)=true then some { p with known:=p.known++[x],pfmt:=p.known.length } else none:=by
 unfold mApply;rw[if_neg (by decide:¬ prefFmt=prefLang),if_pos (rfl:prefFmt=prefFmt)]
theorem mApply_k {E:Env} {lay:Bool} {p:PathV} {x:Int×Int} {v:ByteArray}:mApply E lay p prefKind x v=if (lay && isKind v)=true then some { p with known:=p.known++[x],pkind:=p.known.length } else none:=by
 unfold mApply;rw[if_neg (by decide:¬ prefKind=prefLang),if_neg (by decide:¬ prefKind=prefFmt),if_pos (rfl:prefKind=prefKind)]
theorem mApply_y {E:Env} {lay:Bool} {p:PathV} {x:Int×Int} {v:ByteArray}:mApply E lay p prefLayout x v=if lay=true then some { p with known:=p.known++[x],play:=p.known.length } else none:=by
 unfold mApply;rw[if_neg (by decide:¬ prefLayout=prefLang),if_neg (by decide:¬ prefLayout=prefFmt),if_neg (by decide:¬ prefLayout=prefKind),if_pos (rfl:prefLayout=prefLayout)]
theorem mWrap_none {E:Env} {lay:Bool} {p:PathV} {lo hi:Nat} {sid:ByteArray} (h1:prefOf (innerB sid)≠prefLang) (h2:prefOf (innerB sid)≠prefFmt) (h3:prefOf (innerB sid)≠prefKind) (h4:prefOf (innerB sid)≠prefLayout) :
 mWrap E lay p lo hi sid=mCust p ((lo:Int),(hi:Int)):=by
 have h' : prefOf (sid.extract 1 (sid.size - 1))=prefOf (innerB sid):=rfl;unfold mWrap;simp only[h']
 by_cases c:(prefOf (innerB sid)).toList=[]
 ·rw[if_pos c]
 ·rw[if_neg c];unfold mApply;rw[if_neg h1,if_neg h2,if_neg h3,if_neg h4]
section
variable {st:SiteV} {comp T:ByteArray} {sc:Bool} {p:PathV} {r:RV}
structure Pushed (st:SiteV) (comp T:ByteArray) (p q:PathV) (r:RV) (t:ByteArray):Prop where
 ix:RelI q p.lang p.fmt p.kind p.cust p.pfmt p.pkind p.play p.plangs (fmt0 st comp r.ext) r
 new:Ix q p.known.length t
 ids:r.ids++[t]=mIds q
 lay:(q.lay = -1∧r.layAt = -1∧r.lay1=⟨#[]⟩)∨(q.lay=r.layAt∧1≤q.lay∧∃ x,q.known[q.lay.toNat]? = some x∧sub q.s x.1 x.2=r.lay1)
 ext:Ix q 0 r.ext
theorem Rel.push (R:Rel st comp sc T p r) {q:PathV} {x:Int×Int} {t:ByteArray} (ht:sub T x.1 x.2=t) (hs:q.s=p.s) (hk:q.known=p.known++[x]) (hl:q.lay=p.lay):Pushed st comp T p q r t:=by
 have G:Grown p q:=⟨hs,.inl ⟨x,hk,.inl hl⟩⟩
 have hpos:=List.length_pos_iff.2 R.ne;refine ⟨R.ix.grown G,⟨by omega,?_,x,?_,by rw[hs,R.s];exact ht⟩,?_,?_,R.ext.grown G⟩
 ·rw[hl];rcases R.lay with ⟨h,_⟩ | ⟨_,h,y,hy,_⟩
  ·omega
  ·have:=(List.getElem?_eq_some_iff.1 hy).1;omega
 ·rw[hk,Int.toNat_natCast,List.getElem?_append_right (Nat.le_refl _),Nat.sub_self];rfl
 ·rw[R.ids];unfold mIds;rw[hk,hs,List.map_append,List.map_cons,List.map_nil,R.s,ht]
 ·rw[hl];rcases R.lay with h | ⟨h1,h2,y,hy,h3⟩
  ·exact .inl h
  ·refine .inr ⟨h1,h2,y,?_,by rw[hs];exact h3⟩;rw[hk,List.getElem?_append_left (List.getElem?_eq_some_iff.1 hy).1];exact hy
theorem Rel.cust (R:Rel st comp sc T p r) {x:Int×Int} {t:ByteArray} (ht:sub T x.1 x.2=t) (hw:isWrapL (L t)=true) (k:Int):Rel st comp sc T (mCust p x) { r.id t k with cust:=innerB t }:=by
 have P:=R.push (q:=mCust p x) (x:=x) ht rfl rfl rfl;exact ⟨R.s,R.typ,P.ids,R.unk,⟨P.ix.lang,P.ix.fmt,P.ix.kind,.inr ⟨t,P.new,hw,rfl⟩,P.ix.pfmt,P.ix.pkind,P.ix.play,P.ix.pl,P.ix.langs,P.ix.lne,P.ix.pos⟩,P.lay,R.hl,R.hk,R.base,R.dis,P.ext⟩
set_option maxHeartbeats 800000 in
theorem Rel.wrap (R:Rel st comp sc T p r) (SE:SiteE st) {lo hi:Nat} {sid:ByteArray} (hsid:T.extract lo hi=sid) (hhi:hi≤T.size) (hw:isWrapL (L sid)=true) (hok:isLay comp=true→okW (L sid)) (k:Int) :
 Rel st comp sc T (mWrap (envOf st) (isLay comp) p lo hi sid) (rWrap st (isLay comp) r sid (innerB sid) k)∧(rWrap st (isLay comp) r sid (innerB sid) k).marks=r.marks++[k]:=by
 have hz:sid.size=hi - lo:=by rw[← hsid,← L_length,L_extract];have:=L_length T;simp;omega
 have h3:3≤sid.size:=by unfold isWrapL at hw;rw[Bool.and_eq_true,decide_eq_true_eq,L_length] at hw;exact hw.1
 have hi2:(innerB sid).size=hi - lo - 2:=by
  unfold innerB;rw[← L_length,L_extract,List.length_take,List.length_drop,L_length,hz];omega
 have hval:∀ pre:ByteArray,tagD (innerB sid) pre=true→sub T ((lo+1+pre.size:Nat):Int) ((hi - 1:Nat):Int)=cutP (innerB sid) pre:=by
  intro pre hp;have:=tag_size hp;rw[value_at (T:=T) (lo:=lo) (hi:=hi) (k:=pre.size) (by omega) hhi,hsid];rfl
 have hlow:∀ pre:ByteArray,tagD (innerB sid) pre=true→lowS (p.s.extract (lo+1+pre.size) (hi - 1))=low (cutP (innerB sid) pre):=by
  intro pre hp;rw[lowS_low,← hval pre hp,sub_nat,R.s]
 have hc:Rel st comp sc T (mCust p ((lo:Int),(hi:Int))) { r.id sid k with cust:=innerB sid }:=R.cust (by rw[sub_nat];exact hsid) hw k
 have ne4:∀ pre:ByteArray,(pre=prefLang∨pre=prefFmt∨pre=prefKind∨pre=prefLayout)→¬ pre.toList=[]:=by
  rintro pre (rfl | rfl | rfl | rfl) <;> rw[L_toList] <;> decide
 have fx:∀ {t:Bool} {a:ByteArray},tagD (innerB sid) a=false→¬ (tagD (innerB sid) a=true):=fun h=>by rw[h];simp
 rcases prefOf_tag (innerB sid) with ⟨e,t1,t2,t3,t4⟩ | ⟨e,t1,t2,t3,t4⟩ | ⟨e,t1,t2,t3,t4⟩ | ⟨e,t1,t2,t3,t4⟩ | ⟨⟨e1,e2,e3,e4⟩,t1,t2,t3,t4⟩
 ·rw[mWrap_pre e (ne4 _ (.inl rfl)) (hlow _ t1),mApply_l];have P:=fun q h1 h2 h3=>R.push (q:=q) (x:=(((lo+1+prefLang.size:Nat):Int),((hi - 1:Nat):Int))) (hval _ t1) h1 h2 h3;have el:(envOf st).lang=listed st.langs:=rfl;have ed:(envOf st).dis=listed st.dis:=rfl;rw[el,ed]
  by_cases h1:(listed st.langs (low (cutP (innerB sid) prefLang)) || listed st.dis (low (cutP (innerB sid) prefLang)))=true
  ·have hne:=low_ne (SE.lang _ h1);rw[rWrap_l ⟨t1,h1⟩]
   have lne:∀ t∈r.langs++[cutP (innerB sid) prefLang],t≠⟨#[]⟩:=by
    intro t ht;rcases List.mem_append.1 ht with ht | ht
    ·exact R.ix.lne t ht
    ·rw[List.mem_singleton] at ht;rw[ht];exact hne
   have hpos:=List.length_pos_iff.2 R.ne
   have posw:(p.lang = -1∨1≤p.lang)∧∀ i∈p.plangs++[(p.known.length:Int)],1≤i:=by
    refine ⟨R.ix.pos.1,fun i hi=>?_⟩;rcases List.mem_append.1 hi with hi | hi
    ·exact R.ix.pos.2 i hi
    ·rw[List.mem_singleton] at hi;omega
   have done:∀ q:PathV,(h1:q.s=p.s)→(h2:q.known=p.known++[(((lo+1+prefLang.size:Nat):Int),((hi - 1:Nat):Int))])→(h3:q.lay=p.lay)→q.plangs=p.plangs++[(p.known.length:Int)]→(∀ i∈q.plangs,Ix q i (mIdStr q i))∧r.langs++[cutP (innerB sid) prefLang]=q.plangs.map (mIdStr q):=by
    intro q h1 h2 h3 h4;have P:=P q h1 h2 h3;have hs:=P.new.str;rw[h4];refine ⟨fun i hi=>?_,?_⟩
    ·rcases List.mem_append.1 hi with hi | hi
     ·exact P.ix.pl i hi
     ·rw[List.mem_singleton] at hi;rw[hi,hs];exact P.new
    ·rw[List.map_append,List.map_cons,List.map_nil,hs,P.ix.langs]
   by_cases h2:listed st.langs (low (cutP (innerB sid) prefLang))=true
   ·rw[if_pos h2,h2];obtain ⟨d1,d2⟩:=done { p with known:=p.known++[(((lo+1+prefLang.size:Nat):Int),((hi - 1:Nat):Int))],plangs:=p.plangs++[(p.known.length:Int)] } rfl rfl rfl rfl;have P:=P { p with known:=p.known++[(((lo+1+prefLang.size:Nat):Int),((hi - 1:Nat):Int))],plangs:=p.plangs++[(p.known.length:Int)] } rfl rfl rfl;exact ⟨⟨R.s,R.typ,P.ids,R.unk,⟨P.ix.lang,P.ix.fmt,P.ix.kind,P.ix.cust,P.ix.pfmt,P.ix.pkind,P.ix.play,d1,d2,lne,posw⟩,P.lay,R.hl,R.hk,R.base,R.dis.trans (by simp),P.ext⟩,rfl⟩
   ·have h2' : listed st.langs (low (cutP (innerB sid) prefLang))=false:=by simpa using h2
    have h3' : listed st.dis (low (cutP (innerB sid) prefLang))=true:=by rw[h2'] at h1;simpa using h1
    rw[if_neg h2,if_pos h3',h2'];obtain ⟨d1,d2⟩:=done { p with known:=p.known++[(((lo+1+prefLang.size:Nat):Int),((hi - 1:Nat):Int))],plangs:=p.plangs++[(p.known.length:Int)],dis:=true } rfl rfl rfl rfl;have P:=P { p with known:=p.known++[(((lo+1+prefLang.size:Nat):Int),((hi - 1:Nat):Int))],plangs:=p.plangs++[(p.known.length:Int)],dis:=true } rfl rfl rfl;exact ⟨⟨R.s,R.typ,P.ids,R.unk,⟨P.ix.lang,P.ix.fmt,P.ix.kind,P.ix.cust,P.ix.pfmt,P.ix.pkind,P.ix.play,d1,d2,lne,posw⟩,P.lay,R.hl,R.hk,R.base,(by simp),P.ext⟩,rfl⟩
  ·have h1' : listed st.langs (low (cutP (innerB sid) prefLang))=false∧listed st.dis (low (cutP (innerB sid) prefLang))=false:=by simpa using h1
   rw[if_neg (by rw[h1'.1];decide:¬ (listed st.langs (low (cutP (innerB sid) prefLang))=true)),if_neg (by rw[h1'.2];decide:¬ (listed st.dis (low (cutP (innerB sid) prefLang))=true)),rWrap_c (fun h=>h1 h.2) (fun h=>fx (t:=true) t2 h.2.1) (fun h=>fx (t:=true) t3 h.2.1) (fun h=>fx (t:=true) t4 h.2)];exact ⟨hc,rfl⟩
 ·rw[mWrap_pre e (ne4 _ (.inr (.inl rfl))) (hlow _ t2),mApply_f];have ef:(envOf st).fmt (low (cutP (innerB sid) prefFmt)) ⟨#[]⟩=fmtNamed st (low (cutP (innerB sid) prefFmt)):=fmtAsk_named st _;rw[ef];have n1:¬ Cl st (innerB sid):=fun h=>fx (t:=true) t1 h.1
  by_cases h1:isLay comp=true∧fmtNamed st (low (cutP (innerB sid) prefFmt))=true
  ·rw[rWrap_f n1 ⟨h1.1,t2,h1.2⟩,if_pos (by rw[h1.1,h1.2];rfl:(isLay comp && fmtNamed st (low (cutP (innerB sid) prefFmt)))=true)];have P:=R.push (q:={ p with known:=p.known++[(((lo+1+prefFmt.size:Nat):Int),((hi - 1:Nat):Int))],pfmt:=p.known.length }) (x:=(((lo+1+prefFmt.size:Nat):Int),((hi - 1:Nat):Int))) (hval _ t2) rfl rfl rfl;have hne:cutP (innerB sid) prefFmt≠⟨#[]⟩:=low_ne (SE.fmt _ h1.2);exact ⟨⟨R.s,R.typ,P.ids,R.unk,⟨P.ix.lang,P.ix.fmt,P.ix.kind,P.ix.cust,.inr ⟨P.new,hne⟩,P.ix.pkind,P.ix.play,P.ix.pl,P.ix.langs,P.ix.lne,P.ix.pos⟩,P.lay,R.hl,R.hk,R.base,R.dis,P.ext⟩,rfl⟩
  ·rw[rWrap_c n1 (fun h=>h1 ⟨h.1,h.2.2⟩) (fun h=>fx (t:=true) t3 h.2.1) (fun h=>fx (t:=true) t4 h.2),if_neg (fun h=>h1 (by rw[Bool.and_eq_true] at h;exact h):¬ ((isLay comp && fmtNamed st (low (cutP (innerB sid) prefFmt)))=true))];exact ⟨hc,rfl⟩
 ·rw[mWrap_pre e (ne4 _ (.inr (.inr (.inl rfl)))) (hlow _ t3),mApply_k,isKind_low];have n1:¬ Cl st (innerB sid):=fun h=>fx (t:=true) t1 h.1;have n2:¬ Cf st (isLay comp) (innerB sid):=fun h=>fx (t:=true) t2 h.2.1
  by_cases h1:isLay comp=true∧isKind (cutP (innerB sid) prefKind)=true
  ·rw[rWrap_k n1 n2 ⟨h1.1,t3,h1.2⟩,if_pos (by rw[h1.1,h1.2];rfl:(isLay comp && isKind (cutP (innerB sid) prefKind))=true)];have P:=R.push (q:={ p with known:=p.known++[(((lo+1+prefKind.size:Nat):Int),((hi - 1:Nat):Int))],pkind:=p.known.length }) (x:=(((lo+1+prefKind.size:Nat):Int),((hi - 1:Nat):Int))) (hval _ t3) rfl rfl rfl;have hne:cutP (innerB sid) prefKind≠⟨#[]⟩:=isKind_ne h1.2;exact ⟨⟨R.s,R.typ,P.ids,R.unk,⟨P.ix.lang,P.ix.fmt,P.ix.kind,P.ix.cust,P.ix.pfmt,.inr ⟨P.new,hne⟩,P.ix.play,P.ix.pl,P.ix.langs,P.ix.lne,P.ix.pos⟩,P.lay,R.hl,R.hk,R.base,R.dis,P.ext⟩,rfl⟩
  ·rw[rWrap_c n1 n2 (fun h=>h1 ⟨h.1,h.2.2⟩) (fun h=>fx (t:=true) t4 h.2),if_neg (fun h=>h1 (by rw[Bool.and_eq_true] at h;exact h):¬ ((isLay comp && isKind (cutP (innerB sid) prefKind))=true))];exact ⟨hc,rfl⟩
 ·rw[mWrap_pre e (ne4 _ (.inr (.inr (.inr rfl)))) (hlow _ t4),mApply_y];have n1:¬ Cl st (innerB sid):=fun h=>fx (t:=true) t1 h.1;have n2:¬ Cf st (isLay comp) (innerB sid):=fun h=>fx (t:=true) t2 h.2.1;have n3:¬ Ck (isLay comp) (innerB sid):=fun h=>fx (t:=true) t3 h.2.1
  by_cases h1:isLay comp=true
  ·rw[rWrap_y n1 n2 n3 ⟨h1,t4⟩,if_pos h1];have P:=R.push (q:={ p with known:=p.known++[(((lo+1+prefLayout.size:Nat):Int),((hi - 1:Nat):Int))],play:=p.known.length }) (x:=(((lo+1+prefLayout.size:Nat):Int),((hi - 1:Nat):Int))) (hval _ t4) rfl rfl rfl
   have hne:cutP (innerB sid) prefLayout≠⟨#[]⟩:=by
    intro h
    have hsz:(innerB sid).size≤prefLayout.size:=by
     have h9:=congrArg ByteArray.size h
     have hx:(cutP (innerB sid) prefLayout).size=(innerB sid).size - prefLayout.size:=by
      unfold cutP;rw[← L_length,L_extract,List.length_take,List.length_drop,L_length];omega
     rw[hx] at h9;have h0:(⟨#[]⟩:ByteArray).size=0:=rfl;omega
    have hpre:(L prefLayout) <+: (L (low (innerB sid))):=List.isPrefixOf_iff_prefix.1 t4;have h8:=hpre.eq_of_length_le (by rw[L_length,L_length,low_size];exact hsz);refine hok h1 hw ?_
    have e1:(inner (L sid))=L (innerB sid):=by
     unfold inner innerB;rw[L_extract,L_length];rfl
    rw[e1,← L_low,← h8];rfl
   exact ⟨⟨R.s,R.typ,P.ids,R.unk,⟨P.ix.lang,P.ix.fmt,P.ix.kind,P.ix.cust,P.ix.pfmt,P.ix.pkind,.inr ⟨P.new,hne⟩,P.ix.pl,P.ix.langs,P.ix.lne,P.ix.pos⟩,P.lay,R.hl,R.hk,R.base,R.dis,P.ext⟩,rfl⟩
  ·rw[rWrap_c n1 n2 n3 (fun h=>h1 h.1),if_neg h1];exact ⟨hc,rfl⟩
 ·rw[mWrap_none e1 e2 e3 e4,rWrap_c (fun h=>fx (t:=true) t1 h.1) (fun h=>fx (t:=true) t2 h.2.1) (fun h=>fx (t:=true) t3 h.2.1) (fun h=>fx (t:=true) t4 h.2)];exact ⟨hc,rfl⟩
set_option maxHeartbeats 800000 in
theorem Rel.plain (R:Rel st comp sc T p r) (SE:SiteE st) (hext:r.ext≠⟨#[]⟩) {lo hi:Nat} {sid:ByteArray} (hsid:T.extract lo hi=sid) (pts:Nat) (last:Bool) (k:Int) (hk:last=decide (k < 0)) :
 Rel st comp sc T (mPlain (envOf st) p comp (pts:Int) last ((lo:Int),(hi:Int)) sid).1 (rPlain st comp sc pts r sid k) ∧
 (rPlain st comp sc pts r sid k).marks=if (mPlain (envOf st) p comp (pts:Int) last ((lo:Int),(hi:Int)) sid).2=true then r.marks++[k] else r.marks:=by
 have ht:sub T (((lo:Int),(hi:Int)):Int×Int).1 (((lo:Int),(hi:Int)):Int×Int).2=sid:=by rw[sub_nat];exact hsid
 have el:(envOf st).lang=listed st.langs:=rfl;have ed:(envOf st).dis=listed st.dis:=rfl;have ef:(envOf st).fmt sid (mIdStr p 0)=fmtBeside st sid r.ext:=by rw[R.ext.str];exact fmtAsk_beside st _ _ hext
 unfold mPlain rPlain;rw[el,ed,ef]
 have q1:(mayLang p comp (pts:Int) && (listed st.langs sid || listed st.dis sid))=true↔((isCon comp || isLay comp)=true∧2≤pts∧r.hasLang=false)∧(listed st.langs sid || listed st.dis sid)=true:=by
  unfold mayLang;rw[R.hl];simp only[Bool.and_eq_true,decide_eq_true_eq,beq_iff_eq,bne_eq_false_iff_eq];constructor
  ·rintro ⟨⟨⟨a,b⟩,c⟩,d⟩;exact ⟨⟨c,by omega,b⟩,d⟩
  ·rintro ⟨⟨c,a,b⟩,d⟩;exact ⟨⟨⟨by omega,b⟩,c⟩,d⟩
 have q3:(mayKind p comp && isKind sid)=true↔(isLay comp=true∧r.hasKind=false∧isKind sid=true):=by
  unfold mayKind;rw[R.hk];simp only[Bool.and_eq_true,beq_iff_eq,bne_eq_false_iff_eq];constructor
  ·rintro ⟨⟨a,b⟩,c⟩;exact ⟨b,a,c⟩
  ·rintro ⟨b,a,c⟩;exact ⟨⟨a,b⟩,c⟩
 have q5:mayLayout p comp last=true↔(isLay comp=true∧¬ (sc=true∧k < 0)):=by
  unfold mayLayout;rw[R.typ,hk]
  cases sc with
  | true=>simp;exact and_comm
  | false=>simp
 by_cases c1:(mayLang p comp (pts:Int) && (listed st.langs sid || listed st.dis sid))=true
 ·rw[if_pos c1,if_pos (show _∧_ from q1.1 c1)];have hne1:sid≠⟨#[]⟩:=SE.lang _ (q1.1 c1).2;have P:=R.push (q:={ p with known:=p.known++[((lo:Int),(hi:Int))],lang:=p.known.length,dis:=p.dis || !listed st.langs sid }) (x:=((lo:Int),(hi:Int))) ht rfl rfl rfl;refine ⟨⟨R.s,R.typ,P.ids,R.unk,⟨.inr ⟨P.new,hne1⟩,P.ix.fmt,P.ix.kind,P.ix.cust,P.ix.pfmt,P.ix.pkind,P.ix.play,P.ix.pl,P.ix.langs,P.ix.lne,⟨.inr (by have:=List.length_pos_iff.2 R.ne;show (1:Int)≤(p.known.length:Int);omega),P.ix.pos.2⟩⟩,P.lay,?_,R.hk,R.base,?_,P.ext⟩,rfl⟩
  ·show true=((p.known.length:Int) != -1);exact (bne_iff_ne.2 (by omega)).symm
  ·show (p.dis || !listed st.langs sid)=(r.dis || !listed st.langs sid);rw[R.dis]
 ·rw[if_neg c1,if_neg (fun h=>c1 (q1.2 h):¬ (((isCon comp || isLay comp)=true∧2≤pts∧r.hasLang=false)∧(listed st.langs sid || listed st.dis sid)=true))]
  by_cases c2:isLay comp=true∧fmtBeside st sid r.ext=true
  ·rw[if_pos (by rw[Bool.and_eq_true];exact c2:(isLay comp && fmtBeside st sid r.ext)=true),if_pos c2];have hne2:sid≠⟨#[]⟩:=SE.fmt _ (beside_named c2.2);have P:=R.push (q:={ p with known:=p.known++[((lo:Int),(hi:Int))],fmt:=p.known.length }) (x:=((lo:Int),(hi:Int))) ht rfl rfl rfl;exact ⟨⟨R.s,R.typ,P.ids,R.unk,⟨P.ix.lang,.inr ⟨hne2,P.new⟩,P.ix.kind,P.ix.cust,P.ix.pfmt,P.ix.pkind,P.ix.play,P.ix.pl,P.ix.langs,P.ix.lne,P.ix.pos⟩,P.lay,R.hl,R.hk,R.base,R.dis,P.ext⟩,rfl⟩
  ·rw[if_neg (by rw[Bool.and_eq_true];exact c2:¬ ((isLay comp && fmtBeside st sid r.ext)=true)),if_neg c2]
   by_cases c3:(mayKind p comp && isKind sid)=true
   ·rw[if_pos c3,if_pos (show _∧_ from q3.1 c3)];have hne3:sid≠⟨#[]⟩:=isKind_ne (q3.1 c3).2.2;have P:=R.push (q:={ p with known:=p.known++[((lo:Int),(hi:Int))],kind:=p.known.length }) (x:=((lo:Int),(hi:Int))) ht rfl rfl rfl;refine ⟨⟨R.s,R.typ,P.ids,R.unk,⟨P.ix.lang,P.ix.fmt,.inr ⟨P.new,hne3⟩,P.ix.cust,P.ix.pfmt,P.ix.pkind,P.ix.play,P.ix.pl,P.ix.langs,P.ix.lne,P.ix.pos⟩,P.lay,R.hl,?_,R.base,R.dis,P.ext⟩,rfl⟩;show true=((p.known.length:Int) != -1);exact (bne_iff_ne.2 (by omega)).symm
   ·rw[if_neg c3,if_neg (fun h=>c3 (q3.2 h):¬ (isLay comp=true∧r.hasKind=false∧isKind sid=true))]
    by_cases c4:sid.toList=tBaseof
    ·rw[if_pos (by rw[c4];rfl:(sid.toList==[98,97,115,101,111,102])=true),if_pos c4];have P:=R.push (q:={ p with known:=p.known++[((lo:Int),(hi:Int))],base:=p.known.length }) (x:=((lo:Int),(hi:Int))) ht rfl rfl rfl;refine ⟨⟨R.s,R.typ,P.ids,R.unk,⟨P.ix.lang,P.ix.fmt,P.ix.kind,P.ix.cust,P.ix.pfmt,P.ix.pkind,P.ix.play,P.ix.pl,P.ix.langs,P.ix.lne,P.ix.pos⟩,P.lay,R.hl,R.hk,?_,R.dis,P.ext⟩,rfl⟩;show true=((p.known.length:Int) != -1);exact (bne_iff_ne.2 (by omega)).symm
    ·rw[if_neg (by intro h;exact c4 (beq_iff_eq.1 h):¬ ((sid.toList==[98,97,115,101,111,102])=true)),if_neg c4]
     by_cases c5:mayLayout p comp last=true
     ·rw[if_pos c5,if_pos (show _∧_ from q5.1 c5)];rcases R.lay with ⟨l1,l2,l3⟩ | ⟨l1,l2,y,l3,l4⟩
      ·rw[if_neg (by rw[l1];decide:¬ ((p.lay != -1)=true)),if_pos (by rw[l2];decide:r.layAt < 0)]
       have G:Grown p { p with known:=p.known++[((lo:Int),(hi:Int))],lay:=p.known.length }:=⟨rfl,.inl ⟨_,rfl,.inr rfl⟩⟩
       have M:=R.ix.grown G;have hpos:=List.length_pos_iff.2 R.ne;refine ⟨⟨R.s,R.typ,?_,R.unk,⟨M.lang,M.fmt,M.kind,M.cust,M.pfmt,M.pkind,M.play,M.pl,M.langs,M.lne,M.pos⟩,.inr ⟨?_,?_,((lo:Int),(hi:Int)),?_,?_⟩,R.hl,R.hk,R.base,R.dis,R.ext.grown G⟩,rfl⟩
       ·show r.ids++[sid]=mIds _;rw[R.ids];unfold mIds;rw[List.map_append,List.map_cons,List.map_nil,R.s,ht]
       ·show (p.known.length:Int)=(r.ids.length:Int);rw[R.ids];unfold mIds;rw[List.length_map]
       ·show (1:Int)≤(p.known.length:Int);omega
       ·show (p.known++[_])[(p.known.length:Int).toNat]? = _;rw[Int.toNat_natCast,List.getElem?_append_right (Nat.le_refl _),Nat.sub_self];rfl
       ·show sub p.s _ _=sid;rw[R.s];exact ht
      ·rw[if_pos (bne_iff_ne.2 (by omega):(p.lay != -1)=true),if_neg (by omega:¬ (r.layAt < 0))]
       have G:Grown p { p with known:=p.known.set p.lay.toNat ((lo:Int),(hi:Int)),unknown:=p.unknown++[p.known.getD p.lay.toNat (0,0)] }:=⟨rfl,.inr (.inl ⟨_,rfl,rfl,l2⟩)⟩
       have M:=R.ix.grown G;have hlt:=(List.getElem?_eq_some_iff.1 l3).1;refine ⟨⟨R.s,R.typ,?_,?_,⟨M.lang,M.fmt,M.kind,M.cust,M.pfmt,M.pkind,M.play,M.pl,M.langs,M.lne,M.pos⟩,.inr ⟨l1,l2,((lo:Int),(hi:Int)),?_,?_⟩,R.hl,R.hk,R.base,R.dis,R.ext.grown G⟩,rfl⟩
       ·show r.ids.set r.layAt.toNat sid=mIds _;rw[R.ids,← l1];unfold mIds;rw[List.map_set,R.s,ht]
       ·show r.unk++[r.lay1]=mUnk _;rw[R.unk];unfold mUnk;rw[List.map_append,List.map_cons,List.map_nil,List.getD_eq_getElem?_getD,l3,Option.getD_some,l4]
       ·show (p.known.set p.lay.toNat _)[p.lay.toNat]? = _;rw[List.getElem?_set_self hlt]
       ·show sub p.s _ _=sid;rw[R.s];exact ht
     ·rw[if_neg c5,if_neg (fun h=>c5 (q5.2 h):¬ (isLay comp=true∧¬ (sc=true∧k < 0)))]
      have G:Grown p { p with unknown:=p.unknown++[((lo:Int),(hi:Int))] }:=⟨rfl,.inr (.inr ⟨rfl,rfl⟩)⟩
      have M:=R.ix.grown G;refine ⟨⟨R.s,R.typ,R.ids,?_,⟨M.lang,M.fmt,M.kind,M.cust,M.pfmt,M.pkind,M.play,M.pl,M.langs,M.lne,M.pos⟩,R.lay,R.hl,R.hk,R.base,R.dis,R.ext.grown G⟩,rfl⟩;show r.unk++[sid]=mUnk _;rw[R.unk];unfold mUnk;rw[List.map_append,List.map_cons,List.map_nil,R.s,ht]
theorem Rel.first {p:PathV} (hs:p.s=T) (htyp:p.typ=if sc then 7 else 0) (hz:p = { pathZero with comp:=p.comp,s:=p.s,typ:=p.typ }) {lo hi:Nat} {sid:ByteArray} (hsid:T.extract lo hi=sid) (k:Int) :
 Rel st comp sc T (mFirst (envOf st) (isLay comp) p ((lo:Int),(hi:Int)) sid) (rFirst rZero sid k)∧(rFirst rZero sid k).marks=[k]:=by
 have ef:(envOf st).fmt sid ⟨#[]⟩=fmtNamed st sid:=fmtAsk_named st _;unfold mFirst;rw[ef];have e:∀ {α:Type} (f:PathV→α),f p=f { pathZero with comp:=p.comp,s:=p.s,typ:=p.typ }:=fun f=>congrArg f hz;have k1:p.known=[]:=e (·.known);refine ⟨⟨hs,htyp,?_,?_,⟨.inl ⟨e (·.lang),rfl⟩,.inl ⟨rfl,?_⟩,.inl ⟨e (·.kind),rfl⟩,.inl ⟨e (·.cust),rfl⟩,.inl ⟨e (·.pfmt),rfl⟩,.inl ⟨e (·.pkind),rfl⟩,.inl ⟨e (·.play),rfl⟩,?_,?_,(fun t ht=>by cases ht),⟨.inl (e (·.lang)),?_⟩⟩,.inl ⟨e (·.lay),rfl,rfl⟩,?_,?_,?_,e (·.dis),⟨Int.le_refl 0,?_,((lo:Int),(hi:Int)),?_,?_⟩⟩,rfl⟩
 ·show [sid]=(p.known++[_]).map _;rw[k1,hs];show _=[sub T (lo:Int) (hi:Int)];rw[sub_nat,hsid]
 ·show []=p.unknown.map _;rw[show p.unknown=[] from e (·.unknown)];rfl
 ·show (if (isLay comp && fmtNamed st sid)=true then (0:Int) else p.fmt)=if (isLay comp && fmtNamed st sid)=true then 0 else -1
  rw[show p.fmt = -1 from e (·.fmt)]
 ·show ∀ i∈p.plangs,_;rw[show p.plangs=[] from e (·.plangs)];intro i hi;cases hi
 ·show []=p.plangs.map _;rw[show p.plangs=[] from e (·.plangs)];rfl
 ·show ∀ i∈p.plangs,_;rw[show p.plangs=[] from e (·.plangs)];intro i hi;cases hi
 ·show false=(p.lang != -1);rw[show p.lang = -1 from e (·.lang)];rfl
 ·show false=(p.kind != -1);rw[show p.kind = -1 from e (·.kind)];rfl
 ·show false=(p.base != -1);rw[show p.base = -1 from e (·.base)];rfl
 ·show (0:Int)≠p.lay;rw[show p.lay = -1 from e (·.lay)];decide
 ·show (p.known++[_])[0]? = _;rw[k1];rfl
 ·show sub p.s _ _=sid;rw[hs,sub_nat];exact hsid
theorem mWord_isW {E:Env} {nd:Int} {last:Bool} {lo hi ld:Nat} {sid:ByteArray} (h1:idHigh p ld=hi) (h2:p.s.extract lo hi=sid) (hw:isWrap sid=true):mWord E p comp lo ld nd last=(mWrap E (isLay comp) p lo hi sid,true):=by
 unfold mWord;rw[h1];simp only[h2,hw,if_true]
theorem Rel.later (R:Rel st comp sc T p r) (SE:SiteE st) (hext:r.ext≠⟨#[]⟩) {lo ld:Nat} {sid:ByteArray} (hsid:T.extract lo ld=sid) (hld:ld≤T.size) (hok:isLay comp=true→okW (L sid)) (pts:Nat) (last:Bool) (k:Int) (hk:last=decide (k < 0)) :
 Rel st comp sc T (mWord (envOf st) p comp lo ld (pts:Int) last).1 (rLater st comp sc pts r sid k) ∧
 (rLater st comp sc pts r sid k).marks=if (mWord (envOf st) p comp lo ld (pts:Int) last).2=true then r.marks++[k] else r.marks:=by
 have hh:idHigh p ld=ld:=by unfold idHigh;rw[if_neg R.ne]
 have hs:p.s.extract lo ld=sid:=by rw[R.s];exact hsid
 by_cases hw:isWrapL (L sid)=true
 ·have e1:rLater st comp sc pts r sid k=rWrap st (isLay comp) r sid (innerB sid) k:=by unfold rLater;rw[if_pos hw]
  rw[mWord_isW hh hs (by rw[isWrap_L];exact hw),e1,if_pos rfl];exact R.wrap SE hsid hld hw hok k
 ·have e1:rLater st comp sc pts r sid k=rPlain st comp sc pts r sid k:=by unfold rLater;rw[if_neg hw]
  rw[mWord_plain hh hs (by rw[isWrap_L];simpa using hw) R.ne,e1];exact R.plain SE hext hsid pts last k hk
end
end Go.Proofs.YtjlaamcklhdhaaaGreatDoor.Path
namespace Go.Proofs.YtjlaamcklhdhaaaGreatDoor.Path
open Go.RowKit Go.Proofs.YtjlaamcklhdhaaaGreatDoorW.PrintWords Go.Proofs.YtjlaamcklhdhaaaGreatDoor.Base Go.Proofs.YtjlaamcklhdhaaaGreatDoor.Total Go.Proofs.YtjlaamcklhdhaaaGreatDoor.Lower
def rStep (st:SiteV) (comp:ByteArray) (sc:Bool) (pts:Nat) (name:ByteArray) (d:RV×Nat) (c:Nat):RV×Nat:=(rWord st comp sc pts d.1 (name.extract (c+1) d.2) (c:Int),c)
def rWords (st:SiteV) (comp:ByteArray) (sc:Bool) (name:ByteArray) (cuts:List Nat):RV :=
 if cuts=[] then rZero else
  let d:=cuts.reverse.foldl (rStep st comp sc cuts.length name) (rZero,name.size)
  rWord st comp sc cuts.length d.1 (name.extract 0 d.2) (-1)
theorem rEnd_app (m:List Int) (k N:Int):rEnd (m++[k]) N=if 0≤k∧k < rEnd m N then k else rEnd m N:=by
 unfold rEnd;rw[List.foldl_append];rfl
theorem wordsL_mid (n:List UInt8) (c e:Nat) (t:List Nat):∀ (a:List Nat) (o:Nat),(n.drop (c+1)).take (e - (c+1))∈wordsL n o (a++c::e::t)
 | [],o=>List.mem_cons_of_mem _ (List.mem_cons_self ..)
 | x::a,o=>List.mem_cons_of_mem _ (wordsL_mid n c e t a (x+1))
theorem sCuts_up {l pre n:List UInt8} (S:Split l pre n):(sCuts n).Pairwise (· < ·)∧∀ c∈sCuts n,c < n.length:=by
 rw[(mDots_cuts S).2];exact ⟨List.Pairwise.filter _ List.pairwise_lt_range,fun c hc=>List.mem_range.1 (List.mem_filter.1 hc).1⟩
theorem mWord_lay {E:Env} {p:PathV} {comp:ByteArray} {lo ld:Nat} {nd:Int} {last:Bool} (hl:p.lay = -1∨(1≤p.lay∧p.lay < p.known.length)) :
 ((mWord E p comp lo ld nd last).1.lay=p.lay∧∀ x,p.known[p.lay.toNat]? = some x→p.lay≠-1→(mWord E p comp lo ld nd last).1.known[p.lay.toNat]? = some x) ∨
 (mayLayout p comp last=true∧∃ h:Int,(mWord E p comp lo ld nd last).1.known[(mWord E p comp lo ld nd last).1.lay.toNat]? = some ((lo:Int),h)):=by
 have app:∀ (y:Int×Int) (x:Int×Int),p.known[p.lay.toNat]? = some x→p.lay≠-1→(p.known++[y])[p.lay.toNat]? = some x:=by
  intro y x hx _;rw[List.getElem?_append_left (List.getElem?_eq_some_iff.1 hx).1];exact hx
 unfold mWord;simp only[];split
 ·left;unfold mWrap;simp only[];split
  ·exact ⟨rfl,app _⟩
  ·split
   ·rename_i q hq
    have:q.lay=p.lay∧∃ y,q.known=p.known++[y]:=by
     unfold mApply at hq
     repeat' split at hq
     all_goals first | (cases hq;exact ⟨rfl,_,rfl⟩) | cases hq
    obtain ⟨e1,y,e2⟩:=this;rw[e1,e2];exact ⟨rfl,app y⟩
   ·exact ⟨rfl,app _⟩
 ·split
  ·exact .inl ⟨rfl,app _⟩
  ·unfold mPlain;split
   ·exact .inl ⟨rfl,app _⟩
   ·split
    ·exact .inl ⟨rfl,app _⟩
    ·split
     ·exact .inl ⟨rfl,app _⟩
     ·split
      ·exact .inl ⟨rfl,app _⟩
      ·split
       ·rename_i hm
        right;refine ⟨hm,?_⟩;split
        ·rename_i h
         have h1:p.lay≠-1:=bne_iff_ne.1 h;refine ⟨(idHigh p ld:Int),?_⟩;show (p.known.set p.lay.toNat _)[p.lay.toNat]? = _;rw[List.getElem?_set_self (by omega)]
        ·refine ⟨(idHigh p ld:Int),?_⟩;show (p.known++[_])[(p.known.length:Int).toNat]? = _;rw[Int.toNat_natCast,List.getElem?_append_right (Nat.le_refl _),Nat.sub_self];rfl
       ·exact .inl ⟨rfl,fun x hx _=>hx⟩
section
variable {st:SiteV} {comp T:ByteArray} {sc:Bool} {q:Nat} {pre n:List UInt8}
structure At (st:SiteV) (comp:ByteArray) (sc:Bool) (T:ByteArray) (q:Nat) (N:Nat) (e:Nat) (d:DoV) (r:RV×Nat):Prop where
 rel:Rel st comp sc T d.p r.1
 ld:d.ld=q+1+e
 re:r.2=e
 chi:d.p.cHigh = -1
 nEnd:d.p.nEnd=(q:Int)+1+rEnd r.1.marks N
 le:(e:Int)≤rEnd r.1.marks N
 lt:rEnd r.1.marks N < N
 low:∀ x,d.p.known[d.p.lay.toNat]? = some x→d.p.lay≠-1→(q:Int)+1 < x.1
 mem:∃ c∈sCuts ((L T).drop (q+1)),rEnd r.1.marks N=(c:Int)
 ext:r.1.ext≠⟨#[]⟩
theorem rFirst_ext (r:RV) (w:ByteArray) (k:Int):(rFirst r w k).ext=w:=rfl
theorem rLater_ext (r:RV) (pts:Nat) (w:ByteArray) (k:Int):(rLater st comp sc pts r w k).ext=r.ext:=by
 unfold rLater rWrap rPlain
 repeat' split
 all_goals rfl
theorem rLater_ids {r:RV} (h:r.ids≠[]) (pts:Nat) (w:ByteArray) (k:Int):(rLater st comp sc pts r w k).ids≠[]:=by
 have h1:∀ t:ByteArray,r.ids++[t]≠[]:=by intro t;simp
 have h2:∀ (i:Nat) (t:ByteArray),r.ids.set i t≠[]:=by intro i t;simpa using h
 unfold rLater rWrap rPlain
 repeat' split
 all_goals first | exact h1 _ | exact h2 _ _ | exact h
theorem Rel.idsNe {p:PathV} {r:RV} (R:Rel st comp sc T p r):r.ids≠[]:=by
 rw[R.ids];unfold mIds
 simpa using R.ne
theorem Rel.layPos {p:PathV} {r:RV} (R:Rel st comp sc T p r):p.lay = -1∨(1≤p.lay∧p.lay < p.known.length):=by
 rcases R.lay with ⟨h,_⟩ | ⟨_,h,x,hx,_⟩
 ·exact .inl h
 ·have:=(List.getElem?_eq_some_iff.1 hx).1;exact .inr ⟨h,by omega⟩
theorem word_text (S:Split (L T) pre n) (hq:pre.length=q+1) {name:ByteArray} (hn:L name=n) (a b:Nat):T.extract (q+1+a) (q+1+b)=name.extract a b:=by
 refine L_inj ?_;rw[L_extract,L_extract,hn,S.eq,← hq,List.drop_append,List.drop_of_length_le (by omega),List.nil_append];congr 1
 ·omega
 ·congr 1;omega
theorem At.start (S:Split (L T) pre n) (hq:pre.length=q+1) {name:ByteArray} (hn:L name=n) (K:WordsK (isLay comp) n) (pts:Nat) {c:Nat} (hc:(sCuts n).getLast? = some c) {p:PathV} (hp:p = { pathZero with comp:=comp,s:=T,typ:=if sc then 7 else 0 }) :
 At st comp sc T q n.length c (dStep (envOf st) comp (pts:Int) ⟨p,0,0⟩ (q+1+c)) (rStep st comp sc pts name (rZero,name.size) c):=by
 have hmem:c∈sCuts n:=List.mem_of_getLast? hc;obtain ⟨hup,hlt⟩:=sCuts_up S;have hcn:=hlt c hmem;have hsz:T.size=q+1+n.length:=by rw[← L_length,S.eq,List.length_append,hq]
 have hnz:name.size=n.length:=by rw[← L_length,hn]
 have hk:p.known=[]:=by rw[hp];rfl
 have hch:p.cHigh = -1:=by rw[hp];rfl
 have hs:p.s=T:=by rw[hp]
 have ht:p.typ=if sc then 7 else 0:=by rw[hp]
 have hih:idHigh p 0=T.size:=by unfold idHigh;rw[if_pos hk,hs]
 have hword:T.extract (q+1+c+1) T.size=name.extract (c+1) name.size:=by
  rw[hsz,hnz,Nat.add_assoc];exact word_text S hq hn (c+1) n.length
 have hLw:L (name.extract (c+1) name.size)=n.drop (c+1):=by
  rw[L_extract,hn,hnz];exact List.take_of_length_le (by rw[List.length_drop];omega)
 have hw:isWrap (name.extract (c+1) name.size)=false:=by rw[isWrap_L,hLw];exact (K.last c hc).1
 have hd:dStep (envOf st) comp (pts:Int) ⟨p,0,0⟩ (q+1+c)=⟨{ mFirst (envOf st) (isLay comp) p (((q+1+c+1:Nat):Int),(T.size:Int)) (name.extract (c+1) name.size) with nEnd:=((q+1+c:Nat):Int) },0,q+1+c⟩:=by
  unfold dStep;rw[mId_eq hch];unfold mWord;simp only[];rw[hih,hs,hword,hw];simp only[Bool.false_eq_true,if_false];rw[if_pos hk];rfl
 obtain ⟨R,hm⟩:=Rel.first (st:=st) (comp:=comp) (sc:=sc) (T:=T) hs ht (by rw[hp]) (lo:=q+1+c+1) (hi:=T.size) hword (c:Int)
 have hr:rStep st comp sc pts name (rZero,name.size) c=(rFirst rZero (name.extract (c+1) name.size) (c:Int),c):=rfl
 have hre:rEnd (rFirst rZero (name.extract (c+1) name.size) (c:Int)).marks (n.length:Int)=(c:Int):=by
  rw[hm];show (if 0≤(c:Int)∧(c:Int) < (n.length:Int) then (c:Int) else (n.length:Int))=_;rw[if_pos (by omega)]
 rw[hd,hr];refine ⟨⟨R.s,R.typ,R.ids,R.unk,⟨R.ix.lang,R.ix.fmt,R.ix.kind,R.ix.cust,R.ix.pfmt,R.ix.pkind,R.ix.play,R.ix.pl,R.ix.langs,R.ix.lne,R.ix.pos⟩,R.lay,R.hl,R.hk,R.base,R.dis,R.ext⟩,rfl,rfl,hch,?_,?_,?_,?_,⟨c,?_,hre⟩,?_⟩
 ·show ((q+1+c:Nat):Int)=_;rw[hre];omega
 ·rw[hre];omega
 ·rw[hre];omega
 ·intro x _ hl;refine absurd ?_ hl;show p.lay = -1;rw[hp];rfl
 ·rw[← hq,S.eq,List.drop_left];exact hmem
 ·rw[rFirst_ext];intro h;have h2:=(K.last c hc).2;have h3:=congrArg ByteArray.size h;rw[← L_length,hLw,List.length_drop] at h3;have h0:(⟨#[]⟩:ByteArray).size=0:=rfl;omega
theorem At.step (S:Split (L T) pre n) (hq:pre.length=q+1) {name:ByteArray} (hn:L name=n) (K:WordsK (isLay comp) n) (SE:SiteE st) (pts:Nat) {d:DoV} {r:RV×Nat} {c e:Nat} (A:At st comp sc T q n.length e d r) (hc:c∈sCuts n) (hce:c < e) (hen:e < n.length) (hok:isLay comp=true→okW ((n.drop (c+1)).take (e - (c+1)))) :
 At st comp sc T q n.length c (dStep (envOf st) comp (pts:Int) d (q+1+c)) (rStep st comp sc pts name r c):=by
 have hsz:T.size=q+1+n.length:=by rw[← L_length,S.eq,List.length_append,hq]
 have hword:T.extract (q+1+c+1) d.ld=name.extract (c+1) r.2:=by
  rw[A.ld,A.re,Nat.add_assoc];exact word_text S hq hn (c+1) e
 have hLw:L (name.extract (c+1) r.2)=(n.drop (c+1)).take (e - (c+1)):=by rw[L_extract,hn,A.re]
 obtain ⟨R,hm⟩:=A.rel.later SE A.ext (lo:=q+1+c+1) (ld:=d.ld) hword (by rw[A.ld,hsz];omega) (fun h=>by rw[hLw];exact hok h) pts false (c:Int) (by rw[decide_eq_false (by omega)])
 have hr:rStep st comp sc pts name r c=(rLater st comp sc pts r.1 (name.extract (c+1) r.2) (c:Int),c):=by
  unfold rStep rWord;rw[if_neg A.rel.idsNe]
 have hlay:=mWord_lay (E:=envOf st) (p:=d.p) (comp:=comp) (lo:=q+1+c+1) (ld:=d.ld) (nd:=(pts:Int)) (last:=false) A.rel.layPos;have hkeep:=mWord_keeps (envOf st) d.p comp (q+1+c+1) d.ld (pts:Int) false
 obtain ⟨M,hM⟩:∃ M,mWord (envOf st) d.p comp (q+1+c+1) d.ld (pts:Int) false=M:=⟨_,rfl⟩
 have hne:M.1.nEnd=d.p.nEnd:=by
  rw[← hM];have:=(mWord_grow (E:=envOf st) (p:=d.p) (comp:=comp) (i:=q+1+c+1) (ld:=d.ld) (nd:=(pts:Int)) (last:=false) (N:=T.size) (by unfold idHigh;rw[if_neg A.rel.ne,A.ld];omega) (by unfold idHigh;rw[if_neg A.rel.ne,A.ld,hsz];omega) (by rw[A.rel.s])).2.1;exact this
 obtain ⟨r',hr'⟩:∃ r',rLater st comp sc pts r.1 (name.extract (c+1) r.2) (c:Int)=r':=⟨_,rfl⟩
 have hext:r'.ext≠⟨#[]⟩:=by rw[← hr',rLater_ext];exact A.ext
 rw[hM] at R hm hlay hkeep;rw[hr'] at R hm hr
 have hd:dStep (envOf st) comp (pts:Int) d (q+1+c) = { d with p:={ M.1 with nEnd:=if M.2=true then ((q+1+c:Nat):Int) else d.p.nEnd },ld:=q+1+c }:=by
  unfold dStep;rw[mId_eq A.chi,hM];unfold mNameEnd
  by_cases h:M.2=true
  ·rw[if_pos h,if_pos h];rfl
  ·rw[if_neg h,if_neg h,← hne]
 have hre:rEnd r'.marks (n.length:Int)=if M.2=true then (c:Int) else rEnd r.1.marks (n.length:Int):=by
  rw[hm]
  by_cases h:M.2=true
  ·rw[if_pos h,if_pos h,rEnd_app,if_pos ⟨by omega,by have:=A.le;omega⟩]
  ·rw[if_neg h,if_neg h]
 rw[hd,hr];refine ⟨⟨R.s,R.typ,R.ids,R.unk,⟨R.ix.lang,R.ix.fmt,R.ix.kind,R.ix.cust,R.ix.pfmt,R.ix.pkind,R.ix.play,R.ix.pl,R.ix.langs,R.ix.lne,R.ix.pos⟩,R.lay,R.hl,R.hk,R.base,R.dis,R.ext⟩,rfl,rfl,hkeep.cHigh.trans A.chi,?_,?_,?_,?_,?_,hext⟩
 ·show (if M.2=true then ((q+1+c:Nat):Int) else d.p.nEnd)=_;rw[hre];split
  ·omega
  ·exact A.nEnd
 ·rw[hre];split
  ·exact Int.le_refl _
  ·have:=A.le;omega
 ·rw[hre];split
  ·omega
  ·exact A.lt
 ·show ∀ x,M.1.known[M.1.lay.toNat]? = some x→M.1.lay≠-1→_;intro x hx hl;rcases hlay with ⟨e1,e2⟩ | ⟨_,h,e2⟩
  ·rw[e1] at hx hl;rcases A.rel.layPos with h0 | h0
   ·exact absurd h0 hl
   ·have hlt:d.p.lay.toNat < d.p.known.length:=by omega
    have:=e2 _ (List.getElem?_eq_getElem hlt) hl;rw[hx] at this;injection this with this
    rw[this];exact A.low _ (List.getElem?_eq_getElem hlt) hl
  ·rw[hx] at e2;injection e2 with e2
   rw[e2];show (q:Int)+1 < ((q+1+c+1:Nat):Int);omega
 ·show ∃ c∈sCuts ((L T).drop (q+1)),rEnd r'.marks (n.length:Int)=(c:Int);rw[hre];split
  ·exact ⟨c,by rw[← hq,S.eq,List.drop_left];exact hc,rfl⟩
  ·exact A.mem
theorem At.steps (S:Split (L T) pre n) (hq:pre.length=q+1) {name:ByteArray} (hn:L name=n) (K:WordsK (isLay comp) n) (SE:SiteE st) (pts:Nat):∀ (todo:List Nat) (e:Nat) (tail:List Nat) (d:DoV) (r:RV×Nat),sCuts n=todo.reverse++e::tail→At st comp sc T q n.length e d r →
 ∃ e',(sCuts n).head? = some e'∧At st comp sc T q n.length e' ((todo.map (q+1 + ·)).foldl (dStep (envOf st) comp (pts:Int)) d) (todo.foldl (rStep st comp sc pts name) r)
 | [],e,tail,d,r,h,A=>⟨e,by rw[h];rfl,A⟩
 | c::todo,e,tail,d,r,h,A=>by
  obtain ⟨hup,hlt⟩:=sCuts_up S;have h' : sCuts n=todo.reverse++c::e::tail:=by rw[h];simp
  have hce:c < e:=by
   rw[h',List.pairwise_append] at hup;exact (List.pairwise_cons.1 hup.2.1).1 e (by simp)
  have hne:sCuts n≠[]:=by rw[h'];simp
  have hstep:=A.step S hq hn K SE pts (c:=c) (by rw[h'];simp) hce (hlt e (by rw[h'];simp)) (fun hl=>K.words hl hne _ (by rw[h'];exact wordsL_mid n c e tail _ 0));exact At.steps S hq hn K SE pts todo c (e::tail) _ _ h' hstep
theorem words_rel (S:Split (L T) pre n) (hq:pre.length=q+1) {name:ByteArray} (hn:L name=n) (K:WordsK (isLay comp) n) (SE:SiteE st) {p:PathV} (hp:p = { pathZero with comp:=comp,s:=T,typ:=if sc then 7 else 0 }) (hne:sCuts n≠[]) :
 Rel st comp sc T (wordsP (envOf st) comp p q n) (rWords st comp sc name (sCuts n))∧(wordsP (envOf st) comp p q n).nEnd=(q:Int)+1+rEnd (rWords st comp sc name (sCuts n)).marks n.length ∧
 (∃ c∈sCuts n,rEnd (rWords st comp sc name (sCuts n)).marks n.length=(c:Int))∧(rWords st comp sc name (sCuts n)).ext≠⟨#[]⟩ ∧
 (sc=true→∀ x,(wordsP (envOf st) comp p q n).known[(wordsP (envOf st) comp p q n).lay.toNat]? = some x→(wordsP (envOf st) comp p q n).lay≠-1→(q:Int)+1 < x.1):=by
 obtain ⟨c0,hc0⟩:∃ c,(sCuts n).getLast? = some c:=by
  cases h:(sCuts n).getLast? with
  | none=>exact absurd (List.getLast?_eq_none_iff.1 h) hne
  | some c=>exact ⟨c,rfl⟩
 obtain ⟨front,hfront⟩:=List.getLast?_eq_some_iff.1 hc0;have hrev:(sCuts n).reverse=c0::front.reverse:=by rw[hfront];simp
 have A0:=At.start (st:=st) (sc:=sc) S hq hn K (sCuts n).length hc0 hp;obtain ⟨e,he,A⟩:=At.steps S hq hn K SE (sCuts n).length front.reverse c0 [] _ _ (by rw[List.reverse_reverse];exact hfront) A0
 have e1:wordsD (envOf st) comp p (q+1) n=(front.reverse.map (q+1 + ·)).foldl (dStep (envOf st) comp ((sCuts n).length:Int)) (dStep (envOf st) comp ((sCuts n).length:Int) ⟨p,0,0⟩ (q+1+c0)):=by
  unfold wordsD;rw[hrev];rfl
 have e2:rWords st comp sc name (sCuts n)=rWord st comp sc (sCuts n).length (front.reverse.foldl (rStep st comp sc (sCuts n).length name) (rStep st comp sc (sCuts n).length name (rZero,name.size) c0)).1 (name.extract 0 (front.reverse.foldl (rStep st comp sc (sCuts n).length name) (rStep st comp sc (sCuts n).length name (rZero,name.size) c0)).2) (-1):=by
  unfold rWords;rw[if_neg hne,hrev];rfl
 obtain ⟨d,hd⟩:∃ d,wordsD (envOf st) comp p (q+1) n=d:=⟨_,rfl⟩
 rw[← e1,hd] at A
 obtain ⟨r,hr⟩:∃ r,front.reverse.foldl (rStep st comp sc (sCuts n).length name) (rStep st comp sc (sCuts n).length name (rZero,name.size) c0)=r:=⟨_,rfl⟩
 rw[hr] at A e2;have hsz:T.size=q+1+n.length:=by rw[← L_length,S.eq,List.length_append,hq]
 have hen:e < n.length:=(sCuts_up S).2 e (List.mem_of_head? he)
 have hword:T.extract (q+1) d.ld=name.extract 0 r.2:=by
  rw[A.ld,A.re];exact word_text S hq hn 0 e
 have hLw:L (name.extract 0 r.2)=(n.drop 0).take (e - 0):=by rw[L_extract,hn,A.re]
 have hokw:isLay comp=true→okW (L (name.extract 0 r.2)):=by
  intro hl;rw[hLw];refine K.words hl hne _ ?_
  cases hs:sCuts n with
  | nil=>exact absurd hs hne
  | cons a t =>
   rw[hs] at he;injection he with he
   rw[he];exact List.mem_cons_self ..
 obtain ⟨R,hm⟩:=A.rel.later SE A.ext (lo:=q+1) (ld:=d.ld) hword (by rw[A.ld,hsz];omega) hokw (sCuts n).length true (-1) (by decide);have hlay:=mWord_lay (E:=envOf st) (p:=d.p) (comp:=comp) (lo:=q+1) (ld:=d.ld) (nd:=((sCuts n).length:Int)) (last:=true) A.rel.layPos
 obtain ⟨M,hM⟩:∃ M,mWord (envOf st) d.p comp (q+1) d.ld ((sCuts n).length:Int) true=M:=⟨_,rfl⟩
 have hnE:M.1.nEnd=d.p.nEnd:=by
  rw[← hM];exact (mWord_grow (E:=envOf st) (p:=d.p) (comp:=comp) (i:=q+1) (ld:=d.ld) (nd:=((sCuts n).length:Int)) (last:=true) (N:=T.size) (by unfold idHigh;rw[if_neg A.rel.ne,A.ld];omega) (by unfold idHigh;rw[if_neg A.rel.ne,A.ld,hsz];omega) (by rw[A.rel.s])).2.1
 have e3:rWords st comp sc name (sCuts n)=rLater st comp sc (sCuts n).length r.1 (name.extract 0 r.2) (-1):=by
  rw[e2];unfold rWord;rw[if_neg A.rel.idsNe]
 rw[← e3] at R hm;have hx:(rWords st comp sc name (sCuts n)).ext≠⟨#[]⟩:=by rw[e3,rLater_ext];exact A.ext
 obtain ⟨r',hr'⟩:∃ r',rWords st comp sc name (sCuts n)=r':=⟨_,rfl⟩
 rw[hr'] at R hm hx ⊢;rw[hM] at R hm hlay;have hpos:¬ (M.1.nEnd≤0):=by rw[hnE,A.nEnd];have:=A.le;omega
 have e4:wordsP (envOf st) comp p q n=M.1:=by
  unfold wordsP;rw[hd,if_pos (by rw[A.ld];omega),mId_eq A.chi,hM];unfold mNameEnd
  by_cases h:M.2=true
  ·rw[if_pos h,if_pos rfl,if_neg hpos]
  ·rw[if_neg h]
 have hre:rEnd r'.marks (n.length:Int)=rEnd r.1.marks (n.length:Int):=by
  rw[hm]
  by_cases h:M.2=true
  ·rw[if_pos h,rEnd_app,if_neg (by omega)]
  ·rw[if_neg h]
 rw[e4,hre];refine ⟨R,hnE.trans A.nEnd,?_,hx,?_⟩
 ·have:=A.mem;rw[← hq,S.eq,List.drop_left] at this;exact this
 ·intro hsc x hx hl;rcases hlay with ⟨e1,e2⟩ | ⟨hmay,h,e2⟩
  ·rw[e1] at hx hl;rcases A.rel.layPos with h0 | h0
   ·exact absurd h0 hl
   ·have hlt:d.p.lay.toNat < d.p.known.length:=by omega
    have:=e2 _ (List.getElem?_eq_getElem hlt) hl;rw[hx] at this;injection this with this
    rw[this];exact A.low _ (List.getElem?_eq_getElem hlt) hl
  ·exfalso;unfold mayLayout at hmay;rw[A.rel.typ,hsc] at hmay
   simp at hmay
end
end Go.Proofs.YtjlaamcklhdhaaaGreatDoor.Path
namespace Go.Proofs.YtjlaamcklhdhaaaGreatDoor.Path
open Go.RowKit Go.Proofs.YtjlaamcklhdhaaaGreatDoorW.PrintWords Go.Proofs.YtjlaamcklhdhaaaGreatDoor.Base Go.Proofs.YtjlaamcklhdhaaaGreatDoor.Total Go.Proofs.YtjlaamcklhdhaaaGreatDoor.Lower
structure WV where
 comp:ByteArray
 path:ByteArray
 name:ByteArray
 nEnd:Nat
 ids:List ByteArray
 unk:List ByteArray
 langs:List ByteArray
 ext:ByteArray
 fmt:ByteArray
 kind:ByteArray
 lay:ByteArray
 lang:ByteArray
 cust:ByteArray
 dis:Bool
 typ:Int
def chooseB (a b:ByteArray):ByteArray:=if a=⟨#[]⟩ then b else a
def rType (st:SiteV) (comp:ByteArray) (path nm:List UInt8) (pointed:Bool) (ext:ByteArray) (baseof:Bool):Int :=
 if (pointed=true∧(isCon comp || isArch comp)=true∧listed st.cont ext=true)∧nm≠[] then
  if nm=tIndex then 3 else if nm=tUIndex then 4 else 2
 else if (pointed=true∧nm=tContent∧L ext=tGotmpl)∧isLay comp=false then 5
 else if (pointed=true∧nm=tContent∧L ext=tGotmpl)∧baseof=true then 9
 else if hasSub path tShort=true then 7
 else if isLay comp=true∧baseof=true then 9
 else if isLay comp=true∧hasSub path tMarkup=true then 6
 else if isLay comp=true∧tPartials.isPrefixOf path=true then 8
 else if pointed=true∧nm=tContent∧L ext=tGotmpl then 5
 else 0
def lastB (path:ByteArray):ByteArray:=⟨((L path).drop (behind (L path))).toArray⟩
def slB (l:List UInt8):Nat→Option Nat
 | 0=>none
 | i+1=>if l[i]? = some 47 then some i else slB l i
def sDir (path:ByteArray):ByteArray :=
 match slB (L path) path.size with
 | some (a+1)=>path.extract 0 (a+1)
 | _=>⟨#[47]⟩
def sCont (path:ByteArray):ByteArray :=
 match slB (L path) path.size with
 | some (a+1)=>lastB (path.extract 0 (a+1))
 | _=>⟨#[]⟩
def cnt47 (l:List UInt8):Nat:=(l.filter fun c=>c==47).length
def sSec (path:ByteArray) (typ:Int):ByteArray :=
 if cnt47 ((L path).drop 1)=0∨(cnt47 ((L path).drop 1)=1∧typ=3) then ⟨#[]⟩ else ⟨(((L path).drop 1).takeWhile fun c=>c != 47).toArray⟩
def isBun (t:Int):Bool:=decide (3≤t∧t≤5)
def wHead (w:WV):ByteArray:=w.path.extract 0 (w.path.size - w.name.size)
def wNoId (w:WV):ByteArray:=if w.ids=[] then w.path else wHead w++w.name.extract 0 w.nEnd
def wBase (w:WV):ByteArray :=
 if w.ids=[] then (if w.path=⟨#[47]⟩∧2≤w.typ∧w.typ≤5 then ⟨#[]⟩ else w.path)
 else if isBun w.typ=true then (if sDir w.path=⟨#[47]⟩ then ⟨#[]⟩ else sDir w.path)
 else if w.typ=2 then wNoId w
 else if w.ids.length=1 then w.path
 else wNoId w++⟨#[46]⟩++w.ext
def wNoLang (w:WV):ByteArray:=if w.lang=⟨#[]⟩ then w.path else wHead w++w.name.extract 0 w.nEnd++⟨#[46]⟩++w.ext
def wBefore (w:WV) (s:ByteArray):ByteArray:=if w.ids=[] then s else s.extract 0 (s.size - w.ext.size - 1)
theorem sorts_typ {st:SiteV} {comp T:ByteArray} {d:DoV} {r:RV} {nm:List UInt8} (hs:d.p.s=T) (ht:d.p.trim=false) (hc:d.p.comp=comp) (htyp:d.p.typ=if hasSub (L T) tShort then 7 else 0)
 (hids:r.ids=[]↔d.p.known=[]) (hext:d.p.known≠[]→mIdStr d.p 0=r.ext) (hbase:r.baseof=(d.p.base != -1)) (hb0:d.p.known=[]→d.p.base = -1)
 (hnm:L (sub (mNamed d.p).s (mNamed d.p).nLow (mNamed d.p).nHigh)=nm) (hlt:(mNamed d.p).nLow < (mNamed d.p).nHigh↔nm≠[])
 (hstrike:hasSub (L T) tShort=true→d.p.lay≠-1→(d.p.known.getD d.p.lay.toNat (0,0)).1≠d.p.cHigh) :
 mEnd (envOf st) comp d = { mNamed d.p with typ:=rType st comp (L T) nm (!r.ids.isEmpty) r.ext r.baseof,sec:=if rType st comp (L T) nm (!r.ids.isEmpty) r.ext r.baseof=3∧d.sc=2 then 0 else d.p.sec }:=by
 have ecl:isLay comp=true→isCon comp=false∧isArch comp=false:=by
  intro h;unfold isLay at h;have h:=beq_iff_eq.1 h;unfold isCon isArch;rw[h];exact ⟨by decide,by decide⟩
 have hn7:∀ x:PathV,x.trim=false→x.s=T→(nrm x.trim x.s).data.toList=L T:=by
  intro x h1 h2;rw[h1,h2];rfl
 -- the third sort never strikes
 have s3:∀ x:PathV,x.lay=d.p.lay→x.known=d.p.known→x.cHigh=d.p.cHigh→(x.typ=7→hasSub (L T) tShort=true)→mSort3 x=x:=by
  intro x h1 h2 h3 h4;unfold mSort3;rw[if_neg];rintro ⟨c1,c2,c3⟩;rw[h1,h2,h3] at *;exact hstrike (h4 c1) c2 c3
 obtain ⟨sh,hsh⟩:∃ x,hasSub (L T) tShort=x:=⟨_,rfl⟩
 have P0:(mNamed d.p).typ=if sh then 7 else 0:=by rw[← hsh];exact htyp
 have Pid:mIdStr (mNamed d.p) 0=mIdStr d.p 0:=rfl;have Pk:(mNamed d.p).known=d.p.known:=rfl;have Pc:(mNamed d.p).comp=comp:=hc
 -- the second sort
 have s2:∀ x:PathV,x.trim=false→x.s=T→x.base=d.p.base→x.typ < 6∨x.typ=7 →
  mSort2 comp x = { x with typ:=if x.typ < 6∧isLay comp=true then (if r.baseof=true then 9 else if sh=true then 7 else if hasSub (L T) tMarkup=true then 6 else if tPartials.isPrefixOf (L T)=true then 8 else x.typ) else x.typ }:=by
  intro x h1 h2 h3 h4;have hb' : r.baseof=(x.base != -1):=by rw[h3];exact hbase
  unfold mSort2;rw[hn7 x h1 h2,hsh,hb']
  by_cases c1:x.typ < 6∧isLay comp=true
  ·rw[if_pos c1,if_pos c1]
   by_cases c2:x.base = -1
   ·have e1:¬ (x.base≠-1):=fun h=>h c2;have e2:¬ ((x.base != -1)=true):=by rw[c2];decide
    rw[if_neg e1,if_neg e2]
    cases sh with
    | true=>rfl
    | false =>
     cases hasSub (L T) tMarkup with
     | true=>rfl
     | false =>
      cases tPartials.isPrefixOf (L T) with
      | true=>rfl
      | false=>rfl
   ·have e2:(x.base != -1)=true:=bne_iff_ne.2 c2;rw[if_pos c2,if_pos e2]
  ·rw[if_neg c1,if_neg c1]
 have fin:∀ (x:PathV) (R:Int),mSort1 (envOf st) d.sc (mNamed d.p)=x→x.trim=false→x.s=T→x.base=d.p.base→x.lay=d.p.lay→x.known=d.p.known→x.cHigh=d.p.cHigh→(x.typ < 6∨x.typ=7) →
  (if x.typ < 6∧isLay comp=true then (if r.baseof=true then (9:Int) else if sh=true then 7 else if hasSub (L T) tMarkup=true then 6 else if tPartials.isPrefixOf (L T)=true then 8 else x.typ) else x.typ)=R→(R=7→hasSub (L T) tShort=true)→mEnd (envOf st) comp d = { x with typ:=R }:=by
  intro x R h1 h2 h3 h4 h5 h6 h7 h8 h9 h10;unfold mEnd;rw[h1,s2 x h2 h3 h4 h8,h9];exact s3 { x with typ:=R } h5 h6 h7 h10
 by_cases hk:d.p.known=[]
 ·
  have hi:r.ids=[]:=hids.2 hk;have s1:mSort1 (envOf st) d.sc (mNamed d.p)=mNamed d.p:=by unfold mSort1;rw[if_pos (show (mNamed d.p).known=[] from hk)]
  have hb:r.baseof=false:=by rw[hbase,hb0 hk];rfl
  have hR:rType st comp (L T) nm (!r.ids.isEmpty) r.ext r.baseof=if sh=true then 7 else if isLay comp=true∧hasSub (L T) tMarkup=true then 6 else if isLay comp=true∧tPartials.isPrefixOf (L T)=true then 8 else 0:=by
   unfold rType;rw[hi,hb,hsh]
   simp
  obtain ⟨R,hRR⟩:∃ R,rType st comp (L T) nm (!r.ids.isEmpty) r.ext r.baseof=R:=⟨_,rfl⟩
  rw[hRR] at hR ⊢
  have h3:¬ (R=3∧d.sc=2):=by
   rintro ⟨h,_⟩;rw[hR] at h
   revert h
   cases sh <;> cases isLay comp <;> cases hasSub (L T) tMarkup <;> cases tPartials.isPrefixOf (L T) <;> decide
  rw[if_neg h3];refine fin (mNamed d.p) R s1 ht hs rfl rfl rfl rfl (by rw[P0];cases sh <;> decide) ?_ ?_
  ·rw[P0,hb,hR];cases sh <;> cases isLay comp <;> cases hasSub (L T) tMarkup <;> cases tPartials.isPrefixOf (L T) <;> rfl
  ·intro h;rw[hR] at h;rw[hsh]
   revert h
   cases sh <;> cases isLay comp <;> cases hasSub (L T) tMarkup <;> cases tPartials.isPrefixOf (L T) <;> decide
 ·have hi:(!r.ids.isEmpty)=true:=by
   cases h:r.ids with
   | nil=>exact absurd (hids.1 h) hk
   | cons a l=>rfl
  rw[hi];have hex:=hext hk
  have hisc:((isCon (mNamed d.p).comp || isArch (mNamed d.p).comp) && (envOf st).cont (mIdStr (mNamed d.p) 0))=((isCon comp || isArch comp) && listed st.cont r.ext):=by
   rw[Pc,Pid,hex];rfl
  have hext0:(mIdStr (mNamed d.p) 0).toList=L r.ext:=by rw[Pid,hex,L_toList]
  have hnm2:(sub (mNamed d.p).s (mNamed d.p).nLow (mNamed d.p).nHigh).toList=nm:=by rw[L_toList];exact hnm
  obtain ⟨R,hRR⟩:∃ R,rType st comp (L T) nm true r.ext r.baseof=R:=⟨_,rfl⟩
  rw[hRR]
  by_cases c1:((isCon comp || isArch comp)=true∧listed st.cont r.ext=true)∧nm≠[]
  ·
   have hl:isLay comp=false:=by
    cases h:isLay comp with
    | false=>rfl
    | true =>
     obtain ⟨h1,h2⟩:=ecl h;rw[h1,h2] at c1;exact absurd c1.1.1 (by decide)
   have hR:R=if nm=tIndex then 3 else if nm=tUIndex then 4 else 2:=by
    rw[← hRR];unfold rType;rw[if_pos (show (true=true∧(isCon comp || isArch comp)=true∧listed st.cont r.ext=true)∧nm≠[] from ⟨⟨rfl,c1.1.1,c1.1.2⟩,c1.2⟩)]
   have hc9:((isCon comp || isArch comp) && listed st.cont r.ext)=true:=by rw[c1.1.1,c1.1.2];rfl
   have s1:mSort1 (envOf st) d.sc (mNamed d.p) = { mNamed d.p with typ:=R,sec:=if R=3∧d.sc=2 then 0 else d.p.sec }:=by
    unfold mSort1;rw[if_neg (show ¬ ((mNamed d.p).known=[]) from hk)];simp only[hisc,hnm2,hc9,if_pos (hlt.2 c1.2),if_true]
    by_cases d1:nm=tIndex
    ·rw[if_pos d1] at hR;subst hR;rw[if_pos d1]
     by_cases d2:d.sc=2
     ·rw[if_pos d2,if_pos (show (3:Int)=3∧d.sc=2 from ⟨rfl,d2⟩)]
     ·rw[if_neg d2,if_neg (fun h=>d2 h.2:¬ ((3:Int)=3∧d.sc=2))];rfl
    ·rw[if_neg d1] at hR;rw[if_neg d1]
     by_cases d2:nm=tUIndex
     ·rw[if_pos d2] at hR;subst hR;rw[if_pos d2,if_neg (by rintro ⟨h,_⟩;omega:¬ ((4:Int)=3∧d.sc=2))];rfl
     ·rw[if_neg d2] at hR;subst hR;rw[if_neg d2,if_neg (by rintro ⟨h,_⟩;omega:¬ ((2:Int)=3∧d.sc=2))];rfl
   have hty:R < 6:=by
    rw[hR];split
    ·decide
    ·split <;> decide
   exact fin _ R s1 ht hs rfl rfl rfl rfl (.inl hty) (by rw[hl];show (if R < 6∧false=true then _ else R)=R;rw[if_neg (by simp)]) (by intro h;exfalso;omega)
  ·have hnot:¬ ((true=true∧(isCon comp || isArch comp)=true∧listed st.cont r.ext=true)∧nm≠[]):=fun h=>c1 ⟨⟨h.1.2.1,h.1.2.2⟩,h.2⟩
   obtain ⟨dt,hdt⟩:∃ b:Bool,decide (nm=tContent∧L r.ext=tGotmpl)=b:=⟨_,rfl⟩
   have s1:mSort1 (envOf st) d.sc (mNamed d.p) = { mNamed d.p with typ:=if dt=true then 5 else (mNamed d.p).typ }:=by
    unfold mSort1;rw[if_neg (show ¬ ((mNamed d.p).known=[]) from hk)];simp only[hisc,hnm2,hext0]
    by_cases c2:nm=[]
    ·have hd:dt=false:=by rw[← hdt];exact decide_eq_false (by rintro ⟨h,_⟩;rw[c2] at h;cases h)
     rw[if_neg (fun h=>(hlt.1 h) c2),hd];rfl
    ·have hc9:¬ (((isCon comp || isArch comp) && listed st.cont r.ext)=true):=by intro h;rw[Bool.and_eq_true] at h;exact c1 ⟨h,c2⟩
     rw[if_pos (hlt.2 c2),if_neg hc9]
     cases dt with
     | true=>rw[if_pos (of_decide_eq_true hdt)];rfl
     | false=>rw[if_neg (of_decide_eq_false hdt)];rfl
   have hR:R=if isLay comp=true then (if dt=true∧r.baseof=true then 9 else if sh=true then 7 else if r.baseof=true then 9 else if hasSub (L T) tMarkup=true then 6 else if tPartials.isPrefixOf (L T)=true then 8 else if dt=true then 5 else 0) else if dt=true then 5 else if sh=true then 7 else 0:=by
    rw[← hRR];unfold rType;rw[if_neg hnot,hsh]
    cases dt with
    | true =>
     have h:=of_decide_eq_true hdt;simp only[h.1,h.2,true_and,and_true,and_self,if_true];cases isLay comp <;> cases r.baseof <;> cases sh <;> simp
    | false =>
     have h:¬ (true=true∧nm=tContent∧L r.ext=tGotmpl):=fun h=>of_decide_eq_false hdt h.2;rw[if_neg (fun g=>h g.1),if_neg (fun g=>h g.1),if_neg h];cases isLay comp <;> cases r.baseof <;> cases sh <;> simp
   have h3:¬ (R=3∧d.sc=2):=by
    rintro ⟨h,_⟩;rw[hR] at h
    revert h
    cases dt <;> cases r.baseof <;> cases sh <;> cases isLay comp <;> cases hasSub (L T) tMarkup <;> cases tPartials.isPrefixOf (L T) <;> decide
   rw[if_neg h3];refine fin { mNamed d.p with typ:=if dt=true then 5 else (mNamed d.p).typ } R s1 ht hs rfl rfl rfl rfl ?_ ?_ ?_
   ·show (if dt=true then (5:Int) else (mNamed d.p).typ) < 6∨(if dt=true then (5:Int) else (mNamed d.p).typ)=7;rw[P0];cases dt <;> cases sh <;> decide
   ·show (if (if dt=true then (5:Int) else (mNamed d.p).typ) < 6∧isLay comp=true then (if r.baseof=true then (9:Int) else if sh=true then 7 else if hasSub (L T) tMarkup=true then 6 else if tPartials.isPrefixOf (L T)=true then 8 else (if dt=true then (5:Int) else (mNamed d.p).typ)) else (if dt=true then (5:Int) else (mNamed d.p).typ))=R;rw[P0,hR];cases dt <;> cases r.baseof <;> cases sh <;> cases isLay comp <;> cases hasSub (L T) tMarkup <;> cases tPartials.isPrefixOf (L T) <;> rfl
   ·intro h;rw[hR] at h;rw[hsh]
    revert h
    cases dt <;> cases r.baseof <;> cases sh <;> cases isLay comp <;> cases hasSub (L T) tMarkup <;> cases tPartials.isPrefixOf (L T) <;> decide
end Go.Proofs.YtjlaamcklhdhaaaGreatDoor.Path
