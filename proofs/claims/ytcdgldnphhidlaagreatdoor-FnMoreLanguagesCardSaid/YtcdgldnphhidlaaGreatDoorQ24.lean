/- Texts that the law leans on: Langs. Condition: as told at each. -/
import Derived.Test.YtcdgldnphhidlaaGreatDoorQa
import Derived.Test.YtcdgldnphhidlaaGreatDoorQ23
set_option linter.unusedVariables false
set_option linter.unusedSimpArgs false
set_option maxRecDepth 100000
set_option maxHeartbeats 16000000
namespace Go.Proofs.YtcdgldnphhidlaaGreatDoor.Path
open Go.RowKit Go.ZW.PrintWords Go.Proofs.YtcdgldnphhidlaaGreatDoor.Base Go.Proofs.YtcdgldnphhidlaaGreatDoor.Total Go.Proofs.YtcdgldnphhidlaaGreatDoor.Lower Go.Proofs.YtcdgldnphhidlaaGreatDoor.Ext
theorem vI {st:eW} {comp:ByteArray} {sc:Bool} {name:ByteArray} {cuts:List Nat} (M:RV→Prop) (h0:M jT) (hf:∀ a b k,M (nO jT (name.extract a b) k)) (hl:∀ r a b k,r.ids≠[]→M r→M (kK st comp sc cuts.length r (name.extract a b) k)):M (fW st comp sc name cuts):=by
 have step:∀ (r:RV) (a b:Nat) (k:Int),(r=jT∨(r.ids≠[]∧M r))→(kG st comp sc cuts.length r (name.extract a b) k).ids≠[]∧M (kG st comp sc cuts.length r (name.extract a b) k):=by
  intro r a b k h;unfold kG;rcases h with rfl | ⟨h1,h2⟩
  ·rw[if_pos (show jT.ids=[] from rfl)];exact ⟨by simp[nO,RV.id],hf a b k⟩
  rw[if_neg h1];exact ⟨rZ h1 _ _ _,hl r a b k h1 h2⟩
 have fold:∀ (cs:List Nat) (d:RV×Nat),(d.1=jT∨(d.1.ids≠[]∧M d.1))→((cs.foldl (kF st comp sc cuts.length name) d).1=jT∨((cs.foldl (kF st comp sc cuts.length name) d).1.ids≠[]∧M (cs.foldl (kF st comp sc cuts.length name) d).1)):=by
  intro cs
  induction cs with
  | nil=>intro d h;exact h
  | cons c cs ih=>intro d h;exact ih _ (.inr (step _ _ _ _ h))
 unfold fW;split
 ·exact h0
 exact (step _ _ _ _ (fold _ _ (.inl rfl))).2
structure LI (st:eW) (r:RV):Prop where
 langs:∀ l∈r.langs,(listed st.langs (low l) || listed st.dis (low l))=true
 lang1:r.hasLang=true→(listed st.langs r.lang1 || listed st.dis r.lang1)=true
 has0:r.hasLang=false→r.lang1=⟨#[]⟩
 disT:r.dis=true→∃ i:Nat,(i:Int)≠r.layAt∧∃ l,r.ids[i]? = some l∧(listed st.dis (low l)=true∨listed st.dis l=true)
 disL:r.dis=true→r.langs≠[]∨r.hasLang=true
 disF:r.dis=false→(∀ l∈r.langs,listed st.langs (low l)=true)∧(r.hasLang=true→listed st.langs r.lang1=true)
 lay:r.layAt = -1∨(0≤r.layAt∧r.layAt < r.ids.length)
theorem LI.zero (st:eW):LI st jT:=⟨(fun l h=>by cases h),(fun h=>by cases h),fun _=>rfl,(fun h=>by cases h),(fun h=>by cases h),fun _=>⟨(fun l h=>by cases h),(fun h=>by cases h)⟩,.inl rfl⟩
theorem aD2 {a b:Bool} (h:(a || b)=true) (ha:a=false):b=true:=by rw[ha] at h;simpa using h
theorem LI.later {st:eW} {comp:ByteArray} {sc:Bool} {pts:Nat} {r:RV} (h:LI st r) (w:ByteArray) (k:Int):LI st (kK st comp sc pts r w k):=by
 have lt:∀ i:Nat,∀ l,r.ids[i]? = some l→i < r.ids.length:=fun i l hl=>(List.getElem?_eq_some_iff.1 hl).1
 have T:∀ t:ByteArray,r.dis=true→∃ i:Nat,(i:Int)≠r.layAt∧∃ l,(r.ids++[t])[i]? = some l∧(listed st.dis (low l)=true∨listed st.dis l=true):=by
  intro t hd;obtain ⟨i,h1,l,h2,h3⟩:=h.disT hd;exact ⟨i,h1,l,by rw[List.getElem?_append_left (lt i l h2)];exact h2,h3⟩
 have LY:∀ t:ByteArray,r.layAt = -1∨(0≤r.layAt∧r.layAt < ((r.ids++[t]).length:Int)):=by
  intro t;rcases h.lay with h | h
  ·exact .inl h
  right;rw[List.length_append];simp;omega
 have new:∀ t:ByteArray,(((r.ids.length:Nat):Int)≠r.layAt)∧(r.ids++[t])[r.ids.length]? = some t:=by
  intro t;refine ⟨?_,by rw[List.getElem?_append_right (Nat.le_refl _),Nat.sub_self];rfl⟩;rcases h.lay with h | h <;> omega
 unfold kK;split
 ·unfold jM;split
  ·rename_i hc
   obtain ⟨v,hv⟩:∃ v,gY (fP w) fJ=v:=⟨_,rfl⟩
   rw[hv] at hc ⊢;refine ⟨?_,h.lang1,h.has0,?_,?_,?_,LY v⟩
   ·intro l hl;rcases List.mem_append.1 hl with hl | hl
    ·exact h.langs l hl
    rw[List.mem_singleton] at hl;rw[hl];exact hc.2
   ·intro hd
    cases hl:listed st.langs (low v) with
    | true =>
     have hd:r.dis=true:=by
      have hd:(r.dis || !listed st.langs (low v))=true:=hd;rw[hl] at hd;simpa using hd
     exact T v hd
    | false =>
     exact ⟨r.ids.length,(new v).1,v,(new v).2,.inl (aD2 hc.2 hl)⟩
   ·intro _;left;show r.langs++[v]≠[];simp
   intro hd;have hd:(r.dis || !listed st.langs (low v))=false:=hd;rw[Bool.or_eq_false_iff] at hd;obtain ⟨h1,h2⟩:=h.disF hd.1;refine ⟨?_,h2⟩;intro l hl;rcases List.mem_append.1 hl with hl | hl
   ·exact h1 l hl
   rw[List.mem_singleton] at hl;rw[hl];simpa using hd.2
  split
  ·exact ⟨h.langs,h.lang1,h.has0,T _,h.disL,h.disF,LY _⟩
  split
  ·exact ⟨h.langs,h.lang1,h.has0,T _,h.disL,h.disF,LY _⟩
  split
  ·exact ⟨h.langs,h.lang1,h.has0,T _,h.disL,h.disF,LY _⟩
  exact ⟨h.langs,h.lang1,h.has0,T _,h.disL,h.disF,LY _⟩
 unfold jL;split
 ·rename_i hc
  refine ⟨h.langs,fun _=>hc.2,(fun hh=>by cases hh),?_,fun _=>.inr rfl,?_,LY w⟩
  ·intro hd
   cases hl:listed st.langs w with
   | true =>
    have hd:r.dis=true:=by
     have hd:(r.dis || !listed st.langs w)=true:=hd;rw[hl] at hd;simpa using hd
    exact T w hd
   | false=>exact ⟨r.ids.length,(new w).1,w,(new w).2,.inr (aD2 hc.2 hl)⟩
  intro hd;have hd:(r.dis || !listed st.langs w)=false:=hd;rw[Bool.or_eq_false_iff] at hd;exact ⟨(h.disF hd.1).1,fun _=>by simpa using hd.2⟩
 split
 ·exact ⟨h.langs,h.lang1,h.has0,T _,h.disL,h.disF,LY _⟩
 split
 ·exact ⟨h.langs,h.lang1,h.has0,T _,h.disL,h.disF,LY _⟩
 split
 ·exact ⟨h.langs,h.lang1,h.has0,T _,h.disL,h.disF,LY _⟩
 split
 ·split
  ·rename_i hlay
   refine ⟨h.langs,h.lang1,h.has0,?_,h.disL,h.disF,.inr ⟨by show (0:Int)≤(r.ids.length:Int);omega,by show ((r.ids.length:Nat):Int) < ((r.ids++[w]).length:Int);rw[List.length_append,List.length_singleton];omega⟩⟩;intro hd;obtain ⟨i,h1,l,h2,h3⟩:=h.disT hd;have:=lt i l h2;exact ⟨i,by show (i:Int)≠(r.ids.length:Int);omega,l,by show (r.ids++[w])[i]? = some l;rw[List.getElem?_append_left this];exact h2,h3⟩
  rename_i hlay
  refine ⟨h.langs,h.lang1,h.has0,?_,h.disL,h.disF,?_⟩
  ·intro hd;obtain ⟨i,h1,l,h2,h3⟩:=h.disT hd;refine ⟨i,h1,l,?_,h3⟩;show (r.ids.set r.layAt.toNat w)[i]? = some l;rw[List.getElem?_set_ne bA];exact h2
  rcases h.lay with h | h
  ·exact .inl h
  right;show _∧r.layAt < ((r.ids.set r.layAt.toNat w).length:Int);rw[List.length_set];exact h
 exact ⟨h.langs,h.lang1,h.has0,h.disT,h.disL,h.disF,h.lay⟩
theorem LI.all (st:eW) (comp:ByteArray) (sc:Bool) (name:ByteArray) (cuts:List Nat):LI st (fW st comp sc name cuts) :=
 vI (LI st) (LI.zero st) (fun a b k=>⟨(fun l h=>by cases h),(fun h=>by cases h),fun _=>rfl,(fun h=>by cases h),(fun h=>by cases h),fun _=>⟨(fun l h=>by cases h),(fun h=>by cases h)⟩,.inl rfl⟩) (fun r a b k _ h=>h.later _ k)
theorem aDo (c:UInt8):gZ (lJ (gZ c))=lJ (gZ c):=by
 by_cases h:gZ c=32
 ·rw[h];decide
 have e:lJ (gZ c)=gZ c:=by unfold lJ;rw[if_neg h]
 rw[e,aJ9]
theorem tZ {T:ByteArray} (h:low T=T) (a b:Nat):low (T.extract a b)=T.extract a b:=by
 refine L_inj ?_;rw[oO,eQ,List.map_take,List.map_drop,← oO,h]
theorem mText_mem {l:List UInt8} {c:UInt8} (h:c∈gQ l):c=47∨c∈l:=by
 have lead:∀ c∈kC l,c=47∨c∈l:=by
  intro c h;unfold kC at h;split at h
  ·left;simpa using h
  split at h
  ·exact .inr h
  rcases List.mem_cons.1 h with h | h
  ·exact .inl h
  exact .inr h
 unfold gQ at h;simp only at h;split at h
 ·exact lead c (List.dropLast_subset _ h)
 exact lead c h
theorem aDt {T s:ByteArray} (h:L T=gQ (L (norm s))):low T=T:=by
 refine L_inj ?_;rw[oO];refine (List.map_congr_left (fun c hc=>?_)).trans (List.map_id _);rw[h] at hc;rcases mText_mem hc with rfl | hc
 ·decide
 rw[wD,List.mem_map] at hc;obtain ⟨a,_,rfl⟩:=hc;exact aDo a
theorem aH0 {p:eH} (h:low p.s=p.s) (i:Int):low (fD p i)=fD p i:=by
 unfold fD;split
 ·rfl
 split
 ·exact tZ h _ _
 rfl
structure UI (name:ByteArray) (r:RV):Prop where
 unk:∀ l∈r.unk,∃ a b,l=name.extract a b
 lay:∃ a b,r.lay1=name.extract a b
theorem piece_nil (name:ByteArray):∃ a b,(⟨#[]⟩:ByteArray)=name.extract a b:=⟨0,0,L_inj (by rw[eQ];simp;rfl)⟩
theorem UI.all (st:eW) (comp:ByteArray) (sc:Bool) (name:ByteArray) (cuts:List Nat):UI name (fW st comp sc name cuts):=by
 refine vI (UI name) ⟨(fun l h=>by cases h),piece_nil name⟩ (fun a b k=>⟨(fun l h=>by cases h),piece_nil name⟩) (fun r a b k _ h=>?_)
 have app:∀ t:ByteArray,(∃ a b,t=name.extract a b)→∀ l∈r.unk++[t],∃ a b,l=name.extract a b:=by
  intro t ht l hl;rcases List.mem_append.1 hl with hl | hl
  ·exact h.unk l hl
  rw[List.mem_singleton] at hl;rw[hl];exact ht
 unfold kK;split
 ·unfold jM
  repeat' split
  all_goals exact ⟨h.unk,h.lay⟩
 unfold jL;split
 ·exact ⟨h.unk,h.lay⟩
 split
 ·exact ⟨h.unk,h.lay⟩
 split
 ·exact ⟨h.unk,h.lay⟩
 split
 ·exact ⟨h.unk,h.lay⟩
 split
 ·split
  ·exact ⟨h.unk,⟨a,b,rfl⟩⟩
  exact ⟨app _ h.lay,⟨a,b,rfl⟩⟩
 exact ⟨app _ ⟨a,b,rfl⟩,h.lay⟩
theorem aDk (l:List UInt8) (a k:Nat):inside ((l.drop a).take k) l=true:=by
 induction l generalizing a with
 | nil=>simp[inside]
 | cons c l ih =>
  cases a with
  | zero =>
   unfold inside;rw[List.drop_zero,List.isPrefixOf_iff_prefix.2 (List.take_prefix _ _)];rfl
  | succ a =>
   unfold inside;rw[List.drop_succ_cons,ih a,Bool.or_true]
section
variable {st:eW} {comp s:ByteArray} {p:eH} (K:lF st comp s) (hp:gB (eJ st) comp (norm s)=p)
include K hp
theorem aLa:((nL p).toList=[]→p.dis=false∧qA p=nrm p.trim p.s∧jW p=[])∧((nL p).toList≠[]→(listed st.langs (nL p) || listed st.dis (nL p))=true) ∧
 (p.dis=false→(nL p).toList=[]∨listed st.langs (nL p)=true)∧(p.dis=true→∃ l∈kB p,listed st.dis l=true):=by
 obtain ⟨T,q,n,e,sc,r,P,htr,hc,hr,hT⟩:=aKu K hp;have I:LI st r:=by rw[hr];exact LI.all _ _ _ _ _
 have SE:=aG6 K;obtain ⟨l1,l2,l3,l4⟩:=P.lists;have hlow:low p.s=p.s:=by rw[P.s];exact aDt hT
 have hlang:=P.langIs.1
 have lne:∀ t∈r.langs,t≠⟨#[]⟩∧low t=t:=by
  intro t ht;rcases P.words with ⟨_,_,h,_⟩ | ⟨_,_,R,_⟩
  ·rw[h] at ht;cases ht
  refine ⟨R.ix.lne t ht,?_⟩;rw[R.ix.langs,List.mem_map] at ht;obtain ⟨i,_,rfl⟩:=ht;exact aH0 hlow i
 have idl:∀ t∈r.ids,low t=t:=by
  intro t ht;rw[← l1] at ht;unfold kB at ht;rw[List.mem_map] at ht;obtain ⟨x,_,rfl⟩:=ht;exact tZ hlow _ _
 have emp:∀ x:ByteArray,x.toList=[]↔x=⟨#[]⟩:=fun x=>by rw[L_toList];exact ⟨fun h=>L_inj (h.trans rfl),fun h=>by rw[h];rfl⟩
 rw[hlang,l3,l4,l1];have hfirst:∀ l rest,r.langs=l::rest→l≠⟨#[]⟩∧low l=l:=fun l rest h=>lne l (by rw[h];exact List.mem_cons_self ..);refine ⟨?_,?_,?_,?_⟩
 ·intro h;rw[emp] at h
  cases hl:r.langs with
  | cons l rest =>
   rw[hl] at h;exact absurd h (hfirst l rest hl).1
  | nil =>
   rw[hl] at h;have h:r.lang1=⟨#[]⟩:=h
   have hh:r.hasLang=false:=by
    cases hh:r.hasLang with
    | false=>rfl
    | true =>
     have:=SE.lang _ (I.lang1 hh);exact absurd h this
   refine ⟨?_,?_,rfl⟩
   ·cases hd:r.dis with
    | false=>rfl
    | true =>
     rcases I.disL hd with h2 | h2
     ·exact absurd hl h2
     rw[hh] at h2;cases h2
   rw[P.noLang (comp:=comp) (ty:=p.typ)];unfold mQ;show nrm p.trim (if (match r.langs with | []=>r.lang1 | l::_=>l)=⟨#[]⟩ then T else _)=_;rw[hl,if_pos h,P.s]
 ·intro h;rw[ne_eq,emp] at h
  cases hl:r.langs with
  | cons l rest =>
   have:=I.langs l (by rw[hl];exact List.mem_cons_self ..);rw[(hfirst l rest hl).2] at this;exact this
  | nil =>
   rw[hl] at h
   cases hh:r.hasLang with
   | true=>exact I.lang1 hh
   | false=>exact absurd (I.has0 hh) h
 ·intro hd;obtain ⟨d1,d2⟩:=I.disF hd
  cases hl:r.langs with
  | cons l rest =>
   right;have:=d1 l (by rw[hl];exact List.mem_cons_self ..);rw[(hfirst l rest hl).2] at this;exact this
  | nil =>
   cases hh:r.hasLang with
   | true=>exact .inr (d2 hh)
   | false=>left;rw[emp];exact I.has0 hh
 intro hd;obtain ⟨i,_,l,h2,h3⟩:=I.disT hd;have hm:=List.mem_of_getElem? h2;refine ⟨l,hm,?_⟩;rw[idl l hm] at h3;exact h3.elim id id
end
end Go.Proofs.YtcdgldnphhidlaaGreatDoor.Path
