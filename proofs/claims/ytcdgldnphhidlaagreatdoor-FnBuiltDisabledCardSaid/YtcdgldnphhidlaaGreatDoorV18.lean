/- Texts that the law leans on: Langs. Condition: as told at each. -/
import Derived.Test.YtcdgldnphhidlaaGreatDoorVa
import Derived.Test.YtcdgldnphhidlaaGreatDoorV17
set_option linter.unusedVariables false
set_option linter.unusedSimpArgs false
set_option maxRecDepth 100000
set_option maxHeartbeats 16000000
namespace Go.Proofs.YtcdgldnphhidlaaGreatDoor.Path
open Go.RowKit Go.ZW.PrintWords Go.Proofs.YtcdgldnphhidlaaGreatDoor.Base Go.Proofs.YtcdgldnphhidlaaGreatDoor.Total Go.Proofs.YtcdgldnphhidlaaGreatDoor.Lower Go.Proofs.YtcdgldnphhidlaaGreatDoor.Ext
theorem yW {st:fD} {comp:ByteArray} {sc:Bool} {name:ByteArray} {cuts:List Nat} (M:RV→Prop) (h0:M jK) (hf:∀ a b k,M (kJ jK (name.extract a b) k)) (hl:∀ r a b k,r.ids≠[]→M r→M (iX st comp sc cuts.length r (name.extract a b) k)):M (iR st comp sc name cuts):=by
 have step:∀ (r:RV) (a b:Nat) (k:Int),(r=jK∨(r.ids≠[]∧M r))→(qV st comp sc cuts.length r (name.extract a b) k).ids≠[]∧M (qV st comp sc cuts.length r (name.extract a b) k):=by
  intro r a b k h;unfold qV;rcases h with rfl | ⟨h1,h2⟩
  ·rw[if_pos (show jK.ids=[] from rfl)];exact ⟨by simp[kJ,RV.id],hf a b k⟩
  rw[if_neg h1];exact ⟨yV h1 _ _ _,hl r a b k h1 h2⟩
 have fold:∀ (cs:List Nat) (d:RV×Nat),(d.1=jK∨(d.1.ids≠[]∧M d.1))→((cs.foldl (nB st comp sc cuts.length name) d).1=jK∨((cs.foldl (nB st comp sc cuts.length name) d).1.ids≠[]∧M (cs.foldl (nB st comp sc cuts.length name) d).1)):=by
  intro cs
  induction cs with
  | nil=>intro d h;exact h
  | cons c cs ih=>intro d h;exact ih _ (.inr (step _ _ _ _ h))
 unfold iR;split
 ·exact h0
 exact (step _ _ _ _ (fold _ _ (.inl rfl))).2
structure LI (st:fD) (r:RV):Prop where
 langs:∀ l∈r.langs,(listed st.langs (low l) || listed st.dis (low l))=true
 lang1:r.hasLang=true→(listed st.langs r.lang1 || listed st.dis r.lang1)=true
 has0:r.hasLang=false→r.lang1=⟨#[]⟩
 disT:r.dis=true→∃ i:Nat,(i:Int)≠r.layAt∧∃ l,r.ids[i]? = some l∧(listed st.dis (low l)=true∨listed st.dis l=true)
 disL:r.dis=true→r.langs≠[]∨r.hasLang=true
 disF:r.dis=false→(∀ l∈r.langs,listed st.langs (low l)=true)∧(r.hasLang=true→listed st.langs r.lang1=true)
 lay:r.layAt = -1∨(0≤r.layAt∧r.layAt < r.ids.length)
theorem LI.zero (st:fD):LI st jK:=⟨(fun l h=>by cases h),(fun h=>by cases h),fun _=>rfl,(fun h=>by cases h),(fun h=>by cases h),fun _=>⟨(fun l h=>by cases h),(fun h=>by cases h)⟩,.inl rfl⟩
theorem aCe {a b:Bool} (h:(a || b)=true) (ha:a=false):b=true:=by rw[ha] at h;simpa using h
theorem LI.later {st:fD} {comp:ByteArray} {sc:Bool} {pts:Nat} {r:RV} (h:LI st r) (w:ByteArray) (k:Int):LI st (iX st comp sc pts r w k):=by
 have lt:∀ i:Nat,∀ l,r.ids[i]? = some l→i < r.ids.length:=fun i l hl=>(List.getElem?_eq_some_iff.1 hl).1
 have T:∀ t:ByteArray,r.dis=true→∃ i:Nat,(i:Int)≠r.layAt∧∃ l,(r.ids++[t])[i]? = some l∧(listed st.dis (low l)=true∨listed st.dis l=true):=by
  intro t hd;obtain ⟨i,h1,l,h2,h3⟩:=h.disT hd;exact ⟨i,h1,l,by rw[List.getElem?_append_left (lt i l h2)];exact h2,h3⟩
 have LY:∀ t:ByteArray,r.layAt = -1∨(0≤r.layAt∧r.layAt < ((r.ids++[t]).length:Int)):=by
  intro t;rcases h.lay with h | h
  ·exact .inl h
  right;rw[List.length_append];simp;omega
 have new:∀ t:ByteArray,(((r.ids.length:Nat):Int)≠r.layAt)∧(r.ids++[t])[r.ids.length]? = some t:=by
  intro t;refine ⟨?_,by rw[List.getElem?_append_right (Nat.le_refl _),Nat.sub_self];rfl⟩;rcases h.lay with h | h <;> omega
 unfold iX;split
 ·unfold mR;split
  ·rename_i hc
   obtain ⟨v,hv⟩:∃ v,iL (fS w) eZ=v:=⟨_,rfl⟩
   rw[hv] at hc ⊢;refine ⟨?_,h.lang1,h.has0,?_,?_,?_,LY v⟩
   ·intro l hl;rcases List.mem_append.1 hl with hl | hl
    ·exact h.langs l hl
    rw[List.mem_singleton] at hl;rw[hl];exact hc.2
   ·intro hd
    cases hl:listed st.langs (low v) with
    | true =>
     have hd:r.dis=true:=by
      have hd:(r.dis || !listed st.langs (low v))=true:=hd;rw[hl] at hd;simpa using hd
     exact T v hd
    | false =>
     exact ⟨r.ids.length,(new v).1,v,(new v).2,.inl (aCe hc.2 hl)⟩
   ·intro _;left;show r.langs++[v]≠[];simp
   intro hd;have hd:(r.dis || !listed st.langs (low v))=false:=hd;rw[Bool.or_eq_false_iff] at hd;obtain ⟨h1,h2⟩:=h.disF hd.1;refine ⟨?_,h2⟩;intro l hl;rcases List.mem_append.1 hl with hl | hl
   ·exact h1 l hl
   rw[List.mem_singleton] at hl;rw[hl];simpa using hd.2
  split
  ·exact ⟨h.langs,h.lang1,h.has0,T _,h.disL,h.disF,LY _⟩
  split
  ·exact ⟨h.langs,h.lang1,h.has0,T _,h.disL,h.disF,LY _⟩
  split
  ·exact ⟨h.langs,h.lang1,h.has0,T _,h.disL,h.disF,LY _⟩
  exact ⟨h.langs,h.lang1,h.has0,T _,h.disL,h.disF,LY _⟩
 unfold nV;split
 ·rename_i hc
  refine ⟨h.langs,fun _=>hc.2,(fun hh=>by cases hh),?_,fun _=>.inr rfl,?_,LY w⟩
  ·intro hd
   cases hl:listed st.langs w with
   | true =>
    have hd:r.dis=true:=by
     have hd:(r.dis || !listed st.langs w)=true:=hd;rw[hl] at hd;simpa using hd
    exact T w hd
   | false=>exact ⟨r.ids.length,(new w).1,w,(new w).2,.inr (aCe hc.2 hl)⟩
  intro hd;have hd:(r.dis || !listed st.langs w)=false:=hd;rw[Bool.or_eq_false_iff] at hd;exact ⟨(h.disF hd.1).1,fun _=>by simpa using hd.2⟩
 split
 ·exact ⟨h.langs,h.lang1,h.has0,T _,h.disL,h.disF,LY _⟩
 split
 ·exact ⟨h.langs,h.lang1,h.has0,T _,h.disL,h.disF,LY _⟩
 split
 ·exact ⟨h.langs,h.lang1,h.has0,T _,h.disL,h.disF,LY _⟩
 split
 ·split
  ·rename_i hlay
   refine ⟨h.langs,h.lang1,h.has0,?_,h.disL,h.disF,.inr ⟨by show (0:Int)≤(r.ids.length:Int);omega,by show ((r.ids.length:Nat):Int) < ((r.ids++[w]).length:Int);rw[List.length_append,List.length_singleton];omega⟩⟩;intro hd;obtain ⟨i,h1,l,h2,h3⟩:=h.disT hd;have:=lt i l h2;exact ⟨i,by show (i:Int)≠(r.ids.length:Int);omega,l,by show (r.ids++[w])[i]? = some l;rw[List.getElem?_append_left this];exact h2,h3⟩
  rename_i hlay
  refine ⟨h.langs,h.lang1,h.has0,?_,h.disL,h.disF,?_⟩
  ·intro hd;obtain ⟨i,h1,l,h2,h3⟩:=h.disT hd;refine ⟨i,h1,l,?_,h3⟩;show (r.ids.set r.layAt.toNat w)[i]? = some l;rw[List.getElem?_set_ne bA];exact h2
  rcases h.lay with h | h
  ·exact .inl h
  right;show _∧r.layAt < ((r.ids.set r.layAt.toNat w).length:Int);rw[List.length_set];exact h
 exact ⟨h.langs,h.lang1,h.has0,h.disT,h.disL,h.disF,h.lay⟩
theorem LI.all (st:fD) (comp:ByteArray) (sc:Bool) (name:ByteArray) (cuts:List Nat):LI st (iR st comp sc name cuts) :=
 yW (LI st) (LI.zero st) (fun a b k=>⟨(fun l h=>by cases h),(fun h=>by cases h),fun _=>rfl,(fun h=>by cases h),(fun h=>by cases h),fun _=>⟨(fun l h=>by cases h),(fun h=>by cases h)⟩,.inl rfl⟩) (fun r a b k _ h=>h.later _ k)
theorem aGe (c:UInt8):gZ (jF (gZ c))=jF (gZ c):=by
 by_cases h:gZ c=32
 ·rw[h];decide
 have e:jF (gZ c)=gZ c:=by unfold jF;rw[if_neg h]
 rw[e,aHf]
structure UI (name:ByteArray) (r:RV):Prop where
 unk:∀ l∈r.unk,∃ a b,l=name.extract a b
 lay:∃ a b,r.lay1=name.extract a b
theorem piece_nil (name:ByteArray):∃ a b,(⟨#[]⟩:ByteArray)=name.extract a b:=⟨0,0,L_inj (by rw[eS];simp;rfl)⟩
theorem UI.all (st:fD) (comp:ByteArray) (sc:Bool) (name:ByteArray) (cuts:List Nat):UI name (iR st comp sc name cuts):=by
 refine yW (UI name) ⟨(fun l h=>by cases h),piece_nil name⟩ (fun a b k=>⟨(fun l h=>by cases h),piece_nil name⟩) (fun r a b k _ h=>?_)
 have app:∀ t:ByteArray,(∃ a b,t=name.extract a b)→∀ l∈r.unk++[t],∃ a b,l=name.extract a b:=by
  intro t ht l hl;rcases List.mem_append.1 hl with hl | hl
  ·exact h.unk l hl
  rw[List.mem_singleton] at hl;rw[hl];exact ht
 unfold iX;split
 ·unfold mR
  repeat' split
  all_goals exact ⟨h.unk,h.lay⟩
 unfold nV;split
 ·exact ⟨h.unk,h.lay⟩
 split
 ·exact ⟨h.unk,h.lay⟩
 split
 ·exact ⟨h.unk,h.lay⟩
 split
 ·exact ⟨h.unk,h.lay⟩
 split
 ·split
  ·exact ⟨h.unk,⟨a,b,rfl⟩⟩
  exact ⟨app _ h.lay,⟨a,b,rfl⟩⟩
 exact ⟨app _ ⟨a,b,rfl⟩,h.lay⟩
end Go.Proofs.YtcdgldnphhidlaaGreatDoor.Path
