/- Texts that the law leans on: Acc4, Id0, Id00, Goes, Set. Condition: as told at each. -/
import Derived.StillTailTactics
import Derived.Deep.OwnRows
import Derived.Laws.OwnMore
import Derived.Test.YtmgdbpjidkdegaaGreatDoorQa
import Derived.Test.YtmgdbpjidkdegaaGreatDoorQ5
set_option linter.unusedVariables false
set_option linter.unusedSimpArgs false
namespace Go.Proofs.YtmgdbpjidkdegaaGreatDoor.Path
open Go.RowKit Go.Proofs.YtmgdbpjidkdegaaGreatDoorW.PrintWords Go.Proofs.YtmgdbpjidkdegaaGreatDoor.Base
section
variable {w:World} {B b:Nat} {p:PathV} {vk vu vl u:Value}
theorem Ext_in (H:PathAt w B b p vk vu vl u) (O:PathIn p):Calls Tryz.prog 89 #[.pointer (some ⟨b,0,none⟩)] w fun e w'=>e = .returned (.string (mIdStr p 0))∧Below w.heap.size w w':=by
 have c:=identifierAsString_calls H O 0;clear H O;go_enter Tryz.func89,Tryz.ntmps89;go_wp2_with fail
 (with_reducible refine c.mono ?_)
 rintro e w' ⟨rfl,hd⟩;have HD:=bR hd;clear hd;go_wp2_with fail
 go_ret;exact ⟨rfl,HD.out⟩
theorem Ext_calls (H:PathAt w B b p vk vu vl u) (O:PathOk p):Calls Tryz.prog 89 #[.pointer (some ⟨b,0,none⟩)] w fun e w'=>e = .returned (.string (mIdStr p 0))∧Below w.heap.size w w':=Ext_in H O.toPathIn
theorem OutputFormat_calls (H:PathAt w B b p vk vu vl u) (O:PathOk p):Calls Tryz.prog 90 #[.pointer (some ⟨b,0,none⟩)] w fun e w'=>e = .returned (.string (if p.pfmt = -1 then mIdStr p p.fmt else mIdStr p p.pfmt))∧Below w.heap.size w w':=by
 have h1:=H.row.at 17 _ rfl;have h2:=H.row.at 9 _ rfl
 by_cases t:p.pfmt = -1
 ·rw[if_pos t];rw[t] at h1;have c:=identifierAsString_calls H O.toPathIn p.fmt;clear t H O;go_enter Tryz.func90,Tryz.ntmps90;go_wp2_with fail
  (with_reducible refine c.mono ?_)
  rintro e w' ⟨rfl,hd⟩;have HD:=bR hd;clear hd;go_wp2_with fail
  go_ret;exact ⟨rfl,HD.out⟩
 ·rw[if_neg t];have hne:(p.pfmt == -1)=false:=beq_eq_false_iff_ne.2 t;have hne2:(p.pfmt != -1)=true:=bne_iff_ne.2 t;have c:=identifierAsString_calls H O.toPathIn p.pfmt;clear t H O;go_enter Tryz.func90,Tryz.ntmps90;go_wp2_with fail
  (with_reducible refine c.mono ?_)
  rintro e w' ⟨rfl,hd⟩;have HD:=bR hd;clear hd;go_wp2_with fail
  go_ret;exact ⟨rfl,HD.out⟩
theorem Kind_calls (H:PathAt w B b p vk vu vl u) (O:PathOk p):Calls Tryz.prog 91 #[.pointer (some ⟨b,0,none⟩)] w fun e w'=>e = .returned (.string (if p.pkind = -1 then mIdStr p p.kind else mIdStr p p.pkind))∧Below w.heap.size w w':=by
 have h1:=H.row.at 18 _ rfl;have h2:=H.row.at 10 _ rfl
 by_cases t:p.pkind = -1
 ·rw[if_pos t];rw[t] at h1;have c:=identifierAsString_calls H O.toPathIn p.kind;clear t H O;go_enter Tryz.func91,Tryz.ntmps91;go_wp2_with fail
  (with_reducible refine c.mono ?_)
  rintro e w' ⟨rfl,hd⟩;have HD:=bR hd;clear hd;go_wp2_with fail
  go_ret;exact ⟨rfl,HD.out⟩
 ·rw[if_neg t];have hne:(p.pkind == -1)=false:=beq_eq_false_iff_ne.2 t;have hne2:(p.pkind != -1)=true:=bne_iff_ne.2 t;have c:=identifierAsString_calls H O.toPathIn p.pkind;clear t H O;go_enter Tryz.func91,Tryz.ntmps91;go_wp2_with fail
  (with_reducible refine c.mono ?_)
  rintro e w' ⟨rfl,hd⟩;have HD:=bR hd;clear hd;go_wp2_with fail
  go_ret;exact ⟨rfl,HD.out⟩
theorem Layout_calls (H:PathAt w B b p vk vu vl u) (O:PathOk p):Calls Tryz.prog 92 #[.pointer (some ⟨b,0,none⟩)] w fun e w'=>e = .returned (.string (if p.play = -1 then mIdStr p p.lay else mIdStr p p.play))∧Below w.heap.size w w':=by
 have h1:=H.row.at 19 _ rfl;have h2:=H.row.at 11 _ rfl
 by_cases t:p.play = -1
 ·rw[if_pos t];rw[t] at h1;have c:=identifierAsString_calls H O.toPathIn p.lay;clear t H O;go_enter Tryz.func92,Tryz.ntmps92;go_wp2_with fail
  (with_reducible refine c.mono ?_)
  rintro e w' ⟨rfl,hd⟩;have HD:=bR hd;clear hd;go_wp2_with fail
  go_ret;exact ⟨rfl,HD.out⟩
 ·rw[if_neg t];have hne:(p.play == -1)=false:=beq_eq_false_iff_ne.2 t;have hne2:(p.play != -1)=true:=bne_iff_ne.2 t;have c:=identifierAsString_calls H O.toPathIn p.play;clear t H O;go_enter Tryz.func92,Tryz.ntmps92;go_wp2_with fail
  (with_reducible refine c.mono ?_)
  rintro e w' ⟨rfl,hd⟩;have HD:=bR hd;clear hd;go_wp2_with fail
  go_ret;exact ⟨rfl,HD.out⟩
def mLang (p:PathV):ByteArray:=match p.plangs with | []=>mIdStr p p.lang | i::_=>mIdStr p i
theorem Lang_calls (H:PathAt w B b p vk vu vl u) (O:PathOk p):Calls Tryz.prog 93 #[.pointer (some ⟨b,0,none⟩)] w fun e w'=>e = .returned (.string (mLang p))∧Below w.heap.size w w':=by
 have h8:=H.row.at 8 _ rfl;have h14:=H.row.at 14 _ rfl;unfold mLang
 cases hl:p.plangs with
 | nil =>
  obtain ⟨A,c0,hv⟩:=own_slice H.ol;rw[hv,hl] at h14;have h14' : w.cell? ⟨b,14,none⟩=some (.slice A 0 c0):=h14;have c:=identifierAsString_calls H O.toPathIn p.lang;clear hl hv h14 H O;go_enter Tryz.func93,Tryz.ntmps93;go_wp2_with fail
  (with_reducible refine c.mono ?_)
  rintro e w' ⟨rfl,hd⟩;have HD:=bR hd;clear hd;go_wp2_with fail
  go_ret;exact ⟨rfl,HD.out⟩
 | cons i r =>
  obtain ⟨g,c0,hv,k1⟩:=H.langAt 0 i (by rw[hl];rfl);rw[hv] at h14;have hlen:(0:Int) < p.plangs.length:=by rw[hl];simp
  have hlen2:decide ((0:Int) < (p.plangs.length:Int))=true:=decide_eq_true hlen;have hlen3:decide (0 < p.plangs.length)=true:=decide_eq_true bA;have c:=identifierAsString_calls H O.toPathIn i;clear hl hv H O;go_enter Tryz.func93,Tryz.ntmps93;go_wp2_with fail
  (with_reducible refine c.mono ?_)
  rintro e w' ⟨rfl,hd⟩;have HD:=bR hd;clear hd;go_wp2_with fail
  go_ret;exact ⟨rfl,HD.out⟩
def mCustom (p:PathV):ByteArray:=⟨(Lib.trimSuffix (Lib.trimPrefix (L (mIdStr p p.cust)) [95]) [95]).toArray⟩
theorem Custom_calls (H:PathAt w B b p vk vu vl u) (O:PathOk p):Calls Tryz.prog 94 #[.pointer (some ⟨b,0,none⟩)] w fun e w'=>e = .returned (.string (mCustom p))∧Below w.heap.size w w':=by
 have h13:=H.row.at 13 _ rfl;have c:=identifierAsString_calls H O.toPathIn p.cust
 have hsz:(mIdStr p p.cust).size≤p.s.size:=by
  unfold mIdStr;split
  ·exact Nat.zero_le _
  ·split
   ·exact extract_le _ _ _
   ·exact Nat.zero_le _
 have o1:=O.sz
 obtain ⟨s,hs⟩:∃ s,mIdStr p p.cust=s:=⟨_,rfl⟩
 have hm:mCustom p=⟨(Lib.trimSuffix (Lib.trimPrefix (L s) [95]) [95]).toArray⟩:=by unfold mCustom;rw[hs]
 have HM:=bR hm;rw[hs] at c hsz;clear hs hm H O;go_enter Tryz.func94,Tryz.ntmps94;go_wp2_with fail
 (with_reducible refine c.mono ?_)
 rintro e w' ⟨rfl,hd⟩;have HD:=bR hd;clear hd;go_wp2_with fail
 (with_reducible refine (Tryz.strings_TrimPrefix _ _ _).mono ?_)
 rintro e w2 ⟨rfl,rfl⟩;go_wp2_with fail
 (with_reducible refine (Tryz.strings_TrimSuffix _ _ _ ?hz).mono ?_)
 case hz =>
  have:=Lib.trimPrefix_le s.data.toList [95];have h2:=L_length s;unfold L at h2;show (Lib.trimPrefix s.data.toList [95]).toArray.size≤_
  simp
  omega
 rintro e w3 ⟨rfl,rfl⟩;go_wp2_with fail
 go_ret;exact ⟨by rw[HM.out];rfl,HD.out⟩
theorem PathNoIdentifier_calls (H:PathAt w B b p vk vu vl u) (O:PathOk p):Calls Tryz.prog 85 #[.pointer (some ⟨b,0,none⟩)] w fun e w'=>e = .returned (.string (mBase0 p false false))∧Below w.heap.size w w':=by
 have c:=base_calls H O false false;clear H O;go_enter Tryz.func85,Tryz.ntmps85;go_wp2_with fail
 (with_reducible refine c.mono ?_)
 rintro e w' ⟨rfl,hd⟩;have HD:=bR hd;clear hd;go_wp2_with fail
 go_ret;exact ⟨rfl,HD.out⟩
def mNoLang (p:PathV):ByteArray:=if p.plangs≠[]∨mIdx p p.lang≠-1 then mBase0 p true false else nrm p.trim p.s
theorem PathNoLang_calls (H:PathAt w B b p vk vu vl u) (O:PathOk p):Calls Tryz.prog 84 #[.pointer (some ⟨b,0,none⟩)] w fun e w'=>e = .returned (.string (mNoLang p))∧Below w.heap.size w w':=by
 have h8:=H.row.at 8 _ rfl;have h14:=H.row.at 14 _ rfl;have cb:=base_calls H O true false;have ci:=identifierIndex_calls H p.lang;have cp:=Path_calls H;unfold mNoLang;obtain ⟨A,c0,hv⟩:=own_slice H.ol;rw[hv] at h14
 by_cases t:p.plangs=[]
 ·rw[t] at h14;have h14' : w.cell? ⟨b,14,none⟩=some (.slice A 0 c0):=h14
  by_cases t2:mIdx p p.lang = -1
  ·rw[if_neg (by intro h;rcases h with h | h;exact h t;exact h t2)];rw[t2] at ci;clear t t2 hv h14 H O;go_enter Tryz.func84,Tryz.ntmps84;go_wp2_with fail
   (with_reducible refine ci.mono ?_)
   rintro e w' ⟨rfl,rfl⟩;go_wp2_with fail
   (with_reducible refine cp.mono ?_)
   rintro e w' ⟨rfl,rfl⟩;go_wp2_with fail
   go_ret;exact ⟨rfl,Below.refl _ _⟩
  ·rw[if_pos (.inr t2)];have hne:(mIdx p p.lang == -1)=false:=beq_eq_false_iff_ne.2 t2;clear t t2 hv h14 H O;go_enter Tryz.func84,Tryz.ntmps84;go_wp2_with fail
   (with_reducible refine ci.mono ?_)
   rintro e w' ⟨rfl,rfl⟩;go_wp2_with fail
   (with_reducible refine cb.mono ?_)
   rintro e w' ⟨rfl,hd⟩;have HD:=bR hd;clear hd;go_wp2_with fail
   go_ret;exact ⟨rfl,HD.out⟩
 ·rw[if_pos (.inl t)];have hlen:(0:Int) < p.plangs.length:=by have:=List.length_pos_iff.2 t;omega
  have hlen2:decide ((0:Int) < (p.plangs.length:Int))=true:=decide_eq_true hlen;have hlen3:decide (0 < p.plangs.length)=true:=decide_eq_true bA;clear t hv H O;go_enter Tryz.func84,Tryz.ntmps84;go_wp2_with fail
  (with_reducible refine cb.mono ?_)
  rintro e w' ⟨rfl,hd⟩;have HD:=bR hd;clear hd;go_wp2_with fail
  go_ret;exact ⟨rfl,HD.out⟩
def mIdBase (p:PathV):ByteArray:=if p.comp.toList=[108,97,121,111,117,116,115] then nrm p.trim p.s else mBase p
theorem IdentifierBase_calls (H:PathAt w B b p vk vu vl u) (O:PathOk p):Calls Tryz.prog 88 #[.pointer (some ⟨b,0,none⟩)] w fun e w'=>e = .returned (.string (mIdBase p))∧Below w.heap.size w w':=by
 have cc:=Component_calls H;have cp:=Path_calls H;have cb:=Base_calls H O;unfold mIdBase;clear H O
 by_cases t:p.comp.toList=[108,97,121,111,117,116,115]
 ·have tb:(p.comp.toList==[108,97,121,111,117,116,115])=true:=beq_iff_eq.2 t;rw[if_pos t];clear t;go_enter Tryz.func88,Tryz.ntmps88;go_wp2_with fail
  (with_reducible refine cc.mono ?_)
  rintro e w' ⟨rfl,rfl⟩;go_wp2_with fail
  (with_reducible refine cp.mono ?_)
  rintro e w' ⟨rfl,rfl⟩;go_wp2_with fail
  go_ret;exact ⟨rfl,Below.refl _ _⟩
 ·have tb:(p.comp.toList==[108,97,121,111,117,116,115])=false:=beq_eq_false_iff_ne.2 t;rw[if_neg t];clear t;go_enter Tryz.func88,Tryz.ntmps88;go_wp2_with fail
  (with_reducible refine cc.mono ?_)
  rintro e w' ⟨rfl,rfl⟩;go_wp2_with fail
  (with_reducible refine cb.mono ?_)
  rintro e w' ⟨rfl,hd⟩;have HD:=bR hd;clear hd;go_wp2_with fail
  go_ret;exact ⟨rfl,HD.out⟩
end
end Go.Proofs.YtmgdbpjidkdegaaGreatDoor.Path
namespace Go.Proofs.YtmgdbpjidkdegaaGreatDoor.Path
open Go.RowKit Go.Proofs.YtmgdbpjidkdegaaGreatDoorW.PrintWords Go.Proofs.YtmgdbpjidkdegaaGreatDoor.Base
def isCon (comp:ByteArray):Bool:=comp.toList==[99,111,110,116,101,110,116]
def mayLang (p:PathV) (comp:ByteArray) (nd:Int):Bool:=(decide (1 < nd) && p.lang == -1) && (isCon comp || isLay comp)
def mayKind (p:PathV) (comp:ByteArray):Bool:=p.kind == -1 && isLay comp
def mayLayout (p:PathV) (comp:ByteArray) (last:Bool):Bool:=if p.typ==7 then !last && isLay comp else isLay comp
def idHigh (p:PathV) (ld:Nat):Nat:=if p.known=[] then p.s.size else ld
def PathV.add (p:PathV) (x:Int×Int):PathV:={ p with known:=p.known++[x] }
def mCust (p:PathV) (x:Int×Int):PathV:={ p with known:=p.known++[x],cust:=p.known.length }
def mWrap (E:Env) (lay:Bool) (p:PathV) (lo hi:Nat) (sid:ByteArray):PathV :=
 let pre:=prefOf (sid.extract 1 (sid.size - 1))
 if pre.toList=[] then mCust p ((lo:Int),(hi:Int))
 else match mApply E lay p pre (((lo+1+pre.size:Nat):Int),((hi - 1:Nat):Int)) (lowS (p.s.extract (lo+1+pre.size) (hi - 1))) with
  | some p'=>p'
  | none=>mCust p ((lo:Int),(hi:Int))
def mFirst (E:Env) (lay:Bool) (p:PathV) (x:Int×Int) (sid:ByteArray):PathV :=
 { p with known:=p.known++[x],fmt:=if lay && E.fmt sid ⟨#[]⟩ then 0 else p.fmt }
def mPlain (E:Env) (p:PathV) (comp:ByteArray) (nd:Int) (last:Bool) (x:Int×Int) (sid:ByteArray):PathV×Bool :=
 if mayLang p comp nd && (E.lang sid || E.dis sid) then ({ p with known:=p.known++[x],lang:=p.known.length,dis:=p.dis || !E.lang sid },true)
 else if isLay comp && E.fmt sid (mIdStr p 0) then ({ p with known:=p.known++[x],fmt:=p.known.length },true)
 else if mayKind p comp && isKind sid then ({ p with known:=p.known++[x],kind:=p.known.length },true)
 else if sid.toList==[98,97,115,101,111,102] then ({ p with known:=p.known++[x],base:=p.known.length },true)
 else if mayLayout p comp last then
  if p.lay != -1 then ({ p with known:=p.known.set p.lay.toNat x,unknown:=p.unknown++[p.known.getD p.lay.toNat (0,0)] },true)
  else ({ p with known:=p.known++[x],lay:=p.known.length },true)
 else ({ p with unknown:=p.unknown++[x] },false)
def mWord (E:Env) (p:PathV) (comp:ByteArray) (lo ld:Nat) (nd:Int) (last:Bool):PathV×Bool :=
 let hi:=idHigh p ld
 let sid:=p.s.extract lo hi
 if isWrap sid then (mWrap E (isLay comp) p lo hi sid,true)
 else if p.known=[] then (mFirst E (isLay comp) p ((lo:Int),(hi:Int)) sid,true)
 else mPlain E p comp nd last ((lo:Int),(hi:Int)) sid
def mNameEnd (r:PathV×Bool) (i ld:Nat) (last:Bool):PathV :=
 if r.2 then (if last then (if r.1.nEnd≤0 then { r.1 with nEnd:=ld } else r.1) else { r.1 with nEnd:=i }) else r.1
def mId (E:Env) (p:PathV) (comp:ByteArray) (i ld:Nat) (nd:Int) (last:Bool):PathV :=
 if p.cHigh != -1 then p else mNameEnd (mWord E p comp (i+1) ld nd last) i ld last
end Go.Proofs.YtmgdbpjidkdegaaGreatDoor.Path
namespace Go.Proofs.YtmgdbpjidkdegaaGreatDoor.Path
open Go.RowKit Go.Proofs.YtmgdbpjidkdegaaGreatDoorW.PrintWords Go.Proofs.YtmgdbpjidkdegaaGreatDoor.Base
section
variable {E:Env} {p:PathV} {comp sid:ByteArray} {nd:Int} {last:Bool} {x:Int×Int}
def NL (E:Env) (p:PathV) (comp:ByteArray) (nd:Int) (sid:ByteArray):Prop:=(mayLang p comp nd && (E.lang sid || E.dis sid))=false
def NF (E:Env) (p:PathV) (comp:ByteArray) (sid:ByteArray):Prop:=(isLay comp && E.fmt sid (mIdStr p 0))=false
def NK (p:PathV) (comp:ByteArray) (sid:ByteArray):Prop:=(mayKind p comp && isKind sid)=false
def NB (sid:ByteArray):Prop:=(sid.toList==[98,97,115,101,111,102])=false
theorem mPlain_lang (h:(mayLang p comp nd && (E.lang sid || E.dis sid))=true):(({ p with known:=p.known++[x],lang:=p.known.length,dis:=p.dis || !E.lang sid }:PathV),true)=mPlain E p comp nd last x sid:=by
 unfold mPlain;rw[if_pos h]
theorem mPlain_fmt (h1:NL E p comp nd sid) (h:(isLay comp && E.fmt sid (mIdStr p 0))=true):(({ p with known:=p.known++[x],fmt:=p.known.length }:PathV),true)=mPlain E p comp nd last x sid:=by
 unfold mPlain;rw[if_neg (by rw[show _=false from h1];simp),if_pos h]
theorem mPlain_kind (h1:NL E p comp nd sid) (h2:NF E p comp sid) (h:(mayKind p comp && isKind sid)=true):(({ p with known:=p.known++[x],kind:=p.known.length }:PathV),true)=mPlain E p comp nd last x sid:=by
 unfold mPlain;rw[if_neg (by rw[show _=false from h1];simp),if_neg (by rw[show _=false from h2];simp),if_pos h]
theorem mPlain_base (h1:NL E p comp nd sid) (h2:NF E p comp sid) (h3:NK p comp sid) (h:(sid.toList==[98,97,115,101,111,102])=true):(({ p with known:=p.known++[x],base:=p.known.length }:PathV),true)=mPlain E p comp nd last x sid:=by
 unfold mPlain;rw[if_neg (by rw[show _=false from h1];simp),if_neg (by rw[show _=false from h2];simp),if_neg (by rw[show _=false from h3];simp),if_pos h]
theorem mPlain_layNew (h1:NL E p comp nd sid) (h2:NF E p comp sid) (h3:NK p comp sid) (h4:NB sid) (h:mayLayout p comp last=true) (hl:(p.lay != -1)=false):(({ p with known:=p.known++[x],lay:=p.known.length }:PathV),true)=mPlain E p comp nd last x sid:=by
 unfold mPlain;rw[if_neg (by rw[show _=false from h1];simp),if_neg (by rw[show _=false from h2];simp),if_neg (by rw[show _=false from h3];simp),if_neg (by rw[show _=false from h4];simp),if_pos h,if_neg (by rw[hl];simp)]
theorem mPlain_layOld (h1:NL E p comp nd sid) (h2:NF E p comp sid) (h3:NK p comp sid) (h4:NB sid) (h:mayLayout p comp last=true) (hl:(p.lay != -1)=true):(({ p with known:=p.known.set p.lay.toNat x,unknown:=p.unknown++[p.known.getD p.lay.toNat (0,0)] }:PathV),true)=mPlain E p comp nd last x sid:=by
 unfold mPlain;rw[if_neg (by rw[show _=false from h1];simp),if_neg (by rw[show _=false from h2];simp),if_neg (by rw[show _=false from h3];simp),if_neg (by rw[show _=false from h4];simp),if_pos h,if_pos hl]
theorem mPlain_none (h1:NL E p comp nd sid) (h2:NF E p comp sid) (h3:NK p comp sid) (h4:NB sid) (h:mayLayout p comp last=false):(({ p with unknown:=p.unknown++[x] }:PathV),false)=mPlain E p comp nd last x sid:=by
 unfold mPlain;rw[if_neg (by rw[show _=false from h1];simp),if_neg (by rw[show _=false from h2];simp),if_neg (by rw[show _=false from h3];simp),if_neg (by rw[show _=false from h4];simp),if_neg (by rw[h];simp)]
theorem mWord_plain {lo hi ld:Nat} (h1:idHigh p ld=hi) (h2:p.s.extract lo hi=sid) (hw:isWrap sid=false) (hk:p.known≠[]):mWord E p comp lo ld nd last=mPlain E p comp nd last ((lo:Int),(hi:Int)) sid:=by
 unfold mWord;rw[h1];simp only[h2,hw,if_false,hk,Bool.false_eq_true]
end
end Go.Proofs.YtmgdbpjidkdegaaGreatDoor.Path
namespace Go.Proofs.YtmgdbpjidkdegaaGreatDoor.Path
open Go.RowKit Go.Proofs.YtmgdbpjidkdegaaGreatDoorW.PrintLast
section
variable {P:Program} {ops:Array Oper} {Q:Exit→Act→World→Prop}
theorem goesV_ {oi:Oper} {N:Option Tmp} {a:Act} {w:World} {K:Act→World→Prop} {f:FuncId} {fn:Func} {x:Operand} {asx:Array Operand} {ts:Array TypeId} (caps:Array Value) (hf:P.funcs[f]? = some fn) (hname:(fn.name == "runtime.NumGoroutine")=false) (hb:fn.body.isSome=true) (args:Array Value)
 (hw:Region.wanted oi (yielded ops a.tmps)=true) (hN:oi.dst=N) (hop:oi.op = .call { callee:=.value x,args:=asx,argTypes:=ts }) (hx:a.eval x = .func (.func f) #[] caps) (hargs:asx.map a.eval=args)
 (h:Calls P f (args++caps) w fun e w'=>∃ v,e = .returned v∧K (a.put N v) w'):if Region.wanted oi (yielded ops a.tmps)=true then Oper.wp P oi a w K Q else K (a.put N undef) w:=by
 refine call_ f (args++caps) hw hN ?_ h;have he:=enters_ hf hname hb (args++caps) w;unfold execOp
 simp[hop,resolve,Deferred.ofValue,invoke,hx,hargs,he]
end
end Go.Proofs.YtmgdbpjidkdegaaGreatDoor.Path
namespace Go.Proofs.YtmgdbpjidkdegaaGreatDoor.Path
open Go.RowKit Go.Proofs.YtmgdbpjidkdegaaGreatDoorW.PrintWords Go.Proofs.YtmgdbpjidkdegaaGreatDoor.Base
theorem pairs_set (x:Int×Int):∀ (l:List (Int×Int)) (j:Nat),((pairs l).set (j * 2) (.int .i64 x.1)).set (j * 2+1) (.int .i64 x.2)=pairs (l.set j x)
 | [],_=>by simp[pairs]
 | _::_,0=>by simp[pairs]
 | a::r,j+1=>by
  have e:(j+1) * 2=(j * 2+1)+1:=by omega
  have e2:(j+1) * 2+1=(j * 2+1+1)+1:=by omega
  rw[e2,e];simp only[pairs,List.set_cons_succ];rw[pairs_set x r j]
section
variable {w:World} {B b:Nat} {p:PathV} {vu vl u:Value} {g n c:Nat}
theorem set_step (H:PathAt w B b p (.slice (some ⟨g,0,none⟩) n c) vu vl u) (j:Nat) (x:Int×Int) :
 PathAt ((w.setCell ⟨g,j * 2,none⟩ (.int .i64 x.1)).setCell ⟨g,j * 2+1,none⟩ (.int .i64 x.2)) B b { p with known:=p.known.set j x } (.slice (some ⟨g,0,none⟩) n c) vu vl u ∧
  Moved w ((w.setCell ⟨g,j * 2,none⟩ (.int .i64 x.1)).setCell ⟨g,j * 2+1,none⟩ (.int .i64 x.2)) b (.slice (some ⟨g,0,none⟩) n c) vu vl (.slice (some ⟨g,0,none⟩) n c) vu vl:=by
 have hn:n=p.known.length:=by obtain ⟨A,c',e⟩:=own_slice H.ok;injection e
 have ho:(Value.slice (some ⟨g,0,none⟩) n c).ownBlock=some g:=rfl;have hgb:g≠b:=fun e=>H.nk (by rw[ho,e]);have hok:=H.ok;rw[← hn] at hok;obtain ⟨a1,a2⟩:=hok.stored (j * 2) (.int .i64 x.1);obtain ⟨a3,a4⟩:=a1.stored (j * 2+1) (.int .i64 x.2);rw[pairs_set] at a3
 have hug:vu.ownBlock≠some g:=by
  rcases H.ku with h | h
  ·rw[ho] at h;cases h
  ·exact fun e=>h (by rw[ho,e])
 have hlg:vl.ownBlock≠some g:=by
  rcases own_type_ne H.ol H.ok bG with h | h
  ·rw[h];intro e;cases e
  ·rw[ho] at h;exact h
 have hl:n=(p.known.set j x).length:=by rw[List.length_set];exact hn
 refine ⟨⟨H.base,(H.row.other (a:=⟨g,j * 2,none⟩) hgb _).other (a:=⟨g,j * 2+1,none⟩) hgb _,?_,?_,?_,H.nk,H.nu,H.nl,H.ku⟩,⟨rfl,rfl,rfl,by simp,?_,.inl rfl,.inl rfl,.inl rfl⟩⟩
 ·rw[hl] at a3;rw[← hl] at a3 ⊢;exact a3
 ·exact ownsRow_setCell_other (ownsRow_setCell_other H.ou (a:=⟨g,j * 2,none⟩) hug _) (a:=⟨g,j * 2+1,none⟩) hug _
 ·exact ownsRow_setCell_other (ownsRow_setCell_other H.ol (a:=⟨g,j * 2,none⟩) hlg _) (a:=⟨g,j * 2+1,none⟩) hlg _
 ·intro k hk _ h1 _ _;have hkg:k≠g:=fun e=>h1 (by rw[ho,e]);exact (Below.heap_setCell _ _ _ _ (by simpa using hkg)).trans (Below.heap_setCell _ _ _ _ (by simpa using hkg))
end
end Go.Proofs.YtmgdbpjidkdegaaGreatDoor.Path
