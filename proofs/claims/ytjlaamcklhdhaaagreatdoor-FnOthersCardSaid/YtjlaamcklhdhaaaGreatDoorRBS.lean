/- What the texts before left out. Condition: as told at each. -/
import Derived.Test.YtjlaamcklhdhaaaGreatDoorV1
import Derived.Test.YtjlaamcklhdhaaaGreatDoorV10
import Derived.Test.YtjlaamcklhdhaaaGreatDoorV11
import Derived.Test.YtjlaamcklhdhaaaGreatDoorV12
import Derived.Test.YtjlaamcklhdhaaaGreatDoorV13
import Derived.Test.YtjlaamcklhdhaaaGreatDoorV14
import Derived.Test.YtjlaamcklhdhaaaGreatDoorV15
import Derived.Test.YtjlaamcklhdhaaaGreatDoorV16
import Derived.Test.YtjlaamcklhdhaaaGreatDoorV18
import Derived.Test.YtjlaamcklhdhaaaGreatDoorV19
import Derived.Test.YtjlaamcklhdhaaaGreatDoorV2
import Derived.Test.YtjlaamcklhdhaaaGreatDoorV22
import Derived.Test.YtjlaamcklhdhaaaGreatDoorV3
import Derived.Test.YtjlaamcklhdhaaaGreatDoorV4
import Derived.Test.YtjlaamcklhdhaaaGreatDoorV5
import Derived.Test.YtjlaamcklhdhaaaGreatDoorV6
import Derived.Test.YtjlaamcklhdhaaaGreatDoorV8
import Derived.Test.YtjlaamcklhdhaaaGreatDoorV9
set_option linter.unusedVariables false
set_option linter.unusedSimpArgs false
namespace Go.Proofs.YtjlaamcklhdhaaaGreatDoor.Path
open Go.RowKit Go.Proofs.YtjlaamcklhdhaaaGreatDoorW.PrintWords Go.Proofs.YtjlaamcklhdhaaaGreatDoor.Base Go.Proofs.YtjlaamcklhdhaaaGreatDoor.Lower
section
variable {E : Env} {c k : ByteArray} (h1 : isLay c = isLay k) (h2 : isCon c = isCon k)
theorem mApply_as (lay : Bool) (p : PathV) (pre v : ByteArray) (x : Int × Int) (a : ByteArray) : mApply E lay (p.as a) pre x v = (mApply E lay p pre x v).map (PathV.as a) := by
 unfold mApply
 repeat' split
 all_goals rfl
include h1 h2 in
theorem mWord_as (p : PathV) (lo ld : Nat) (nd : Int) (last : Bool) (a : ByteArray) : mWord E (p.as a) c lo ld nd last = ((mWord E p k lo ld nd last).1.as a, (mWord E p k lo ld nd last).2) := by
 unfold mWord
 simp only [h1]
 have e1 : idHigh (p.as a) ld = idHigh p ld := rfl
 have e2 : (p.as a).s = p.s := rfl
 have e3 : (p.as a).known = p.known := rfl
 rw [e1, e2, e3]
 split
 ·unfold mWrap
  simp only
  split
  ·rfl
  ·rw [mApply_as, e2]
   cases mApply E (isLay k) p (prefOf ((p.s.extract lo (idHigh p ld)).extract 1 ((p.s.extract lo (idHigh p ld)).size - 1))) (((lo + 1 + (prefOf ((p.s.extract lo (idHigh p ld)).extract 1 ((p.s.extract lo (idHigh p ld)).size - 1))).size : Nat) : Int), ((idHigh p ld - 1 : Nat) : Int)) (lowS (p.s.extract (lo + 1 + (prefOf ((p.s.extract lo (idHigh p ld)).extract 1 ((p.s.extract lo (idHigh p ld)).size - 1))).size) (idHigh p ld - 1))) with
   | none => rfl
   | some q => rfl
 ·split
  ·rfl
  ·unfold mPlain mayLang mayKind mayLayout
   simp only [h1, h2]
   have e4 : (p.as a).lang = p.lang := rfl
   have e5 : (p.as a).kind = p.kind := rfl
   have e6 : (p.as a).typ = p.typ := rfl
   have e7 : (p.as a).lay = p.lay := rfl
   have e8 : mIdStr (p.as a) 0 = mIdStr p 0 := rfl
   rw [e4, e5, e6, e7, e8, e3]
   repeat' split
   all_goals rfl
include h1 h2 in
theorem mId_as (p : PathV) (i ld : Nat) (nd : Int) (last : Bool) (a : ByteArray) : mId E (p.as a) c i ld nd last = (mId E p k i ld nd last).as a := by
 unfold mId
 have e1 : (p.as a).cHigh = p.cHigh := rfl
 rw [e1, mWord_as h1 h2]
 split
 ·rfl
 ·unfold mNameEnd
  simp only
  have e2 : ∀ q : PathV, (q.as a).nEnd = q.nEnd := fun _ => rfl
  rw [e2]
  repeat' split
  all_goals rfl
include h1 h2 in
theorem doStep_as (sk : List Nat) (nd : Int) (i : Nat) (d : DoV) (a : ByteArray) : doStep E c sk nd i (d.as a) = (doStep E k sk nd i d).as a := by
 unfold doStep
 have e1 : (d.as a).p = d.p.as a := rfl
 have e2 : (d.p.as a).s = d.p.s := rfl
 have e3 : (d.as a).ld = d.ld := rfl
 have e4 : (d.p.as a).cHigh = d.p.cHigh := rfl
 have e5 : (d.p.as a).cLow = d.p.cLow := rfl
 rw [e1, e2, e3, e4, e5, mId_as h1 h2, mId_as h1 h2]
 split
 ·split
  ·rfl
  ·rfl
 ·split
  ·by_cases c1 : d.p.cHigh = -1
   ·by_cases c2 : 0 < d.ld
    ·by_cases c3 : 0 < i
     ·simp only [if_pos c1, if_pos c2, if_pos c3]; rfl
     ·simp only [if_pos c1, if_pos c2, if_neg c3]; rfl
    ·by_cases c3 : 0 < i
     ·simp only [if_pos c1, if_neg c2, if_pos c3]; rfl
     ·simp only [if_pos c1, if_neg c2, if_neg c3]; rfl
   ·by_cases c2 : d.p.cLow = -1
    ·by_cases c3 : 0 < i
     ·simp only [if_neg c1, if_pos c2, if_pos c3]; rfl
     ·simp only [if_neg c1, if_pos c2, if_neg c3]; rfl
    ·by_cases c3 : 0 < i
     ·simp only [if_neg c1, if_neg c2, if_pos c3]; rfl
     ·simp only [if_neg c1, if_neg c2, if_neg c3]; rfl
  ·rfl
include h1 h2 in
theorem doLoop_as (sk : List Nat) (nd : Int) (a : ByteArray) : ∀ (i : Nat) (d : DoV), doLoop E c sk nd i (d.as a) = (doLoop E k sk nd i d).as a
 | 0, _ => rfl
 | i + 1, d => by
  show doLoop E c sk nd i (doStep E c sk nd i (d.as a)) = (doLoop E k sk nd i (doStep E k sk nd i d)).as a
  rw [doStep_as h1 h2, doLoop_as sk nd a i]
include h1 in
theorem mSort2_as (p : PathV) (a : ByteArray) : mSort2 c (p.as a) = (mSort2 k p).as a := by
 unfold mSort2
 rw [h1]
 have e1 : (p.as a).typ = p.typ := rfl
 have e2 : (p.as a).base = p.base := rfl
 have e3 : nrm (p.as a).trim (p.as a).s = nrm p.trim p.s := rfl
 rw [e1, e2, e3]
 repeat' split
 all_goals rfl
theorem mSort3_as (p : PathV) (a : ByteArray) : mSort3 (p.as a) = (mSort3 p).as a := by
 unfold mSort3
 have e1 : (p.as a).typ = p.typ := rfl
 have e2 : (p.as a).lay = p.lay := rfl
 have e3 : (p.as a).known = p.known := rfl
 have e4 : (p.as a).cHigh = p.cHigh := rfl
 rw [e1, e2, e3, e4]
 split <;> rfl
theorem mSort1_as (sc : Nat) (p : PathV) (a : ByteArray) (h : (isCon a || isArch a) = (isCon p.comp || isArch p.comp)) : mSort1 E sc (p.as a) = (mSort1 E sc p).as a := by
 unfold mSort1
 have e0 : (p.as a).comp = a := rfl
 have e1 : (p.as a).typ = p.typ := rfl
 have e2 : (p.as a).s = p.s := rfl
 have e3 : (p.as a).known = p.known := rfl
 have e4 : (p.as a).nLow = p.nLow := rfl
 have e5 : (p.as a).nHigh = p.nHigh := rfl
 have e6 : mIdStr (p.as a) 0 = mIdStr p 0 := rfl
 have e7 : (p.as a).sec = p.sec := rfl
 simp only [e0, e2, e3, e4, e5, e6, e7, h]
 repeat' split
 all_goals rfl
include h1 h2 in
theorem mPath_as (h3 : isArch c = isArch k) (s : ByteArray) : mPath E c s = (mPath E k s).as c := by
 obtain ⟨T, hT⟩ : ∃ T : ByteArray, ⟨(mText s.data.toList).toArray⟩ = T := ⟨_, rfl⟩
 unfold mPath mDo mRun
 rw [hT]
 have e0 : (⟨mStart { pathZero with comp := c } T, 0, 0⟩ : DoV) = (⟨mStart { pathZero with comp := k } T, 0, 0⟩ : DoV).as c := rfl
 have e1 : (mStart { pathZero with comp := c } T).s = T := rfl
 have e2 : (mStart { pathZero with comp := k } T).s = T := rfl
 rw [e0, e1, e2, doLoop_as h1 h2]
 obtain ⟨D, hD⟩ : ∃ D, doLoop E k (mSkip T.data.toList) (mDots T.data.toList) T.size ⟨mStart { pathZero with comp := k } T, 0, 0⟩ = D := ⟨_, rfl⟩
 have hk : D.p.comp = k := by
  have h0 : (L T)[0]? = some 47 := by rw [← hT, L_mk, ← List.head?_eq_getElem?]; exact mText_head _
  have hI : In1 T k T.size ⟨mStart { pathZero with comp := k } T, 0, 0⟩ := In1.start rfl rfl rfl rfl rfl rfl rfl rfl rfl rfl rfl rfl rfl
  have h2 := (InD.loop (E := E) (sk := mSkip T.data.toList) (nd := mDots T.data.toList) h0 T.size _ (Nat.le_refl _) (.inl hI)).last h0
  rw [hD] at h2
  exact h2.hc
 rw [hD]
 unfold mEnd
 have e3 : mNamed (D.as c).p = (mNamed D.p).as c := rfl
 have e4 : (D.as c).sc = D.sc := rfl
 rw [e3, e4, mSort1_as D.sc (mNamed D.p) c (by show _ = (isCon D.p.comp || isArch D.p.comp); rw [hk, h2, h3]), mSort2_as h1, mSort3_as]
end
end Go.Proofs.YtjlaamcklhdhaaaGreatDoor.Path
