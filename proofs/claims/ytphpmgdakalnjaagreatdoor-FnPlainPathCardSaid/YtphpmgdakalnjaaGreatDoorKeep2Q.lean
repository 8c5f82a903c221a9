/- What a parsed path's parts are to each other. No condition. -/
import Derived.Test.YtphpmgdakalnjaaGreatDoorQ19
namespace Go.Proofs.YtphpmgdakalnjaaGreatDoor.Path
open Go.RowKit Go.Proofs.YtphpmgdakalnjaaGreatDoorW.PrintWords Go.Proofs.YtphpmgdakalnjaaGreatDoor.Base
theorem L_sub (s : ByteArray) (a b : Nat) : L (sub s (a : Int) (b : Int)) = ((L s).drop a).take (b - a) := L_extract s a b
theorem L_frm (s : ByteArray) (a : Nat) : L (frm s (a : Int)) = (L s).drop a := by
 show L (s.extract (a : Int).toNat s.size) = _
 rw [L_extract, Int.toNat_natCast]
 exact List.take_of_length_le (by rw [List.length_drop, L_length]; omega)
theorem list_split {l : List UInt8} {j : Nat} {c : UInt8} (h : l[j]? = some c) : l = l.take j ++ c :: l.drop (j + 1) := by
 obtain ⟨hj, e⟩ := List.getElem?_eq_some_iff.1 h
 have := List.take_append_drop j l
 rw [List.drop_eq_getElem_cons hj, e] at this
 exact this.symm
theorem mEnd_same (E : Env) (comp : ByteArray) (d : DoV) : ∃ t c l, mEnd E comp d = { mNamed d.p with typ := t, sec := c, lay := l } ∧ (l = d.p.lay ∨ l = -1) := by
 unfold mEnd
 obtain ⟨t1, c1, e1⟩ := mSort1_same E d.sc (mNamed d.p)
 rw [e1]
 obtain ⟨t2, e2⟩ := mSort2_same comp { mNamed d.p with typ := t1, sec := c1 }
 rw [e2]
 unfold mSort3
 split
 ·exact ⟨_, _, _, rfl, .inr rfl⟩
 ·exact ⟨_, _, _, rfl, .inl rfl⟩
structure Parts (co se : ByteArray) (p : PathV) : Prop where
 s : L p.s = mText (L se)
 trim : p.trim = false
 comp : p.comp = co
 hi : ∃ j : Nat, p.cHigh = (j : Int) + 1 ∧ (L p.s)[j]? = some 47
 lo : p.cLow = -1 ∨ ∃ i j : Nat, p.cLow = (i : Int) + 1 ∧ p.cHigh = (j : Int) + 1 ∧ i < j ∧ (L p.s)[i]? = some 47
 nLow : p.nLow = p.cHigh
theorem mPath_Parts (E : Env) (comp s : ByteArray) : Parts comp s (mPath E comp s) := by
 obtain ⟨T, d, hT, hl, h2, h3, h4, _⟩ := mPath_parts E comp s
 obtain ⟨t, c, l, e, _⟩ := mEnd_same E comp d
 rw [h2, e]
 have hc1 := h3.ch.1
 have hhi : ∃ j : Nat, d.p.cHigh = (j : Int) + 1 ∧ (L T)[j]? = some 47 := by
  rcases h4.hi with h | h
  ·rw [h] at hc1; omega
  ·exact h
 refine ⟨?_, h3.ht, h3.hc, ?_, ?_, rfl⟩
 ·show L d.p.s = _
  rw [h3.hs, hl]
 ·show ∃ j : Nat, d.p.cHigh = (j : Int) + 1 ∧ (L d.p.s)[j]? = some 47
  rw [h3.hs]; exact hhi
 ·show d.p.cLow = -1 ∨ ∃ i j : Nat, d.p.cLow = (i : Int) + 1 ∧ d.p.cHigh = (j : Int) + 1 ∧ i < j ∧ (L d.p.s)[i]? = some 47
  rw [h3.hs]
  obtain ⟨j, hj, _⟩ := hhi
  rcases h4.lo with h | ⟨i, hi, h47⟩
  ·exact .inl h
  ·rcases h3.cl with h | h
   ·exact .inl h
   ·exact .inr ⟨i, j, hi, hj, by omega, h47⟩
section
variable {comp s : ByteArray} {p : PathV}
theorem mDir_one (P : Parts comp s p) (h : p.cHigh = 1) : mDir p = ⟨#[47]⟩ := by
 unfold mDir
 rw [P.trim, if_pos h]
 rfl
theorem mDir_more (P : Parts comp s p) {j : Nat} (hj : p.cHigh = (j : Int) + 1) (h : j ≠ 0) : L (mDir p) = (L p.s).take j := by
 unfold mDir
 rw [P.trim, if_neg (by omega), show p.cHigh - 1 = (j : Int) by omega]
 exact L_sub p.s 0 j
theorem joined (P : Parts comp s p) : (mDir p = ⟨#[47]⟩ ∧ L p.s = 47 :: L (mName p)) ∨ L p.s = L (mDir p) ++ 47 :: L (mName p) := by
 obtain ⟨j, hj, h47⟩ := P.hi
 have hn : L (mName p) = (L p.s).drop (j + 1) := by
  unfold mName
  rw [hj]
  exact L_frm p.s (j + 1)
 have hs := list_split h47
 by_cases h : j = 0
 ·subst h
  exact .inl ⟨mDir_one P hj, by rw [hn]; exact hs⟩
 ·right
  rw [mDir_more P hj h, hn]
  exact hs
theorem above (P : Parts comp s p) (hno : ∀ i : Nat, ¬ ((L p.s)[i]? = some 47 ∧ (L p.s)[i + 1]? = some 47)) :
 if mIsBundle p = false ∨ (mContainer p).toList = [] then mContainerDir p = mDir p else L (mDir p) = L (mContainerDir p) ++ 47 :: L (mContainer p) := by
 obtain ⟨j, hj, h47⟩ := P.hi
 rcases P.lo with h | ⟨i, j', hi, hj', hij, h7⟩
 ·rw [if_pos (.inr (by unfold mContainer; rw [if_pos h, L_toList]; rfl))]
  unfold mContainerDir
  rw [if_pos (.inl h)]
 ·obtain rfl : j = j' := by omega
  have hc : L (mContainer p) = ((L p.s).drop (i + 1)).take (j - (i + 1)) := by
   unfold mContainer
   rw [if_neg (by omega), P.trim, hi, show p.cHigh - 1 = (j : Int) by omega]
   exact L_sub p.s (i + 1) j
  have hlen : j < (L p.s).length := (List.getElem?_eq_some_iff.1 h47).1
  by_cases hb : 3 ≤ p.typ ∧ p.typ ≤ 5
  ·have hne : ¬ (mIsBundle p = false ∨ (mContainer p).toList = []) := by
    rintro (h | h)
    ·unfold mIsBundle at h; simp [hb] at h
    ·rw [L_toList, hc] at h
     have hl := congrArg List.length h
     rw [List.length_take, List.length_drop, List.length_nil] at hl
     obtain rfl : j = i + 1 := by omega
     exact hno i ⟨h7, h47⟩
   rw [if_neg hne, hc, mDir_more P hj (by omega)]
   have hcd : L (mContainerDir p) = (L p.s).take i := by
    unfold mContainerDir
    rw [if_neg (by intro h; rcases h with h | h <;> first | omega | exact h hb), P.trim, show p.cLow - 1 = (i : Int) by omega]
    exact L_sub p.s 0 i
   rw [hcd]
   have h8 : ((L p.s).take j)[i]? = some 47 := by rw [List.getElem?_take, if_pos hij]; exact h7
   have := list_split h8
   rw [List.take_take, Nat.min_eq_left (by omega), List.drop_take] at this
   exact this
  ·rw [if_pos (.inl (by unfold mIsBundle; simpa using hb))]
   unfold mContainerDir
   rw [if_pos (.inr hb)]
theorem plainPath (P : Parts comp s p) (O : PathOk p) (hk : p.known ≠ []) : L (mBase0 p false false) = L (mDir p) ++ 47 :: L (mNameNoId p) ∨ (mDir p = ⟨#[47]⟩ ∧ L (mBase0 p false false) = 47 :: L (mNameNoId p)) := by
 obtain ⟨j, hj, h47⟩ := P.hi
 obtain ⟨n0, n1, n2⟩ := O.na
 have hnl := P.nLow
 obtain ⟨m, hm⟩ : ∃ m : Nat, p.nHigh = (m : Int) := ⟨p.nHigh.toNat, by omega⟩
 have hb : L (mBase0 p false false) = (L p.s).take m := by
  unfold mBase0
  cases hkn : p.known with
  | nil => exact absurd hkn hk
  | cons k0 rest =>
   simp only [Bool.false_eq_true, false_and, if_false, P.trim]
   have : mHigh p false = (m : Int) := by
    unfold mHigh
    simp only [Bool.false_eq_true, if_false]
    rw [if_neg (by omega), hm]
   rw [this]
   exact L_sub p.s 0 m
 have hn : L (mNameNoId p) = ((L p.s).drop (j + 1)).take (m - (j + 1)) := by
  unfold mNameNoId
  rw [hnl, hj, hm]
  exact L_sub p.s (j + 1) m
 have h8 : ((L p.s).take m)[j]? = some 47 := by rw [List.getElem?_take, if_pos (by omega)]; exact h47
 have hsp := list_split h8
 rw [List.take_take, Nat.min_eq_left (by omega), List.drop_take] at hsp
 by_cases h : j = 0
 ·subst h
  right
  refine ⟨mDir_one P hj, ?_⟩
  rw [hb, hn]
  exact hsp
 ·left
  rw [hb, mDir_more P hj h, hn]
  exact hsp
end
structure Alone (p : PathV) : Prop where
 fmt : p.fmt = -1
 kind : p.kind = -1
 lay : p.lay = -1
 pfmt : p.pfmt = -1
 pkind : p.pkind = -1
 play : p.play = -1
theorem mApply_alone {E : Env} {p q : PathV} {pre v : ByteArray} {x : Int × Int} (A : Alone p) (h : mApply E false p pre x v = some q) : Alone q := by
 unfold mApply at h
 simp only [Bool.false_and, Bool.false_eq_true, if_false] at h
 repeat' split at h
 all_goals first | (cases h; exact ⟨A.fmt, A.kind, A.lay, A.pfmt, A.pkind, A.play⟩) | cases h
theorem mWord_alone {E : Env} {p : PathV} {comp : ByteArray} {lo ld : Nat} {nd : Int} {last : Bool} (hl : isLay comp = false) (A : Alone p) : Alone (mWord E p comp lo ld nd last).1 := by
 unfold mWord
 simp only [hl]
 split
 ·unfold mWrap
  simp only
  split
  ·exact ⟨A.fmt, A.kind, A.lay, A.pfmt, A.pkind, A.play⟩
  ·split
   ·rename_i q hq
    exact mApply_alone A hq
   ·exact ⟨A.fmt, A.kind, A.lay, A.pfmt, A.pkind, A.play⟩
 ·split
  ·exact ⟨by unfold mFirst; simpa using A.fmt, A.kind, A.lay, A.pfmt, A.pkind, A.play⟩
  ·unfold mPlain mayKind mayLayout
   simp only [hl, Bool.false_and, Bool.and_false, ite_self, Bool.false_eq_true, if_false]
   repeat' split
   all_goals exact ⟨A.fmt, A.kind, A.lay, A.pfmt, A.pkind, A.play⟩
theorem mId_alone {E : Env} {p : PathV} {comp : ByteArray} {i ld : Nat} {nd : Int} {last : Bool} (hl : isLay comp = false) (A : Alone p) : Alone (mId E p comp i ld nd last) := by
 unfold mId
 split
 ·exact A
 ·obtain ⟨e, he, _⟩ := mNameEnd_eq (mWord E p comp (i + 1) ld nd last) i ld last
  rw [he]
  have h := mWord_alone (E := E) (lo := i + 1) (ld := ld) (nd := nd) (last := last) hl A
  exact ⟨h.fmt, h.kind, h.lay, h.pfmt, h.pkind, h.play⟩
theorem doStep_alone {E : Env} {comp : ByteArray} {sk : List Nat} {nd : Int} {i : Nat} {d : DoV} (hl : isLay comp = false) (A : Alone d.p) : Alone (doStep E comp sk nd i d).p := by
 unfold doStep
 split
 ·split
  ·exact A
  ·exact mId_alone hl A
 ·split
  ·have k1 : ∀ (q : PathV) (a b c : Int), Alone q → Alone { q with cHigh := a, cLow := b, sec := c } := fun q _ _ _ h => ⟨h.fmt, h.kind, h.lay, h.pfmt, h.pkind, h.play⟩
   have hq : Alone (if 0 < d.ld then mId E d.p comp i d.ld nd true else d.p) := by
    split
    ·exact mId_alone hl A
    ·exact A
   have h1 : Alone (if d.p.cHigh = -1 then { (if 0 < d.ld then mId E d.p comp i d.ld nd true else d.p) with cHigh := (i : Int) + 1 } else if d.p.cLow = -1 then { d.p with cLow := (i : Int) + 1 } else d.p) := by
    split
    ·exact k1 _ _ _ _ hq
    ·split
     ·exact k1 _ _ _ _ A
     ·exact A
   simp only
   split
   ·exact k1 _ _ _ _ h1
   ·exact h1
  ·exact A
theorem doLoop_alone {E : Env} {comp : ByteArray} {sk : List Nat} {nd : Int} (hl : isLay comp = false) : ∀ (i : Nat) (d : DoV), Alone d.p → Alone (doLoop E comp sk nd i d).p
 | 0, _, h => h
 | i + 1, d, h => by unfold doLoop; exact doLoop_alone hl i _ (doStep_alone hl h)
theorem mPath_alone (E : Env) (comp s : ByteArray) (hl : isLay comp = false) : Alone (mPath E comp s) := by
 obtain ⟨T, d, _, _, h2, _, _, h5⟩ := mPath_parts E comp s
 obtain ⟨t, c, l, e, hlay⟩ := mEnd_same E comp d
 have A : Alone d.p := by rw [h5]; exact doLoop_alone hl _ _ ⟨rfl, rfl, rfl, rfl, rfl, rfl⟩
 rw [h2, e]
 refine ⟨A.fmt, A.kind, ?_, A.pfmt, A.pkind, A.play⟩
 rcases hlay with h | h
 ·exact h.trans A.lay
 ·exact h
theorem alone_words {p : PathV} (A : Alone p) : (mKind p).toList = [] ∧ (mLayout p).toList = [] ∧ (mFmt p).toList = [] := by
 unfold mKind mLayout mFmt
 rw [if_pos A.pkind, if_pos A.play, if_pos A.pfmt, A.kind, A.lay, A.fmt]
 have : (mIdStr p (-1)).toList = [] := by rw [L_toList]; rfl
 exact ⟨this, this, this⟩
end Go.Proofs.YtphpmgdakalnjaaGreatDoor.Path
