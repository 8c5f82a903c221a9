/- Texts that the law leans on: Cuts, First, Sizes, Slashes. Condition: as told at each. -/
import Derived.Test.YtphpmgdakalnjaaGreatDoorKeep2Q
import Derived.Test.YtphpmgdakalnjaaGreatDoorQ1
import Derived.Test.YtphpmgdakalnjaaGreatDoorQ10
import Derived.Test.YtphpmgdakalnjaaGreatDoorQ11
import Derived.Test.YtphpmgdakalnjaaGreatDoorQ12
import Derived.Test.YtphpmgdakalnjaaGreatDoorQ13
import Derived.Test.YtphpmgdakalnjaaGreatDoorQ14
import Derived.Test.YtphpmgdakalnjaaGreatDoorQ15
import Derived.Test.YtphpmgdakalnjaaGreatDoorQ16
import Derived.Test.YtphpmgdakalnjaaGreatDoorQ17
import Derived.Test.YtphpmgdakalnjaaGreatDoorQ18
import Derived.Test.YtphpmgdakalnjaaGreatDoorQ19
import Derived.Test.YtphpmgdakalnjaaGreatDoorQ2
import Derived.Test.YtphpmgdakalnjaaGreatDoorQ3
import Derived.Test.YtphpmgdakalnjaaGreatDoorQ4
import Derived.Test.YtphpmgdakalnjaaGreatDoorQ5
import Derived.Test.YtphpmgdakalnjaaGreatDoorQ6
import Derived.Test.YtphpmgdakalnjaaGreatDoorQ7
import Derived.Test.YtphpmgdakalnjaaGreatDoorQ8
import Derived.Test.YtphpmgdakalnjaaGreatDoorQ9
import Derived.Test.YtphpmgdakalnjaaGreatDoorRaS
namespace Go.Proofs.YtphpmgdakalnjaaGreatDoor.Path
open Go.RowKit Go.Proofs.YtphpmgdakalnjaaGreatDoorW.PrintWords Go.Proofs.YtphpmgdakalnjaaGreatDoor.Base Go.Proofs.YtphpmgdakalnjaaGreatDoor.Total
structure Split (l pre n : List UInt8) : Prop where
 eq : l = pre ++ n
 slash : ∃ q, pre = q ++ [47]
 no : ∀ j : Nat, n[j]? ≠ some 47
theorem Split.behind {l pre n : List UInt8} (S : Split l pre n) : behind l = pre.length ∧ n = l.drop pre.length := by
 obtain ⟨q, hq⟩ := S.slash
 have hl : L (⟨l.toArray⟩ : ByteArray) = l := L_mk l
 have e1 : l[q.length]? = some 47 := by rw [S.eq, hq, List.append_assoc, List.getElem?_append_right (Nat.le_refl _), Nat.sub_self]; rfl
 obtain ⟨j, _, hb, hj, hk⟩ := last_slash ⟨l.toArray⟩ ⟨q.length, by rw [hl]; exact e1⟩
 rw [hl] at hb hj hk
 have : j = q.length := by
  rcases Nat.lt_trichotomy j q.length with h | h | h
  ·exact absurd e1 (hk _ h)
  ·exact h
  ·exfalso
   have hp : pre.length ≤ j := by rw [hq]; simp; omega
   rw [S.eq, List.getElem?_append_right hp] at hj
   exact S.no _ hj
 refine ⟨by rw [hb, this, hq]; simp, by rw [S.eq, List.drop_left]⟩
end Go.Proofs.YtphpmgdakalnjaaGreatDoor.Path
set_option linter.unusedVariables false
namespace Go.Proofs.YtphpmgdakalnjaaGreatDoor.Path
open Go.RowKit Go.Proofs.YtphpmgdakalnjaaGreatDoorW.PrintWords Go.Proofs.YtphpmgdakalnjaaGreatDoor.Base Go.Proofs.YtphpmgdakalnjaaGreatDoor.Total
structure Head (x : Int × Int) (p : PathV) : Prop where
 at_ : p.known[0]? = some x
 lay : p.lay = -1 ∨ 1 ≤ p.lay
theorem Head.len {x : Int × Int} {p : PathV} (h : Head x p) : 1 ≤ p.known.length := (List.getElem?_eq_some_iff.1 h.at_).1
end Go.Proofs.YtphpmgdakalnjaaGreatDoor.Path
namespace Go.Proofs.YtphpmgdakalnjaaGreatDoor.Path
open Go.RowKit Go.Proofs.YtphpmgdakalnjaaGreatDoorW.PrintWords Go.Proofs.YtphpmgdakalnjaaGreatDoor.Base
theorem sz_sub (s : ByteArray) (a b : Int) : (sub s a b).size ≤ s.size := extract_le _ _ _
theorem sz_frm (s : ByteArray) (a : Int) : (frm s a).size ≤ s.size := extract_le _ _ _
theorem sz_nrm (t : Bool) (s : ByteArray) : (nrm t s).size ≤ s.size := by
 unfold nrm
 split
 ·rw [← L_length, L_mk, ← L_length]
  unfold Lib.trimPrefix
  split
  ·rw [List.length_drop]; omega
  ·exact Nat.le_refl _
 ·exact Nat.le_refl _
section
variable {p : PathV} (O : PathIn p)
include O
theorem sz_name : (mName p).size ≤ 1000000 := Nat.le_trans (sz_frm _ _) O.sz
theorem sz_nameNoId : (mNameNoId p).size ≤ 1000000 := Nat.le_trans (sz_sub _ _ _) O.sz
theorem sz_dir : (mDir p).size ≤ 1000000 := by
 unfold mDir
 refine Nat.le_trans (sz_nrm _ _) ?_
 split
 ·exact (by decide : (1 : Nat) ≤ 1000000)
 ·exact Nat.le_trans (sz_sub _ _ _) O.sz
theorem sz_container : (mContainer p).size ≤ 1000000 := by
 unfold mContainer
 split
 ·exact Nat.zero_le _
 ·exact Nat.le_trans (sz_nrm _ _) (Nat.le_trans (sz_sub _ _ _) O.sz)
theorem sz_containerDir : (mContainerDir p).size ≤ 1000000 := by
 unfold mContainerDir
 split
 ·exact sz_dir O
 ·exact Nat.le_trans (sz_nrm _ _) (Nat.le_trans (sz_sub _ _ _) O.sz)
end
end Go.Proofs.YtphpmgdakalnjaaGreatDoor.Path
namespace Go.Proofs.YtphpmgdakalnjaaGreatDoor.Path
open Go.RowKit Go.Proofs.YtphpmgdakalnjaaGreatDoorW.PrintWords Go.Proofs.YtphpmgdakalnjaaGreatDoor.Base Go.Proofs.YtphpmgdakalnjaaGreatDoor.Lower
theorem norm_47 (c : UInt8) : hypB (lowB c) = 47 ↔ c = 47 := by
 have hn : ∀ d : UInt8, d = 47 ↔ d.toNat = 47 := fun d => ⟨fun h => by rw [h]; rfl, fun h => UInt8.toNat_inj.1 h⟩
 by_cases h1 : 65 ≤ c.toNat ∧ c.toNat ≤ 90
 ·have e1 : lowB c = c + 32 := by unfold lowB; rw [if_pos h1]
  have e2 : (c + 32).toNat = c.toNat + 32 := by
   rw [UInt8.toNat_add, show (32 : UInt8).toNat = 32 from rfl]
   omega
  have e3 : c + 32 ≠ 32 := by
   intro h
   have := congrArg UInt8.toNat h
   rw [e2, show (32 : UInt8).toNat = 32 from rfl] at this
   omega
  have e4 : hypB (c + 32) = c + 32 := by unfold hypB; rw [if_neg e3]
  rw [e1, e4, hn, hn, e2]
  omega
 ·have e1 : lowB c = c := by unfold lowB; rw [if_neg h1]
  rw [e1]
  unfold hypB
  by_cases h2 : c = 32
  ·rw [if_pos h2, h2]; decide
  ·rw [if_neg h2]
theorem mText_slashes {l : List UInt8} (h : ∀ i : Nat, ¬ (l[i]? = some 47 ∧ l[i + 1]? = some 47)) : ∀ i : Nat, ¬ ((mText l)[i]? = some 47 ∧ (mText l)[i + 1]? = some 47) := by
 have hlead : ∀ i : Nat, ¬ ((mLead l)[i]? = some 47 ∧ (mLead l)[i + 1]? = some 47) := by
  intro i
  unfold mLead
  split
  ·rintro ⟨_, h2⟩; simp at h2
  ·split
   ·exact h i
   ·rename_i h0 h1
    rintro ⟨h2, h3⟩
    cases i with
    | zero =>
     rw [List.getElem?_cons_succ, ← List.head?_eq_getElem?] at h3
     exact h1 h3
    | succ i =>
     rw [List.getElem?_cons_succ] at h2 h3
     exact h i ⟨h2, h3⟩
 intro i
 unfold mText
 simp only
 split
 ·rintro ⟨h2, h3⟩
  have e : ∀ k : Nat, (mLead l).dropLast[k]? = some 47 → (mLead l)[k]? = some 47 := by
   intro k hk
   rw [List.getElem?_dropLast] at hk
   split at hk
   ·exact hk
   ·cases hk
  exact hlead i ⟨e _ h2, e _ h3⟩
 ·exact hlead i
theorem norm_slashes {s : ByteArray} (h : ∀ i : Nat, ¬ ((L s)[i]? = some 47 ∧ (L s)[i + 1]? = some 47)) : ∀ i : Nat, ¬ ((L (norm s))[i]? = some 47 ∧ (L (norm s))[i + 1]? = some 47) := by
 intro i
 rw [L_norm, List.getElem?_map, List.getElem?_map, Option.map_eq_some_iff, Option.map_eq_some_iff]
 rintro ⟨⟨a, h1, h2⟩, ⟨b, h3, h4⟩⟩
 rw [(norm_47 a).1 h2] at h1
 rw [(norm_47 b).1 h4] at h3
 exact h i ⟨h1, h3⟩
theorem eqL {a b : ByteArray} (h : L a = L b) : (a.toList == b.toList) = true := by rw [L_toList, L_toList, h]; simp
theorem joinL (a b : ByteArray) : L (a ++ ⟨#[47]⟩ ++ b) = L a ++ 47 :: L b := by rw [L_append, L_append, List.append_assoc]; rfl
theorem leadL (b : ByteArray) : L ((⟨#[47]⟩ : ByteArray) ++ b) = 47 :: L b := by rw [L_append]; rfl
theorem emptyL {a : ByteArray} : (a.toList == []) = true ↔ a.toList = [] := beq_iff_eq
end Go.Proofs.YtphpmgdakalnjaaGreatDoor.Path
