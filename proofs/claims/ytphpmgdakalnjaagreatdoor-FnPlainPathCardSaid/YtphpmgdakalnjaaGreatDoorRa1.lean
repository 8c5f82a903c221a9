/- Texts that the law leans on: Cuts, First, Sizes, Slashes. Condition: as told at each. -/
import Derived.Test.YtphpmgdakalnjaaGreatDoorKeep2Q
import Derived.Test.YtphpmgdakalnjaaGreatDoorQ1
import Derived.Test.YtphpmgdakalnjaaGreatDoorQ10
import Derived.Test.YtphpmgdakalnjaaGreatDoorQ11
import Derived.Test.YtphpmgdakalnjaaGreatDoorQ12
import Derived.Test.YtphpmgdakalnjaaGreatDoorQ13
import Derived.Test.YtphpmgdakalnjaaGreatDoorQ14
import Derived.Test.YtphpmgdakalnjaaGreatDoorQ15
import Derived.Test.YtphpmgdakalnjaaGreatDoorQ16
import Derived.Test.YtphpmgdakalnjaaGreatDoorQ17
import Derived.Test.YtphpmgdakalnjaaGreatDoorQ18
import Derived.Test.YtphpmgdakalnjaaGreatDoorQ19
import Derived.Test.YtphpmgdakalnjaaGreatDoorQ2
import Derived.Test.YtphpmgdakalnjaaGreatDoorQ3
import Derived.Test.YtphpmgdakalnjaaGreatDoorQ4
import Derived.Test.YtphpmgdakalnjaaGreatDoorQ5
import Derived.Test.YtphpmgdakalnjaaGreatDoorQ6
import Derived.Test.YtphpmgdakalnjaaGreatDoorQ7
import Derived.Test.YtphpmgdakalnjaaGreatDoorQ8
import Derived.Test.YtphpmgdakalnjaaGreatDoorQ9
import Derived.Test.YtphpmgdakalnjaaGreatDoorRaS
namespace Go.Proofs.YtphpmgdakalnjaaGreatDoor.Path
open Go.RowKit Go.Proofs.YtphpmgdakalnjaaGreatDoorW.PrintWords Go.Proofs.YtphpmgdakalnjaaGreatDoor.Base Go.Proofs.YtphpmgdakalnjaaGreatDoor.Total
structure Split (l pre n : List UInt8) : Prop where
 eq : l = pre ++ n
 slash : ∃ q, pre = q ++ [47]
 no : ∀ j : Nat, n[j]? ≠ some 47
theorem Split.behind {l pre n : List UInt8} (S : Split l pre n) : behind l = pre.length ∧ n = l.drop pre.length := by
 obtain ⟨q, hq⟩ := S.slash
 have hl : L (⟨l.toArray⟩ : ByteArray) = l := L_mk l
 have e1 : l[q.length]? = some 47 := by rw [S.eq, hq, List.append_assoc, List.getElem?_append_right (Nat.le_refl _), Nat.sub_self]; rfl
 obtain ⟨j, _, hb, hj, hk⟩ := last_slash ⟨l.toArray⟩ ⟨q.length, by rw [hl]; exact e1⟩
 rw [hl] at hb hj hk
 have : j = q.length := by
  rcases Nat.lt_trichotomy j q.length with h | h | h
  ·exact absurd e1 (hk _ h)
  ·exact h
  ·exfalso
   have hp : pre.length ≤ j := by rw [hq]; simp; omega
   rw [S.eq, List.getElem?_append_right hp] at hj
   exact S.no _ hj
 refine ⟨by rw [hb, this, hq]; simp, by rw [S.eq, List.drop_left]⟩
end Go.Proofs.YtphpmgdakalnjaaGreatDoor.Path
set_option linter.unusedVariables false
namespace Go.Proofs.YtphpmgdakalnjaaGreatDoor.Path
open Go.RowKit Go.Proofs.YtphpmgdakalnjaaGreatDoorW.PrintWords Go.Proofs.YtphpmgdakalnjaaGreatDoor.Base Go.Proofs.YtphpmgdakalnjaaGreatDoor.Total
structure Head (x : Int × Int) (p : PathV) : Prop where
 at_ : p.known[0]? = some x
 lay : p.lay = -1 ∨ 1 ≤ p.lay
theorem Head.len {x : Int × Int} {p : PathV} (h : Head x p) : 1 ≤ p.known.length := (List.getElem?_eq_some_iff.1 h.at_).1
end Go.Proofs.YtphpmgdakalnjaaGreatDoor.Path
namespace Go.Proofs.YtphpmgdakalnjaaGreatDoor.Path
open Go.RowKit Go.Proofs.YtphpmgdakalnjaaGreatDoorW.PrintWords Go.Proofs.YtphpmgdakalnjaaGreatDoor.Base
theorem sz_sub (s : ByteArray) (a b : Int) : (sub s a b).size ≤ s.size := extract_le _ _ _
theorem sz_frm (s : ByteArray) (a : Int) : (frm s a).size ≤ s.size := extract_le _ _ _
theorem sz_nrm (t : Bool) (s : ByteArray) : (nrm t s).size ≤ s.size := by
 unfold nrm
 split
 ·rw [← L_length, L_mk, ← L_length]
  unfold Lib.trimPrefix
  split
  ·rw [List.length_drop]; omega
  ·exact Nat.le_refl _
 ·exact Nat.le_refl _
section
variable {p : PathV} (O : PathIn p)
include O
theorem sz_name : (mName p).size ≤ 1000000 := Nat.le_trans (sz_frm _ _) O.sz
theorem sz_nameNoId : (mNameNoId p).size ≤ 1000000 := Nat.le_trans (sz_sub _ _ _) O.sz
theorem sz_dir : (mDir p).size ≤ 1000000 := by
 unfold mDir
 refine Nat.le_trans (sz_nrm _ _) ?_
 split
 ·exact (by decide : (1 : Nat) ≤ 1000000)
 ·exact Nat.le_trans (sz_sub _ _ _) O.sz
end
end Go.Proofs.YtphpmgdakalnjaaGreatDoor.Path
namespace Go.Proofs.YtphpmgdakalnjaaGreatDoor.Path
open Go.RowKit Go.Proofs.YtphpmgdakalnjaaGreatDoorW.PrintWords Go.Proofs.YtphpmgdakalnjaaGreatDoor.Base Go.Proofs.YtphpmgdakalnjaaGreatDoor.Lower
theorem eqL {a b : ByteArray} (h : L a = L b) : (a.toList == b.toList) = true := by rw [L_toList, L_toList, h]; simp
theorem joinL (a b : ByteArray) : L (a ++ ⟨#[47]⟩ ++ b) = L a ++ 47 :: L b := by rw [L_append, L_append, List.append_assoc]; rfl
theorem leadL (b : ByteArray) : L ((⟨#[47]⟩ : ByteArray) ++ b) = 47 :: L b := by rw [L_append]; rfl
end Go.Proofs.YtphpmgdakalnjaaGreatDoor.Path
