/- What the texts before left out. Condition: as told at each. -/
import Derived.Test.YtjlaamcklhdhaaaGreatDoorQ1
import Derived.Test.YtjlaamcklhdhaaaGreatDoorQ10
import Derived.Test.YtjlaamcklhdhaaaGreatDoorQ11
import Derived.Test.YtjlaamcklhdhaaaGreatDoorQ12
import Derived.Test.YtjlaamcklhdhaaaGreatDoorQ13
import Derived.Test.YtjlaamcklhdhaaaGreatDoorQ14
import Derived.Test.YtjlaamcklhdhaaaGreatDoorQ15
import Derived.Test.YtjlaamcklhdhaaaGreatDoorQ16
import Derived.Test.YtjlaamcklhdhaaaGreatDoorQ18
import Derived.Test.YtjlaamcklhdhaaaGreatDoorQ19
import Derived.Test.YtjlaamcklhdhaaaGreatDoorQ2
import Derived.Test.YtjlaamcklhdhaaaGreatDoorQ20
import Derived.Test.YtjlaamcklhdhaaaGreatDoorQ21
import Derived.Test.YtjlaamcklhdhaaaGreatDoorQ22
import Derived.Test.YtjlaamcklhdhaaaGreatDoorQ23
import Derived.Test.YtjlaamcklhdhaaaGreatDoorQ3
import Derived.Test.YtjlaamcklhdhaaaGreatDoorQ4
import Derived.Test.YtjlaamcklhdhaaaGreatDoorQ5
import Derived.Test.YtjlaamcklhdhaaaGreatDoorQ6
import Derived.Test.YtjlaamcklhdhaaaGreatDoorQ8
import Derived.Test.YtjlaamcklhdhaaaGreatDoorQ9
set_option linter.unusedVariables false
set_option linter.unusedSimpArgs false
namespace Go.Proofs.YtjlaamcklhdhaaaGreatDoor.Path
open Go.RowKit Go.Proofs.YtjlaamcklhdhaaaGreatDoorW.PrintWords Go.Proofs.YtjlaamcklhdhaaaGreatDoor.Base Go.Proofs.YtjlaamcklhdhaaaGreatDoor.Total Go.Proofs.YtjlaamcklhdhaaaGreatDoor.Ext Go.Proofs.YtjlaamcklhdhaaaGreatDoor.PCore
theorem holds_nil (s : ByteArray) (hs : s.size ≤ 140737488355328) : Ev (fun k => laws_holds.f k s ⟨#[]⟩) true := by
 refine Ev.step (f := fun _ => some true) (fun k => ?_) (Ev.now _)
 have h0 : (⟨#[]⟩ : ByteArray).size = 0 := rfl
 have e : (s.extract 0 0).toList = (⟨#[]⟩ : ByteArray).toList := by rw [L_toList, L_toList, L_extract]; simp; rfl
 show laws_holds.l0 (k + 1) s ⟨#[]⟩ 0 = _
 simp only [laws_holds.l0, h0]
 rw [w64 (by omega) (by omega), if_pos (by omega), if_pos (by omega), if_pos (by omega)]
 show (if (s.extract 0 0).toList = _ then _ else _) = _
 rw [if_pos e]
theorem holds_in (s t : ByteArray) (w : World) (hs : s.size ≤ 140737488355328) (ht : t.size ≤ 140737488355328) (hr : inside (L t) (L s) = true) :
 Calls Tryz.prog 20 #[.string s, .string t] w fun e w' => e = .returned (.bool true) ∧ Below w.heap.size w w' := by
 by_cases h : 0 < t.size
 ·exact holds_calls s t true w hs ht h hr
 ·have : t = ⟨#[]⟩ := L_inj (List.eq_nil_of_length_eq_zero (by rw [L_length]; omega))
  subst this
  obtain ⟨k, hk⟩ := (holds_nil s hs).rounds
  exact (laws_holds.calls k s ⟨#[]⟩ true w hk).mono fun _ _ ⟨h1, h2⟩ => ⟨h1, h2.below⟩
end Go.Proofs.YtjlaamcklhdhaaaGreatDoor.Path
namespace Go.Proofs.YtjlaamcklhdhaaaGreatDoor.Path
open Go.RowKit Go.Proofs.YtjlaamcklhdhaaaGreatDoorW.PrintWords Go.Proofs.YtjlaamcklhdhaaaGreatDoor.Base Go.Proofs.YtjlaamcklhdhaaaGreatDoor.Total Go.Proofs.YtjlaamcklhdhaaaGreatDoor.Lower Go.Proofs.YtjlaamcklhdhaaaGreatDoor.Ext
theorem inside_piece (l : List UInt8) (a k : Nat) : inside ((l.drop a).take k) l = true := by
 induction l generalizing a with
 | nil => simp [inside]
 | cons c l ih =>
  cases a with
  | zero =>
   unfold inside
   rw [List.drop_zero, List.isPrefixOf_iff_prefix.2 (List.take_prefix _ _)]
   rfl
  | succ a =>
   unfold inside
   rw [List.drop_succ_cons, ih a, Bool.or_true]
section
variable {st : SiteV} {comp s : ByteArray} {p : PathV} (K : PathKS st comp s) (hp : mPath (envOf st) comp (norm s) = p)
include K hp
theorem kUnk : (∀ l ∈ mUnk p, inside (L l) (L (mName p)) = true) ∧ (mUnk p ≠ [] → 0 < (mIds p).length) := by
 obtain ⟨T, q, n, e, sc, r, P, htr, hc, hr, hT⟩ := low_PW K hp
 have I : UI (lastB T) r := by rw [hr]; exact UI.all _ _ _ _ _
 obtain ⟨l1, l2, l3, l4⟩ := P.lists
 rw [l2, P.name]
 refine ⟨fun l hl => ?_, fun h => ?_⟩
 ·obtain ⟨a, b, rfl⟩ := I.unk l hl
  rw [L_extract]
  exact inside_piece _ _ _
 ·rcases P.words with ⟨_, _, h1, _⟩ | ⟨h1, _⟩
  ·rw [h1] at h; exact absurd rfl h
  ·unfold mIds
   rw [List.length_map]
   exact List.length_pos_iff.2 h1
end
end Go.Proofs.YtjlaamcklhdhaaaGreatDoor.Path
