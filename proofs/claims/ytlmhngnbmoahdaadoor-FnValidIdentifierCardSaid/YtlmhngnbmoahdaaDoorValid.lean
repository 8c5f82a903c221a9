/- What the doors Normalize and ValidIdentifier answer on ASCII text. Condition: the text is ASCII and no longer than the form's reach. -/
import Derived.Test.YtlmhngnbmoahdaaDoorNorm
namespace Go.Proofs.YtlmhngnbmoahdaaDoor.Norm
open Go.RowKit Go.Proofs.YtlmhngnbmoahdaaDoorW.PrintWords Go.Proofs.YtlmhngnbmoahdaaDoor.Base Go.Proofs.YtlmhngnbmoahdaaDoor.Lower Go.Proofs.YtlmhngnbmoahdaaDoor.Index

theorem implNormalize_calls (s : ByteArray) (w : World) (hs : s.size ≤ 140737488351232) (ha : ∀ c ∈ L s, c.toNat ≤ 127) :
    Calls Tryd.prog 6 #[.string s] w fun e w' => e = .returned (.string (norm s)) ∧ Below w.heap.size w w' := by
  have h1 := fun w => normalizeBasic_calls s w hs ha
  clear ha
  go_enter Tryd.func6, Tryd.ntmps6
  go_wp2_with fail
  (with_reducible refine (h1 _).mono ?_)
  rintro e w1 ⟨rfl, HB1⟩
  have HB1 := Aside0.mk HB1
  go_wp2_with fail
  go_ret
  exact ⟨rfl, HB1.out⟩

theorem specValid_calls (s : ByteArray) (r : Bool) (w : World) (hs : s.size ≤ 140737488351232) (hr : ((norm s).toList == s.toList) = r) :
    Calls Tryd.prog 10 #[.string s] w fun e w' => e = .returned (.bool r) ∧ Below w.heap.size w w' := by
  have h1 := fun w => normalize_calls s w (by omega)
  go_enter Tryd.func10, Tryd.ntmps10
  go_wp2_with fail
  (with_reducible refine (h1 _).mono ?_)
  rintro e w1 ⟨rfl, HB1⟩
  have HB1 := Aside0.mk HB1
  go_wp2_with fail
  go_ret
  exact ⟨rfl, HB1.out⟩

theorem valid_calls (s : ByteArray) (r : Bool) (w : World) (hs : s.size ≤ 140737488351232) (ha : ∀ c ∈ L s, c.toNat ≤ 127) (hr : (s.toList == (norm s).toList) = r) :
    Calls Tryd.prog 9 #[.string s] w fun e w' => e = .returned (.bool r) ∧ Below w.heap.size w w' := by
  have h1 := fun w => normalizeBasic_calls s w hs ha
  clear ha
  have hv : Calls Tryd.prog 13 #[.string s] w fun e w' => (if r then e = .returned .nilIface else ∃ a, e = .returned (.iface 41 (.pointer (some a)))) ∧ Below w.heap.size w w' := by
    cases r
    all_goals
      go_enter Tryd.func13, Tryd.ntmps13
      go_wp2_with fail
      (with_reducible refine (h1 _).mono ?_)
      rintro e w1 ⟨rfl, HB1⟩
      have HB1 := Aside0.mk HB1
      go_wp2
      go_ret
    · exact ⟨⟨_, rfl⟩, HB1.out.alloc HB1.out.size _⟩
    · exact ⟨rfl, HB1.out⟩
  cases r
  · go_enter Tryd.func9, Tryd.ntmps9
    go_wp2_with fail
    (with_reducible refine hv.mono ?_)
    rintro e w1 ⟨⟨a, rfl⟩, HB1⟩
    have HB1 := Aside0.mk HB1
    go_wp2_with fail
    go_ret
    exact ⟨rfl, HB1.out⟩
  · go_enter Tryd.func9, Tryd.ntmps9
    go_wp2_with fail
    (with_reducible refine hv.mono ?_)
    rintro e w1 ⟨rfl, HB1⟩
    have HB1 := Aside0.mk HB1
    go_wp2_with fail
    go_ret
    exact ⟨rfl, HB1.out⟩

end Go.Proofs.YtlmhngnbmoahdaaDoor.Norm
