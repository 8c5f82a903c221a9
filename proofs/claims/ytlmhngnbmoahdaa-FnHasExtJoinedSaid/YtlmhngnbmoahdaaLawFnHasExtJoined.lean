/- The extension of a path is that of its last part, whatever folder it stands in: HasExt of a folder, a slash and a name is HasExt of the name, there is none behind a slash at the end, and there is one where '.x' is laid at the end. No condition. -/
import Derived.Test.YtlmhngnbmoahdaaRows
import Derived.Test.YtlmhngnbmoahdaaExt
import Derived.WalkKit
import Derived.ProofKit
import Derived.OpenShut
import Derived.ShutString
import Derived.ChangeOld
import Derived.Below
import Derived.SizedLaws
namespace Go.Proofs.Ytlmhngnbmoahdaa.fnHasExtJoined
open Go.ChangeShapes Go.WideShapes Go.ChangeAt Go.RowKit
open Go.ChangeMaps (open_string shut_string)
open Go.Proofs.YtlmhngnbmoahdaaW.PrintWords Go.Proofs.Ytlmhngnbmoahdaa.Base Go.Proofs.Ytlmhngnbmoahdaa.Ext Go.Proofs.Ytlmhngnbmoahdaa.PCore

theorem hasExt_is (s : ByteArray) (r : Bool) (w : World) (hs : s.size ≤ 140737488355328) (hr : ext (L s) = r) :
    Calls Try.prog 6 #[.string s] w fun e w' => e = .returned (.bool r) ∧ Drawn0 w w' := by
  obtain ⟨k, hk⟩ := (ev_HasExt s hs).rounds
  exact impl_HasExt.calls k s r w (by rw [hk, hr])
theorem known_is (s : ByteArray) (r : Bool) (w : World) (hs : s.size ≤ 140737488355328) (hr : ascii (L s) = r) :
    Calls Try.prog 4 #[.string s] w fun e w' => e = .returned (.bool r) ∧ Drawn0 w w' := by
  obtain ⟨k, hk⟩ := (ev_WordKnown s hs).rounds
  exact spec_WordKnown.calls k s r w (by rw [hk, hr])
theorem holds_is (s t : ByteArray) (r : Bool) (w : World) (hs : s.size ≤ 140737488355328) (ht : t.size ≤ 140737488355328) (ht0 : 0 < t.size) (hr : inside (L t) (L s) = r) :
    Calls Try.prog 5 #[.string s, .string t] w fun e w' => e = .returned (.bool r) ∧ Drawn0 w w' := by
  obtain ⟨k, hk⟩ := (ev_holds s t hs ht ht0).rounds
  exact laws_holds.calls k s t r w (by rw [hk, hr])

theorem L_slash : L (⟨#[47]⟩ : ByteArray) = [47] := rfl
theorem L_x : L (⟨#[46, 120]⟩ : ByteArray) = [46, 120] := rfl

theorem walk_big (a b : ByteArray) (w : World) (h : 2147483647 < a.size ∨ 2147483647 < b.size) :
    Calls Try.prog 3 #[.string a, .string b] w fun e w' => e = .returned (.bool true) ∧ Below w.heap.size w w' := by
  by_cases h1 : 2147483647 < a.size
  · go_enter Try.func3, Try.ntmps3
    go_wp2
    go_ret
    exact ⟨rfl, Below.refl _ _⟩
  · have h2 : 2147483647 < b.size := by omega
    go_enter Try.func3, Try.ntmps3
    go_wp2
    go_ret
    exact ⟨rfl, Below.refl _ _⟩

theorem walk_unknown (a b : ByteArray) (w : World) (h1 : a.size ≤ 2147483647) (h2 : b.size ≤ 2147483647) (h : 2000 < a.size + b.size ∨ ascii (L a) = false ∨ ascii (L b) = false ∨ inside [47] (L b) = true) :
    Calls Try.prog 3 #[.string a, .string b] w fun e w' => e = .returned (.bool true) ∧ Below w.heap.size w w' := by
  by_cases h3 : 2000 < a.size + b.size
  · clear h
    go_enter Try.func3, Try.ntmps3
    go_wp2
    go_ret
    exact ⟨rfl, Below.refl _ _⟩
  cases ha : ascii (L a) with
  | false =>
    have c1 := fun w => known_is a false w (by omega) ha
    clear h ha
    go_enter Try.func3, Try.ntmps3
    go_wp2_with (go_at_call 4; (with_reducible refine (c1 _).mono ?_); rintro e w' ⟨rfl, ⟨nd, rfl⟩⟩)
    go_ret
    exact ⟨rfl, Drawn0.below (Drawn0.step (Drawn0.refl _) _)⟩
  | true =>
    have c1 := fun w => known_is a true w (by omega) ha
    cases hb : ascii (L b) with
    | false =>
      have c2 := fun w => known_is b false w (by omega) hb
      clear h ha hb
      go_enter Try.func3, Try.ntmps3
      go_wp2_with fail
      (with_reducible refine (c1 _).mono ?_)
      rintro e w' ⟨rfl, ⟨nd, rfl⟩⟩
      go_wp2_with fail
      (with_reducible refine (c2 _).mono ?_)
      rintro e w' ⟨rfl, ⟨nd2, rfl⟩⟩
      go_wp2_with fail
      go_ret
      exact ⟨rfl, Drawn0.below (Drawn0.step (Drawn0.refl _) _)⟩
    | true =>
      have c2 := fun w => known_is b true w (by omega) hb
      have hi : inside [47] (L b) = true := by
        rcases h with h | h | h | h
        · exact absurd h h3
        · rw [ha] at h; cases h
        · rw [hb] at h; cases h
        · exact h
      have c3 := fun w => holds_is b ⟨#[47]⟩ true w (by omega) (by decide) (by decide) hi
      clear h ha hb hi
      go_enter Try.func3, Try.ntmps3
      go_wp2_with fail
      (with_reducible refine (c1 _).mono ?_)
      rintro e w' ⟨rfl, ⟨nd, rfl⟩⟩
      go_wp2_with fail
      (with_reducible refine (c2 _).mono ?_)
      rintro e w' ⟨rfl, ⟨nd2, rfl⟩⟩
      go_wp2_with fail
      (with_reducible refine (c3 _).mono ?_)
      rintro e w' ⟨rfl, ⟨nd3, rfl⟩⟩
      go_wp2_with fail
      go_ret
      exact ⟨rfl, Drawn0.below (Drawn0.step (Drawn0.refl _) _)⟩

set_option maxHeartbeats 400000 in
theorem walk_known (a b : ByteArray) (w : World) (h3 : a.size + b.size ≤ 2000) (ha : ascii (L a) = true) (hb : ascii (L b) = true) (hi : inside [47] (L b) = false) :
    Calls Try.prog 3 #[.string a, .string b] w fun e w' => e = .returned (.bool true) ∧ Below w.heap.size w w' := by
  have hn : ∀ c ∈ L b, c ≠ 47 := by
    rw [inside_one, decide_eq_false_iff_not] at hi
    intro c hc e; subst e; exact hi hc
  have c1 := fun w => known_is a true w (by omega) ha
  have c2 := fun w => known_is b true w (by omega) hb
  have c3 := fun w => holds_is b ⟨#[47]⟩ false w (by omega) (by decide) (by decide) hi
  have s1 : (a ++ (⟨#[47]⟩ : ByteArray)).size = a.size + 1 := by rw [size_append]; rfl
  have s2 : ((a ++ (⟨#[47]⟩ : ByteArray)) ++ b).size = a.size + 1 + b.size := by rw [size_append, s1]
  have s3 : (b ++ (⟨#[47]⟩ : ByteArray)).size = b.size + 1 := by rw [size_append]; rfl
  have s4 : (((a ++ (⟨#[47]⟩ : ByteArray)) ++ b) ++ (⟨#[46, 120]⟩ : ByteArray)).size = a.size + 1 + b.size + 2 := by rw [size_append, s2]; rfl
  obtain ⟨x, hx⟩ : ∃ x, ext (L b) = x := ⟨_, rfl⟩
  have l1 : ext (L ((a ++ (⟨#[47]⟩ : ByteArray)) ++ b)) = x := by
    rw [L_append, L_append, L_slash, List.append_assoc, ← hx]; exact ext_joined (L a) (L b) hn
  have l3 : ext (L (b ++ (⟨#[47]⟩ : ByteArray))) = false := by
    rw [L_append, L_slash]; simp [ext, ptR]
  have l4 : ext (L (((a ++ (⟨#[47]⟩ : ByteArray)) ++ b) ++ (⟨#[46, 120]⟩ : ByteArray))) = true := by
    rw [L_append, L_x]; simp [ext, ptR]
  have c4 := fun w => hasExt_is ((a ++ (⟨#[47]⟩ : ByteArray)) ++ b) x w (by omega) l1
  have c5 := fun w => hasExt_is b x w (by omega) hx
  have c6 := fun w => hasExt_is (b ++ (⟨#[47]⟩ : ByteArray)) false w (by omega) l3
  have c7 := fun w => hasExt_is (((a ++ (⟨#[47]⟩ : ByteArray)) ++ b) ++ (⟨#[46, 120]⟩ : ByteArray)) true w (by omega) l4
  have b1 : (a ++ (⟨#[47]⟩ : ByteArray)).size ≤ 3000 := by omega
  have b2 : ((a ++ (⟨#[47]⟩ : ByteArray)) ++ b).size ≤ 3000 := by omega
  clear ha hb hi hn hx l1 l3 l4 s1 s2 s3 s4
  cases x
  all_goals
    go_enter Try.func3, Try.ntmps3
    go_wp2_with fail
    (with_reducible refine (c1 _).mono ?_)
    rintro e w' ⟨rfl, ⟨nd, rfl⟩⟩
    go_wp2_with fail
    (with_reducible refine (c2 _).mono ?_)
    rintro e w' ⟨rfl, ⟨nd2, rfl⟩⟩
    go_wp2_with fail
    (with_reducible refine (c3 _).mono ?_)
    rintro e w' ⟨rfl, ⟨nd3, rfl⟩⟩
    go_wp2_with fail
    (with_reducible refine (c4 _).mono ?_)
    rintro e w' ⟨rfl, ⟨nd4, rfl⟩⟩
    go_wp2_with fail
    (with_reducible refine (c5 _).mono ?_)
    rintro e w' ⟨rfl, ⟨nd5, rfl⟩⟩
    go_wp2_with fail
    (with_reducible refine (c6 _).mono ?_)
    rintro e w' ⟨rfl, ⟨nd6, rfl⟩⟩
    go_wp2_with fail
    (with_reducible refine (c7 _).mono ?_)
    rintro e w' ⟨rfl, ⟨nd7, rfl⟩⟩
    go_wp2_with fail
    go_ret
    exact ⟨rfl, Drawn0.below (Drawn0.step (Drawn0.refl _) _)⟩

theorem walk (a b : ByteArray) (w : World) : Calls Try.prog 3 #[.string a, .string b] w fun e w' => e = .returned (.bool true) ∧ Below w.heap.size w w' := by
  by_cases h1 : 2147483647 < a.size
  · exact walk_big a b w (.inl h1)
  by_cases h2 : 2147483647 < b.size
  · exact walk_big a b w (.inr h2)
  by_cases h : 2000 < a.size + b.size ∨ ascii (L a) = false ∨ ascii (L b) = false ∨ inside [47] (L b) = true
  · exact walk_unknown a b w (by omega) (by omega) h
  · simp only [not_or, Bool.not_eq_false, Bool.not_eq_true] at h
    obtain ⟨h3, h4, h5, h6⟩ := h
    exact walk_known a b w (by omega) h4 h5 h6

theorem own : ownKnob Try.prog.godebug = none := by kernel_rfl
set_option maxRecDepth 100000 in
theorem lifted (os : Os) (started : os.Started) (H : Type) (enc : TypeId × Value → H) :
    ReturnsInHanded {} Try.checked os 3 .any (Rows.fnHasExtJoinedSpec.pre6 enc Try.prog Try.f3 Rows.fnHasExtJoinedRow.domain false) (Rows.fnHasExtJoinedSpec.post enc Try.prog Try.f3 false true false false) := by
  refine returnsInHanded_of_change_sized (C := Try.checked) own started (by kernel_rfl) Try.func3
    (ChangeSpec.witness6 (enc := enc) (C := Try.checked) false ⟨#[], #[.string ByteArray.empty, .string ByteArray.empty], []⟩ 8 (by kernel_rfl) (by kernel_rfl) (by kernel_rfl) (by kernel_rfl)) ?_
  intro W base args ds gs before hval0 hW hcnd hsz0 _
  have hval : ∀ (j : Nat) t v, Try.f3.params[j]? = some t → args[j]? = some v → Value.okWide Try.prog W .any base t v := hval0
  have hW' := hW
  obtain ⟨p, q, hA0, hV, rfl, hfz, hnd⟩ := hW
  have hA : DataW.TrodAll enc Try.prog W 0 (fun _ => true) true Try.f3.params.toList args.toList ds p := hA0
  rw [Try.params3] at hA hval
  obtain ⟨v0, vs0, d0, ds0, p0, q0, hargs, rfl, rfl, h0, r0⟩ := trodAll_cons hA
  obtain ⟨v1, vs1, d1, ds1, p1, q1, rfl, rfl, rfl, h1, r1⟩ := trodAll_cons r0
  obtain ⟨rfl, rfl, rfl⟩ := trodAll_nil r1
  obtain rfl : args = #[v0, v1] := by cases args; simp_all
  obtain ⟨rfl, rfl⟩ := trodVars_none hV
  obtain ⟨a0, rfl, rfl, rfl, y0⟩ := open_string Try.underlying9 (hval 0 9 v0 rfl rfl) h0
  obtain ⟨a1, rfl, rfl, rfl, y1⟩ := open_string Try.underlying9 (hval 1 9 v1 rfl rfl) h1
  clear hA0 hval0 hsz0
  refine (walk a0 a1 W).mono fun e W' ⟨he, bel⟩ => ?_
  subst he
  exact ⟨_, rfl, _, _, _, [], _, [], hW', trodAll_mk1 (shut_bool Try.underlying4 _), (trodAll_cons_mk (shut_string Try.underlying9 y0) (trodAll_cons_mk (shut_string Try.underlying9 y1) trodAll_mk0)), rfl, bel.frame _, fun h => by cases h⟩
theorem over : Rows.fnHasExtJoinedRow.holds Try.pinned (OpenSpec.ofChange Rows.fnHasExtJoinedSpec) :=
  OpenClaim.holds_of_wide 3 Try.f3 rfl rfl rfl rfl rfl rfl rfl ⟨rfl, rfl, rfl, rfl, rfl⟩ rfl rfl rfl rfl rfl (by kernel_rfl) Try.func3 (by kernel_rfl)
    (of_decide_eq_true (by kernel_rfl)) (by unfold Func.isWrapper; first | (rw [if_pos (by decide +kernel)]; kernel_rfl) | (rw [if_neg (by decide +kernel)]; exact ⟨rfl, rfl⟩))
    (fun os started H enc _ => lifted os started H enc)
end Go.Proofs.Ytlmhngnbmoahdaa.fnHasExtJoined
namespace Go.Proofs.Ytlmhngnbmoahdaa
theorem fnHasExtJoined_holds : Rows.FnHasExtJoinedSaid := fnHasExtJoined.over
#print axioms fnHasExtJoined_holds
end Go.Proofs.Ytlmhngnbmoahdaa
