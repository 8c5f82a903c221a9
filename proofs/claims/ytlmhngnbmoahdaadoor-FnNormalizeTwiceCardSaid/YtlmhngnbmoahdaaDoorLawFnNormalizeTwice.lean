/- A normal form is its own, has no great letters and no spaces, and is as long as the text: of every text of ASCII of at most 2,000 bytes. No condition beyond the law's own guards; the three tables of Go's library that the row lists start as the program's text lays them (the tie is given). -/
import Derived.Test.YtlmhngnbmoahdaaDoorRowKit
import Derived.Test.YtlmhngnbmoahdaaDoorValid
import Derived.Test.YtlmhngnbmoahdaaDoorNrm
import Derived.Test.YtlmhngnbmoahdaaDoorSmall
namespace Go.Proofs.YtlmhngnbmoahdaaDoor.fnNormalizeTwice
open Go.ChangeShapes Go.WideShapes Go.ChangeAt Go.RowKit
open Go.Proofs.YtlmhngnbmoahdaaDoorW.PrintWords Go.Proofs.YtlmhngnbmoahdaaDoor.Base Go.Proofs.YtlmhngnbmoahdaaDoor.Ext Go.Proofs.YtlmhngnbmoahdaaDoor.Lower Go.Proofs.YtlmhngnbmoahdaaDoor.Norm Go.Proofs.YtlmhngnbmoahdaaDoor.Nrm

theorem walk_big (a : ByteArray) (w : World) (h : 2000 < a.size) :
    Calls Tryd.prog 3 #[.string a] w fun e w' => e = .returned (.bool true) ∧ Below w.heap.size w w' := by
  by_cases h1 : 2147483647 < a.size
  all_goals
    go_enter Tryd.func3, Tryd.ntmps3
    go_wp2_with fail
    go_ret
    exact ⟨rfl, Below.refl _ _⟩
theorem walk_unknown (a : ByteArray) (w : World) (h : a.size ≤ 2000) (ha : ascii (L a) = false) :
    Calls Tryd.prog 3 #[.string a] w fun e w' => e = .returned (.bool true) ∧ Below w.heap.size w w' := by
  have c1 := fun w => known_is a false w (by omega) ha
  clear ha
  go_enter Tryd.func3, Tryd.ntmps3
  go_wp2_with fail
  (with_reducible refine (c1 _).mono ?_)
  rintro e w' ⟨rfl, ⟨nd, rfl⟩⟩
  go_wp2_with fail
  go_ret
  exact ⟨rfl, Drawn0.below (Drawn0.step (Drawn0.refl _) _)⟩

set_option maxHeartbeats 400000 in
theorem walk_known (a : ByteArray) (w : World) (h : a.size ≤ 2000) (ha : ascii (L a) = true) :
    Calls Tryd.prog 3 #[.string a] w fun e w' => e = .returned (.bool true) ∧ Below w.heap.size w w' := by
  have hc := ascii_all a ha
  have c1 := fun w => known_is a true w (by omega) ha
  have c2 := fun w => implNormalize_calls a w (by omega) hc
  obtain ⟨n, hn⟩ : ∃ n, norm a = n := ⟨_, rfl⟩
  have hsz : n.size = a.size := by rw [← hn, norm_size]
  have c3 := fun w => implNormalize_calls n w (by omega) (by rw [← hn]; exact norm_ascii a hc)
  have e3 : norm n = n := by rw [← hn]; exact norm_norm a
  have c4 := fun w => small_calls n w (by omega)
  have e4 : low n = n := by rw [← hn]; exact low_norm a
  have c5 := fun w => holds_is n ⟨#[32]⟩ false w (by omega) (by decide) (by decide) (by
    show inside [32] (L n) = false
    rw [inside_one, decide_eq_false_iff_not]
    intro hm
    rw [← hn, L_norm] at hm
    obtain ⟨d, _, hd⟩ := List.mem_map.1 hm
    exact nrm_32 d hd)
  rw [hn] at c2
  rw [e3] at c3
  rw [e4] at c4
  have hs2 : ((n.size : Int) == (a.size : Int)) = true := by rw [beq_iff_eq, hsz]
  have hs3 : (n.size == a.size) = true := by rw [beq_iff_eq, hsz]
  clear ha hc hn e3 e4 hsz
  go_enter Tryd.func3, Tryd.ntmps3
  go_wp2_with fail
  (with_reducible refine (c1 _).mono ?_)
  rintro e w1 ⟨rfl, ⟨nd, rfl⟩⟩
  go_wp2_with fail
  (with_reducible refine (c2 _).mono ?_)
  rintro e w2 ⟨rfl, b2⟩
  have B2 := Aside0.mk b2
  clear b2
  go_wp2_with fail
  (with_reducible refine (c3 _).mono ?_)
  rintro e w3 ⟨rfl, b3⟩
  have B3 := Aside0.mk b3
  clear b3
  go_wp2_with fail
  (with_reducible refine (c4 _).mono ?_)
  rintro e w4 ⟨rfl, b4⟩
  have B4 := Aside0.mk b4
  clear b4
  go_wp2_with fail
  (with_reducible refine (c5 _).mono ?_)
  rintro e w5 ⟨rfl, ⟨nd5, rfl⟩⟩
  go_wp2_with fail
  go_ret
  exact ⟨rfl, below_step (below_step (below_step (below_step (Drawn0.below (Drawn0.step (Drawn0.refl _) _)) B2.out) B3.out) B4.out) (Drawn0.below (Drawn0.step (Drawn0.refl _) _))⟩

theorem walk (a : ByteArray) (w : World) : Calls Tryd.prog 3 #[.string a] w fun e w' => e = .returned (.bool true) ∧ Below w.heap.size w w' := by
  by_cases h : 2000 < a.size
  · exact walk_big a w h
  · cases ha : ascii (L a) with
    | false => exact walk_unknown a w (by omega) ha
    | true => exact walk_known a w (by omega) ha

set_option maxRecDepth 100000 in
theorem lifted (os : Os) (started : os.Started) (H : Type) (enc : TypeId × Value → H) :
    ReturnsInHanded {} Tryd.checked os 3 .any (fun w args => (Rows.fnNormalizeTwiceSpec.pre enc Tryd.prog Tryd.f3 Rows.fnNormalizeTwiceRow.domain false w args ∧ laidMetH Tryd.prog Rows.fnNormalizeTwiceRow.laid w) ∧ sizedMet enc Tryd.prog Tryd.f3 (OpenSpec.ofChange Rows.fnNormalizeTwiceSpec) false w args)
      (Rows.fnNormalizeTwiceSpec.post enc Tryd.prog Tryd.f3 false true false false) := by
  refine returnsInHanded_of_change_and (C := Tryd.checked) (X := fun w _ => laidMetH Tryd.prog Rows.fnNormalizeTwiceRow.laid w) (fun _ _ _ hh h => h.of_heap hh) RowKit.own started (by kernel_rfl) Tryd.func3
    (ChangeSpec.witness_shaped (enc := enc) (C := Tryd.checked) (os := os) (X := fun w _ => laidMetH Tryd.prog Rows.fnNormalizeTwiceRow.laid w) false (World.laidAll Tryd.prog os Rows.fnNormalizeTwiceRow.laid) #[.string ByteArray.empty] 8 (World.laidAll_os _ _ _)
      (World.shaped_of_ZipB (by kernel_rfl) (by kernel_rfl)) (by kernel_rfl) (by kernel_rfl) (by kernel_rfl)
      (by rw [MakeChecks.laidMetH_plain _ _ _ (by kernel_rfl)]; exact laidMet_laidAll _ (by kernel_rfl) (by kernel_rfl))) ?_
  intro W base args ds gs before hval0 hW _ _ _ _
  have hval : ∀ (j : Nat) t v, Tryd.f3.params[j]? = some t → args[j]? = some v → Value.okWide Tryd.prog W .any base t v := hval0
  have hW' := hW
  obtain ⟨p, q, hA0, hV, rfl, _, _⟩ := hW
  have hA : DataW.TrodAll enc Tryd.prog W 0 (fun _ => true) true Tryd.f3.params.toList args.toList ds p := hA0
  rw [Tryd.params3] at hA hval
  obtain ⟨v0, vs0, d0, ds0, p0, q0, hargs, rfl, rfl, h0, r0⟩ := trodAll_cons hA
  obtain ⟨rfl, rfl, rfl⟩ := trodAll_nil r0
  obtain rfl : args = #[v0] := by cases args; simp_all
  obtain ⟨rfl, rfl⟩ := trodVars_none hV
  obtain ⟨a0, rfl, rfl, rfl, y0⟩ := Go.ChangeMaps.open_string Tryd.underlying9 (hval 0 9 v0 rfl rfl) h0
  clear hA0 hval0
  refine (walk a0 W).mono fun e W' ⟨he, bel⟩ => ?_
  subst he
  exact ⟨_, rfl, _, _, _, [], _, [], hW', trodAll_mk1 (shut_bool Tryd.underlying4 _), (trodAll_cons_mk (Go.ChangeMaps.shut_string Tryd.underlying9 y0) trodAll_mk0), rfl, bel.frame _, fun h => by cases h⟩
theorem said : Rows.FnNormalizeTwiceSaid :=
  OpenClaim.holds_of_wide 3 Tryd.f3 rfl rfl rfl rfl rfl rfl rfl ⟨rfl, rfl, rfl, rfl, rfl⟩ rfl rfl rfl rfl rfl (by kernel_rfl) Tryd.func3 (by kernel_rfl)
    (of_decide_eq_true (by kernel_rfl)) (by unfold Func.isWrapper; first | (rw [if_pos (by decide +kernel)]; kernel_rfl) | (rw [if_neg (by decide +kernel)]; exact ⟨rfl, rfl⟩))
    (fun os started H enc _ => lifted os started H enc)
theorem plain (f : FuncId) (fn : Func) (hf : Tryd.pinned.checked.prog.funcNamed "pub-trackway/laws.FnNormalizeTwice" = some f) (hfn : Tryd.pinned.checked.prog.funcs[f]? = some fn) :
    false = Tryd.pinned.checked.prog.looks [] ∧ ∀ (j : Nat) t, fn.params[j]? = some t → Tryd.pinned.checked.prog.wantsStandIn t = false := by
  obtain rfl : f = 3 := Option.some.inj ((show Tryd.prog.funcNamed "pub-trackway/laws.FnNormalizeTwice" = some 3 by kernel_rfl).symm.trans hf) |>.symm
  obtain rfl : fn = Tryd.f3 := (Option.some.inj (Tryd.func3.symm.trans hfn)).symm
  refine ⟨by kernel_rfl, fun j t ht => ?_⟩
  rw [Tryd.params3] at ht
  have hm : t ∈ [9] := by simpa using Array.mem_of_getElem? ht
  have hall : ([9].all fun u => !Tryd.prog.wantsStandIn u) = true := by kernel_rfl
  exact (show Tryd.prog.wantsStandIn t = false by simpa using List.all_eq_true.1 hall t hm)
theorem card : Rows.FnNormalizeTwiceCardSaid :=
  Claim7.holds_tied_plain_at .later [] _ _ _ _ said (fun _ h => by cases h) (by kernel_rfl) (fun _ h => by cases h) fnNormalizeTwice_row_tie rfl ⟨rfl, rfl⟩ (by kernel_rfl) rfl plain (by kernel_rfl)
end Go.Proofs.YtlmhngnbmoahdaaDoor.fnNormalizeTwice
namespace Go.Proofs.YtlmhngnbmoahdaaDoor
theorem fnNormalizeTwice_card : Rows.FnNormalizeTwiceCardSaid := fnNormalizeTwice.card
#print axioms fnNormalizeTwice_card
end Go.Proofs.YtlmhngnbmoahdaaDoor
