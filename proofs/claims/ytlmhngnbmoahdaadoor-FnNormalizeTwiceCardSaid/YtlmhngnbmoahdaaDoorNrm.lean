/- Plain lemmas on normal forms, and what WordKnown and holds answer, as contracts. Condition: the texts are no longer than the form's reach. -/
import Derived.Test.YtlmhngnbmoahdaaDoorLower
import Derived.Test.YtlmhngnbmoahdaaDoorAscii
namespace Go.Proofs.YtlmhngnbmoahdaaDoor.Nrm
open Go.RowKit
open Go.Proofs.YtlmhngnbmoahdaaDoorW.PrintWords Go.Proofs.YtlmhngnbmoahdaaDoor.Base Go.Proofs.YtlmhngnbmoahdaaDoor.Ext Go.Proofs.YtlmhngnbmoahdaaDoor.Lower Go.Proofs.YtlmhngnbmoahdaaDoor.PCore

theorem known_is (s : ByteArray) (r : Bool) (w : World) (hs : s.size ≤ 140737488355328) (hr : ascii (L s) = r) :
    Calls Tryd.prog 5 #[.string s] w fun e w' => e = .returned (.bool r) ∧ Drawn0 w w' := by
  obtain ⟨k, hk⟩ := (ev_WordKnown s hs).rounds
  exact spec_WordKnown.calls k s r w (by rw [hk, hr])
theorem holds_is (s t : ByteArray) (r : Bool) (w : World) (hs : s.size ≤ 140737488355328) (ht : t.size ≤ 140737488355328) (ht0 : 0 < t.size) (hr : inside (L t) (L s) = r) :
    Calls Tryd.prog 8 #[.string s, .string t] w fun e w' => e = .returned (.bool r) ∧ Drawn0 w w' := by
  obtain ⟨k, hk⟩ := (ev_holds s t hs ht ht0).rounds
  exact laws_holds.calls k s t r w (by rw [hk, hr])

theorem lowB_nat (c : UInt8) : (lowB c).toNat = if 65 ≤ c.toNat ∧ c.toNat ≤ 90 then c.toNat + 32 else c.toNat := by
  by_cases h : 65 ≤ c.toNat ∧ c.toNat ≤ 90
  · have := lowB_val c h
    rw [if_pos h]; omega
  · rw [if_neg h, lowB_stay c h]
theorem hypB_nat (c : UInt8) : (hypB c).toNat = if c.toNat = 32 then 45 else c.toNat := by
  unfold hypB
  by_cases h : c = 32
  · subst h; rfl
  · have h2 : ¬ c.toNat = 32 := fun e => h (UInt8.toNat_inj.1 e)
    rw [if_neg h, if_neg h2]
theorem nrm_nat (c : UInt8) : (hypB (lowB c)).toNat = if 65 ≤ c.toNat ∧ c.toNat ≤ 90 then c.toNat + 32 else if c.toNat = 32 then 45 else c.toNat := by
  rw [hypB_nat, lowB_nat]
  repeat' split
  all_goals omega
theorem nrm_nrm (c : UInt8) : hypB (lowB (hypB (lowB c))) = hypB (lowB c) := by
  apply UInt8.toNat_inj.1
  rw [nrm_nat (hypB (lowB c)), nrm_nat c]
  repeat' split
  all_goals omega
theorem low_nrm (c : UInt8) : lowB (hypB (lowB c)) = hypB (lowB c) := by
  apply UInt8.toNat_inj.1
  rw [lowB_nat, nrm_nat c]
  repeat' split
  all_goals omega
theorem nrm_32 (c : UInt8) : hypB (lowB c) ≠ 32 := by
  intro h
  have := nrm_nat c
  rw [h] at this
  have e : (32 : UInt8).toNat = 32 := rfl
  rw [e] at this
  revert this
  repeat' split
  all_goals omega
theorem norm_norm (s : ByteArray) : norm (norm s) = norm s := by
  apply L_inj
  rw [L_norm, L_norm, List.map_map]
  exact List.map_congr_left fun c _ => nrm_nrm c
theorem low_norm (s : ByteArray) : low (norm s) = norm s := by
  apply L_inj
  rw [L_low, L_norm, List.map_map]
  exact List.map_congr_left fun c _ => low_nrm c
theorem ascii_all (s : ByteArray) (h : ascii (L s) = true) : ∀ c ∈ L s, c.toNat ≤ 127 := by
  intro c hc
  have := List.all_eq_true.1 h c hc
  simpa using this
theorem norm_ascii (s : ByteArray) (h : ∀ c ∈ L s, c.toNat ≤ 127) : ∀ c ∈ L (norm s), c.toNat ≤ 127 := by
  intro c hc
  rw [L_norm] at hc
  obtain ⟨d, hd, rfl⟩ := List.mem_map.1 hc
  have := h d hd
  rw [nrm_nat]
  repeat' split
  all_goals omega

end Go.Proofs.YtlmhngnbmoahdaaDoor.Nrm
