/- What laws.small answers: the text in small letters. Condition: the text is no longer than the form's reach. -/
import Derived.Test.YtlmhngnbmoahdaaDoorLower
namespace Go.Proofs.YtlmhngnbmoahdaaDoor.Lower
open Go.RowKit Go.Proofs.YtlmhngnbmoahdaaDoorW.PrintWords Go.Proofs.YtlmhngnbmoahdaaDoor.Base

set_option maxHeartbeats 400000 in
theorem small_calls (s : ByteArray) (w : World) (hs : s.size ≤ 140737488355328) :
    Calls Tryd.prog 7 #[.string s] w fun e w' => e = .returned (.string (low s)) ∧ Below w.heap.size w w' := by
  have hl := L_length s
  have hcv := fun (W : World) => Lib.run_convert_string_bytes (P := Tryd.prog) W 9 25 5 s Tryd.underlying9 Tryd.underlying25 Tryd.underlying5
  go_enter Tryd.func7, Tryd.ntmps7
  go_wp2
  go_loopw [9] (fun i wr => ∃ k : Nat, k ≤ s.size ∧ i = .int .i64 k ∧ Aside0 (Bytes wr w.heap.size (mid lowB k (L s))) ∧ Aside0 (Below w.heap.size w wr)) (fun i _ => s.size - (intOf i).toNat)
  case atStart => exact ⟨0, Nat.zero_le _, rfl, ⟨by rw [mid_zero]; exact bytesWorld_bytes w _ s⟩, ⟨bytesWorld_below w _ s⟩⟩
  case round =>
    obtain ⟨k, hk, rfl, HB, HW⟩ := hrel
    by_cases hlt : k < s.size
    · have hk1 : k < (L s).length := by omega
      have hk2 : k < (mid lowB k (L s)).length := by rw [mid_length _ _ _ (by omega)]; exact hk1
      obtain ⟨c, hc⟩ : ∃ c, (L s)[k] = c := ⟨_, rfl⟩
      have hg : (mid lowB k (L s))[k] = c := by rw [mid_get _ _ _ hk1, hc]
      have hcell := (HB.out k hk2).1
      have hfr := (HB.out k hk2).2
      rw [hg] at hcell
      have HC := Aside0.mk hc
      clear hc hg
      have hr : c.toNat < 256 := c.toNat_lt
      by_cases h1 : 65 ≤ c.toNat
      · by_cases h2 : c.toNat ≤ 90
        · have b1 : 65 ≤ (c.toNat : Int) := by omega
          have b2 : (c.toNat : Int) ≤ 90 := by omega
          go_wp2
          go_roundw
          case rel =>
            refine ⟨k + 1, by omega, by go_num, ⟨?_⟩, ⟨HW.out.setCell (by simp) _⟩⟩
            have hs2 := HB.out.set k (lowB c) hk2
            rw [lowB_val c ⟨h1, h2⟩, mid_set lowB k (L s) hk1 (lowB c) (by rw [HC.out])] at hs2
            exact hs2
          case measure => simp [intOf]; omega
        · have b1 : 65 ≤ (c.toNat : Int) := by omega
          have b2 : ¬ ((c.toNat : Int) ≤ 90) := by omega
          have hst : lowB c = c := lowB_stay c (by omega)
          have HS := Aside0.mk (mid_stay lowB k (L s) hk1 (by rw [HC.out, hst]))
          clear hst
          go_wp2
          go_roundw
          case rel => exact ⟨k + 1, by omega, by go_num, ⟨by rw [HS.out]; exact HB.out⟩, HW⟩
          case measure => simp [intOf]; omega
      · have b1 : ¬ (65 ≤ (c.toNat : Int)) := by omega
        have hst : lowB c = c := lowB_stay c (by omega)
        have HS := Aside0.mk (mid_stay lowB k (L s) hk1 (by rw [HC.out, hst]))
        clear hst
        go_wp2
        go_roundw
        case rel => exact ⟨k + 1, by omega, by go_num, ⟨by rw [HS.out]; exact HB.out⟩, HW⟩
        case measure => simp [intOf]; omega
    · obtain rfl : k = s.size := by omega
      have HB2 : Bytes wr w.heap.size ((L s).map lowB) := by have := HB.out; rw [← hl, mid_all] at this; exact this
      have hstr := fun c => bytes_string (P := Tryd.prog) (w := wr) (src := 25) (dst := 9) (e := 5) (c := c) (n := s.size) Tryd.underlying25 Tryd.underlying5 Tryd.underlying9 HB2 (by simpa using hl) (by omega)
      clear HB
      have HB3 := Aside0.mk HB2
      clear HB2
      go_wp2
      go_ret
      exact ⟨rfl, HW.out⟩

end Go.Proofs.YtlmhngnbmoahdaaDoor.Lower
