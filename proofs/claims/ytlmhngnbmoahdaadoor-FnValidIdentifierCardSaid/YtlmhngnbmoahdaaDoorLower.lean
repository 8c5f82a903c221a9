/- What spec.lower, laws.small and spec.Normalize answer: each byte of the text turned. Condition: the text is no longer than the form's reach. -/
import Derived.Test.YtlmhngnbmoahdaaDoorBytes
import Derived.Test.YtlmhngnbmoahdaaDoorPCorex
namespace Go.Proofs.YtlmhngnbmoahdaaDoor.Lower
open Go.RowKit Go.Proofs.YtlmhngnbmoahdaaDoorW.PrintWords Go.Proofs.YtlmhngnbmoahdaaDoor.Base

/-- A great letter's small one; any other byte stays. -/
def lowB (c : UInt8) : UInt8 := if 65 ≤ c.toNat ∧ c.toNat ≤ 90 then c + 32 else c
theorem lowB_val (c : UInt8) (h : 65 ≤ c.toNat ∧ c.toNat ≤ 90) : ((lowB c).toNat : Int) = (c.toNat : Int) + 32 := by
  unfold lowB
  rw [if_pos h, UInt8.toNat_add]
  have : (32 : UInt8).toNat = 32 := rfl
  omega
theorem lowB_stay (c : UInt8) (h : ¬ (65 ≤ c.toNat ∧ c.toNat ≤ 90)) : lowB c = c := by unfold lowB; rw [if_neg h]
def low (s : ByteArray) : ByteArray := ⟨((L s).map lowB).toArray⟩
theorem L_low (s : ByteArray) : L (low s) = (L s).map lowB := L_mk _

set_option maxHeartbeats 400000 in
theorem lower_calls (s : ByteArray) (w : World) (hs : s.size ≤ 140737488355328) :
    Calls Tryd.prog 18 #[.string s] w fun e w' => e = .returned (.string (low s)) ∧ Below w.heap.size w w' := by
  have hl := L_length s
  have hcv := fun (W : World) => Lib.run_convert_string_bytes (P := Tryd.prog) W 9 25 5 s Tryd.underlying9 Tryd.underlying25 Tryd.underlying5
  go_enter Tryd.func18, Tryd.ntmps18
  go_wp2
  go_loopw [4] (fun i wr => ∃ k : Nat, k ≤ s.size ∧ i = .int .i64 k ∧ Aside0 (Bytes wr w.heap.size (mid lowB k (L s))) ∧ Aside0 (Below w.heap.size w wr)) (fun i _ => s.size - (intOf i).toNat)
  case atStart => exact ⟨0, Nat.zero_le _, rfl, ⟨by rw [mid_zero]; exact bytesWorld_bytes w _ s⟩, ⟨bytesWorld_below w _ s⟩⟩
  case round =>
    obtain ⟨k, hk, rfl, HB, HW⟩ := hrel
    by_cases hlt : k < s.size
    · have hk1 : k < (L s).length := by omega
      have hk2 : k < (mid lowB k (L s)).length := by rw [mid_length _ _ _ (by omega)]; exact hk1
      obtain ⟨c, hc⟩ : ∃ c, (L s)[k] = c := ⟨_, rfl⟩
      have hg : (mid lowB k (L s))[k] = c := by rw [mid_get _ _ _ hk1, hc]
      have hcell := (HB.out k hk2).1
      have hfr := (HB.out k hk2).2
      rw [hg] at hcell
      have HC := Aside0.mk hc
      clear hc hg
      have hr : c.toNat < 256 := c.toNat_lt
      by_cases h1 : 65 ≤ c.toNat
      · by_cases h2 : c.toNat ≤ 90
        · have b1 : 65 ≤ (c.toNat : Int) := by omega
          have b2 : (c.toNat : Int) ≤ 90 := by omega
          go_wp2
          go_roundw
          case rel =>
            refine ⟨k + 1, by omega, by go_num, ⟨?_⟩, ⟨HW.out.setCell (by simp) _⟩⟩
            have hs2 := HB.out.set k (lowB c) hk2
            rw [lowB_val c ⟨h1, h2⟩, mid_set lowB k (L s) hk1 (lowB c) (by rw [HC.out])] at hs2
            exact hs2
          case measure => simp [intOf]; omega
        · have b1 : 65 ≤ (c.toNat : Int) := by omega
          have b2 : ¬ ((c.toNat : Int) ≤ 90) := by omega
          have hst : lowB c = c := lowB_stay c (by omega)
          have HS := Aside0.mk (mid_stay lowB k (L s) hk1 (by rw [HC.out, hst]))
          clear hst
          go_wp2
          go_roundw
          case rel => exact ⟨k + 1, by omega, by go_num, ⟨by rw [HS.out]; exact HB.out⟩, HW⟩
          case measure => simp [intOf]; omega
      · have b1 : ¬ (65 ≤ (c.toNat : Int)) := by omega
        have hst : lowB c = c := lowB_stay c (by omega)
        have HS := Aside0.mk (mid_stay lowB k (L s) hk1 (by rw [HC.out, hst]))
        clear hst
        go_wp2
        go_roundw
        case rel => exact ⟨k + 1, by omega, by go_num, ⟨by rw [HS.out]; exact HB.out⟩, HW⟩
        case measure => simp [intOf]; omega
    · obtain rfl : k = s.size := by omega
      have HB2 : Bytes wr w.heap.size ((L s).map lowB) := by have := HB.out; rw [← hl, mid_all] at this; exact this
      have hstr := fun c => bytes_string (P := Tryd.prog) (w := wr) (src := 25) (dst := 9) (e := 5) (c := c) (n := s.size) Tryd.underlying25 Tryd.underlying5 Tryd.underlying9 HB2 (by simpa using hl) (by omega)
      clear HB
      have HB3 := Aside0.mk HB2
      clear HB2
      go_wp2
      go_ret
      exact ⟨rfl, HW.out⟩

/-- A space's hyphen; any other byte stays. -/
def hypB (c : UInt8) : UInt8 := if c = 32 then 45 else c
def hyp (s : ByteArray) : ByteArray := ⟨((L s).map hypB).toArray⟩
theorem L_hyp (s : ByteArray) : L (hyp s) = (L s).map hypB := L_mk _
/-- A text's normal form. -/
def norm (s : ByteArray) : ByteArray := hyp (low s)
theorem L_norm (s : ByteArray) : L (norm s) = (L s).map fun c => hypB (lowB c) := by
  unfold norm
  rw [L_hyp, L_low, List.map_map]
  rfl
theorem low_size (s : ByteArray) : (low s).size = s.size := by rw [← L_length, L_low, List.length_map, L_length]
theorem hyp_size (s : ByteArray) : (hyp s).size = s.size := by rw [← L_length, L_hyp, List.length_map, L_length]
theorem norm_size (s : ByteArray) : (norm s).size = s.size := by unfold norm; rw [hyp_size, low_size]

set_option maxHeartbeats 400000 in
theorem normalize_calls (s0 : ByteArray) (w0 : World) (hs0 : s0.size ≤ 140737488355328) :
    Calls Tryd.prog 14 #[.string s0] w0 fun e w' => e = .returned (.string (norm s0)) ∧ Below w0.heap.size w0 w' := by
  obtain ⟨s, he⟩ : ∃ s, low s0 = s := ⟨_, rfl⟩
  have hs : s.size ≤ 140737488355328 := by rw [← he, low_size]; exact hs0
  have hn : norm s0 = hyp s := by unfold norm; rw [he]
  have HN := Aside0.mk hn
  have HE := Aside0.mk he
  clear hn he
  have hl := L_length s
  have hcv := fun (W : World) => Lib.run_convert_string_bytes (P := Tryd.prog) W 9 25 5 s Tryd.underlying9 Tryd.underlying25 Tryd.underlying5
  go_enter Tryd.func14, Tryd.ntmps14
  go_wp2_with fail
  (with_reducible refine (lower_calls s0 _ hs0).mono ?_)
  rw [HE.out]
  rintro e w ⟨rfl, HW0⟩
  have HW0 := Aside0.mk HW0
  go_wp2_with fail
  go_loopw [4] (fun i wr => ∃ k : Nat, k ≤ s.size ∧ i = .int .i64 k ∧ Aside0 (Bytes wr w.heap.size (mid hypB k (L s))) ∧ Aside0 (Below w.heap.size w wr)) (fun i _ => s.size - (intOf i).toNat)
  case atStart => exact ⟨0, Nat.zero_le _, rfl, ⟨by rw [mid_zero]; exact bytesWorld_bytes w _ s⟩, ⟨bytesWorld_below w _ s⟩⟩
  case round =>
    obtain ⟨k, hk, rfl, HB, HW⟩ := hrel
    by_cases hlt : k < s.size
    · have hk1 : k < (L s).length := by omega
      have hk2 : k < (mid hypB k (L s)).length := by rw [mid_length _ _ _ (by omega)]; exact hk1
      obtain ⟨c, hc⟩ : ∃ c, (L s)[k] = c := ⟨_, rfl⟩
      have hg : (mid hypB k (L s))[k] = c := by rw [mid_get _ _ _ hk1, hc]
      have hcell := (HB.out k hk2).1
      have hfr := (HB.out k hk2).2
      rw [hg] at hcell
      have HC := Aside0.mk hc
      clear hc hg
      have hr : c.toNat < 256 := c.toNat_lt
      have h32 : ((c.toNat : Int) = 32) ↔ c = 32 := u8_eq c 32 (by omega)
      by_cases h1 : c = 32
      · have b1 : ((c.toNat : Int) == 32) = true := beq_iff_eq.2 (h32.2 h1)
        have HV := Aside0.mk (show hypB c = 45 by unfold hypB; rw [if_pos h1])
        clear h32 h1
        go_wp2_with fail
        go_roundw
        case rel =>
          refine ⟨k + 1, by omega, by go_num, ⟨?_⟩, ⟨HW.out.setCell (by simp) _⟩⟩
          have hs2 := HB.out.set k (hypB c) hk2
          rw [mid_set hypB k (L s) hk1 (hypB c) (by rw [HC.out]), HV.out] at hs2
          exact hs2
        case measure => simp [intOf]; omega
      · have b1 : ((c.toNat : Int) == 32) = false := beq_eq_false_iff_ne.2 (fun h => h1 (h32.1 h))
        have hst : hypB c = c := by unfold hypB; rw [if_neg h1]
        have HS := Aside0.mk (mid_stay hypB k (L s) hk1 (by rw [HC.out, hst]))
        clear hst h32 h1
        go_wp2_with fail
        go_roundw
        case rel => exact ⟨k + 1, by omega, by go_num, ⟨by rw [HS.out]; exact HB.out⟩, HW⟩
        case measure => simp [intOf]; omega
    · obtain rfl : k = s.size := by omega
      have HB2 : Bytes wr w.heap.size ((L s).map hypB) := by have := HB.out; rw [← hl, mid_all] at this; exact this
      have hstr := fun c => bytes_string (P := Tryd.prog) (w := wr) (src := 25) (dst := 9) (e := 5) (c := c) (n := s.size) Tryd.underlying25 Tryd.underlying5 Tryd.underlying9 HB2 (by simpa using hl) (by omega)
      clear HB
      have HB3 := Aside0.mk HB2
      clear HB2
      go_wp2_with fail
      go_ret
      exact ⟨by rw [HN.out]; rfl, below_then HW0.out HW0.out.size HW.out⟩

end Go.Proofs.YtlmhngnbmoahdaaDoor.Lower
