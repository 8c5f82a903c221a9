/- Plain words on bytes, rounds and wraps, for the proofs of this seat. No condition. -/
import Derived.Test.YtlmhngnbmoahdaaDoorWWords
import Derived.IntWalk
import Derived.Lib.Strings
namespace Go.Proofs.YtlmhngnbmoahdaaDoor.Base
open Go.RowKit Go.Proofs.YtlmhngnbmoahdaaDoorW.PrintWords

theorem w64 {n : Int} (h : -9223372036854775808 ≤ n) (h' : n ≤ 9223372036854775807) : wrap64 n = n := IntWalk.wrap64_in n ⟨h, h'⟩

/-- A text's bytes. -/
def L (s : ByteArray) : List UInt8 := s.data.toList
theorem L_toList (s : ByteArray) : s.toList = L s := Lib.toList_data s
theorem L_length (s : ByteArray) : (L s).length = s.size := data_length s
theorem L_inj {a b : ByteArray} (h : L a = L b) : a = b := by
  cases a with | mk a => cases b with | mk b => simp only [L] at h; exact congrArg _ (Array.ext' h)
theorem L_mk (l : List UInt8) : L ⟨l.toArray⟩ = l := by simp [L]
theorem L_append (a b : ByteArray) : L (a ++ b) = L a ++ L b := by
  simp [L]
theorem L_extract (s : ByteArray) (a b : Nat) : L (s.extract a b) = ((L s).drop a).take (b - a) := Lib.extract_data s a b
theorem size_append (a b : ByteArray) : (a ++ b).size = a.size + b.size := by
  rw [← L_length, L_append, List.length_append, L_length, L_length]
theorem bt_nat (s : ByteArray) (i : Nat) (h : i < (L s).length) : bt s (i : Int) = (((L s)[i]'h).toNat : Int) := by
  have h' : i < s.size := by rw [← L_length]; exact h
  unfold bt
  rw [dif_pos (by simpa using h')]
  rfl
theorem bt_int (s : ByteArray) (i : Int) (h0 : 0 ≤ i) (h : i.toNat < (L s).length) : bt s i = (((L s)[i.toNat]'h).toNat : Int) := by
  obtain ⟨n, rfl⟩ := Int.eq_ofNat_of_zero_le h0
  simpa using bt_nat s n (by simpa using h)
theorem u8_eq (c : UInt8) (n : Nat) (hn : n < 256) : (c.toNat : Int) = (n : Int) ↔ c = UInt8.ofNat n := by
  constructor
  · intro h
    have h' : c.toNat = n := by omega
    rw [← h']; simp
  · intro h
    subst h
    simp [Nat.mod_eq_of_lt hn]

end Go.Proofs.YtlmhngnbmoahdaaDoor.Base
