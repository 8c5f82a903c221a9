/- Plain lemmas on a row of bytes that the call itself has made and turns byte by byte. No condition. -/
import Derived.Test.YtlmhngnbmoahdaaDoorBase
import Derived.Lib.ConvBytes
import Derived.Below
import Derived.Lib.Case
namespace Go.Proofs.YtlmhngnbmoahdaaDoor.Base
open Go.RowKit Go.Proofs.YtlmhngnbmoahdaaDoorW.PrintWords

/-- Block B holds these bytes from its head on, and they may be written. -/
def Bytes (w : World) (B : Nat) (xs : List UInt8) : Prop :=
  ∀ j (h : j < xs.length), w.cell? ⟨B, j, none⟩ = some (.int .u8 ((xs[j]'h).toNat : Int)) ∧ w.frozen? ⟨B, j, none⟩ = false

theorem Bytes.set {w : World} {B : Nat} {xs : List UInt8} (H : Bytes w B xs) (k : Nat) (v : UInt8) (hk : k < xs.length) :
    Bytes (w.setCell ⟨B, k, none⟩ (.int .u8 (v.toNat : Int))) B (xs.set k v) := by
  intro j hj
  have hj' : j < xs.length := by simpa using hj
  rw [World.frozen?_setCell]
  refine ⟨?_, (H j hj').2⟩
  by_cases e : j = k
  · subst e
    rw [World.cell?_setCell_same _ _ _ (H j hj').1]
    simp
  · rw [World.cell?_setCell_other _ _ _ _ (by intro h; injection h with _ h; exact e h.symm), (H j hj').1]
    rw [List.getElem_set_ne (fun h => e h.symm)]

theorem bytesWorld_bytes (w : World) (e : TypeId) (s : ByteArray) : Bytes (Lib.bytesWorld w e s) w.heap.size (L s) := by
  intro j hj
  have hl : j < s.size := by rw [← L_length]; exact hj
  refine ⟨?_, ?_⟩
  · rw [Lib.bytesWorld_cell w e s j hl]
    unfold L at hj
    simp [L, List.getD_eq_getElem?_getD, List.getElem?_eq_getElem hj]
  · have h := Lib.bytesWorld_at_new w e s
    have hc : j < (Lib.bytesCells w e s).size := by
      simp only [Lib.bytesCells, Array.size_append, Array.size_map, Array.size_replicate]
      have : s.data.size = s.size := rfl
      omega
    simp only [World.frozen?, h]
    simp
    omega

theorem bytesWorld_below (w : World) (e : TypeId) (s : ByteArray) : Below w.heap.size w (Lib.bytesWorld w e s) where
  os := rfl
  tape := rfl
  output := rfl
  size := by rw [Lib.bytesWorld_size]; omega
  block := fun k hk => Lib.bytesWorld_at_old w e s k hk

/-- The first k turned by f. -/
def mid (f : UInt8 → UInt8) (k : Nat) (l : List UInt8) : List UInt8 := (l.take k).map f ++ l.drop k
theorem mid_zero (f : UInt8 → UInt8) (l : List UInt8) : mid f 0 l = l := by simp [mid]
theorem mid_all (f : UInt8 → UInt8) (l : List UInt8) : mid f l.length l = l.map f := by simp [mid]
theorem mid_length (f : UInt8 → UInt8) (k : Nat) (l : List UInt8) (h : k ≤ l.length) : (mid f k l).length = l.length := by simp [mid]; omega
theorem mid_at (f : UInt8 → UInt8) (k : Nat) (l : List UInt8) (hk : k ≤ l.length) (j : Nat) : (mid f k l)[j]? = if j < k then (l[j]?).map f else l[j]? := by
  unfold mid
  by_cases h : j < k
  · rw [if_pos h, List.getElem?_append_left (by simp; omega), List.getElem?_map, List.getElem?_take_of_lt h]
  · rw [if_neg h, List.getElem?_append_right (by simp; omega), List.getElem?_drop]
    congr 1
    simp
    omega
theorem mid_get (f : UInt8 → UInt8) (k : Nat) (l : List UInt8) (h : k < l.length) (h' : k < (mid f k l).length) : (mid f k l)[k] = l[k] := by
  have e := mid_at f k l (by omega) k
  rw [if_neg (by omega), List.getElem?_eq_getElem h', List.getElem?_eq_getElem h] at e
  exact Option.some.inj e
theorem mid_set (f : UInt8 → UInt8) (k : Nat) (l : List UInt8) (h : k < l.length) (v : UInt8) (hv : v = f l[k]) : (mid f k l).set k v = mid f (k + 1) l := by
  subst hv
  apply List.ext_getElem?
  intro j
  rw [List.getElem?_set, mid_at f k l (by omega) j, mid_at f (k + 1) l (by omega) j, mid_length f k l (by omega)]
  by_cases e : k = j
  · subst e
    rw [if_pos rfl, if_pos h, if_pos (by omega), List.getElem?_eq_getElem h, Option.map_some]
  · rw [if_neg e]
    by_cases h2 : j < k
    · rw [if_pos h2, if_pos (by omega)]
    · rw [if_neg h2, if_neg (by omega)]
theorem mid_stay (f : UInt8 → UInt8) (k : Nat) (l : List UInt8) (h : k < l.length) (e : f l[k] = l[k]) : mid f (k + 1) l = mid f k l := by
  rw [← mid_set f k l h _ rfl, e]
  apply List.ext_getElem?
  intro j
  rw [List.getElem?_set, mid_length f k l (by omega)]
  by_cases e : k = j
  · subst e
    rw [if_pos rfl, if_pos h, mid_at f k l (by omega) k, if_neg (by omega), List.getElem?_eq_getElem h]
  · rw [if_neg e]

theorem bytes_string {P : Program} {w : World} {src dst e : TypeId} {B n c : Nat} {xs : List UInt8} (hs : P.underlying src = some (.slice e)) (he : P.underlying e = some (.int .u8)) (hd : P.underlying dst = some .string)
    (H : Bytes w B xs) (hn : xs.length = n) (hm : n ≤ 9223372036854775807) : (convert src dst (.slice (some ⟨B, 0, none⟩) n c)).run P w = .ok (.string ⟨xs.toArray⟩) w := by
  have hr : ReadsInt w .u8 (some ⟨B, 0, none⟩) n (xs.map fun b => (b.toNat : Int)) := by
    refine ⟨by simpa using hn, hm, fun _ => ⟨_, rfl, fun j hj => ?_⟩⟩
    have hj' : j < xs.length := by omega
    have := (H j hj').1
    have e0 : (⟨B, 0, none⟩ : Addr).add j = ⟨B, j, none⟩ := by simp [Addr.add]; intro h; exact h.symm
    rw [e0]
    simp only [List.getD_eq_getElem?_getD, List.getElem?_map, List.getElem?_eq_getElem hj', Option.map_some, Option.getD_some]
    exact this
  rw [string_of_reads hs he hd hr]
  have e : (strOfNums (xs.map fun b => (b.toNat : Int))) = ⟨xs.toArray⟩ := by
    unfold strOfNums
    rw [List.map_map]
    congr 2
    conv => rhs; rw [← List.map_id xs]
    refine List.map_congr_left fun b _ => ?_
    simp
  rw [e]

end Go.Proofs.YtlmhngnbmoahdaaDoor.Base
