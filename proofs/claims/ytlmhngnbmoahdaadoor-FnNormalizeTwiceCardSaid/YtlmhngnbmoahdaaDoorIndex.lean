/- What zzIndex answers: where a text first stands in another one. Condition: the texts are no longer than the form's reach, the one looked for is not empty. -/
import Derived.Test.YtlmhngnbmoahdaaDoorBase
import Derived.Test.YtlmhngnbmoahdaaDoorPCorex
namespace Go.Proofs.YtlmhngnbmoahdaaDoor.Index
open Go.RowKit Go.Proofs.YtlmhngnbmoahdaaDoorW.PrintWords Go.Proofs.YtlmhngnbmoahdaaDoor.Base Go.Proofs.YtlmhngnbmoahdaaDoor.PCore

/-- Where a text first stands in another one. -/
def idx (t : List UInt8) : List UInt8 → Option Nat
  | [] => if t.isEmpty then some 0 else none
  | c :: r => if t.isPrefixOf (c :: r) then some 0 else (idx t r).map (· + 1)
/-- As Go tells it. -/
def idxI : Option Nat → Int
  | none => -1
  | some n => n

theorem idx_short (t : List UInt8) : ∀ l : List UInt8, l.length < t.length → idx t l = none
  | [], h => by cases t with | nil => simp at h | cons => rfl
  | c :: r, h => by
    have h1 : t.isPrefixOf (c :: r) = false := by
      rw [Bool.eq_false_iff]; intro hp
      have := (List.isPrefixOf_iff_prefix.1 hp).length_le
      omega
    simp only [idx, h1]
    rw [idx_short t r (by simp at h; omega)]
    rfl

theorem prefix_take (t l : List UInt8) : t.isPrefixOf l = decide (l.take t.length = t) := by
  rw [Bool.eq_iff_iff, List.isPrefixOf_iff_prefix, decide_eq_true_iff]
  constructor
  · rintro ⟨u, rfl⟩; simp
  · intro h; rw [← h]; exact List.take_prefix _ _

theorem extract_at (s : ByteArray) (i n : Nat) : (s.extract i (i + n)).toList = ((L s).drop i).take n := by
  rw [L_toList, L_extract]; congr 1; omega

theorem ev_zzIndex_l0 (s t : ByteArray) (hs : s.size ≤ 140737488355328) (ht : t.size ≤ 140737488355328) (ht0 : 0 < t.size) (d : Nat) : ∀ i : Nat, s.size - i = d → i ≤ s.size →
    Ev (fun k => paths_zzIndex.l0 k s t i) (idxI ((idx (L t) ((L s).drop i)).map (· + i))) := by
  have hl := L_length s
  have hlt := L_length t
  induction d with
  | zero =>
    intro i h1 h2
    rw [idx_short (L t) _ (by simp; omega)]
    refine Ev.step (f := fun _ => some (-1)) (fun k => ?_) (Ev.now _)
    simp only [paths_zzIndex.l0]
    rw [if_neg (by rw [w64 (by omega) (by omega)]; omega)]
  | succ d ih =>
    intro i h1 h2
    by_cases hfit : i + t.size ≤ s.size
    · have hi : i < (L s).length := by omega
      have e : (L s).drop i = (L s)[i] :: (L s).drop (i + 1) := List.drop_eq_getElem_cons hi
      have hx : (s.extract i (i + t.size)).toList = ((L s).drop i).take (L t).length := by rw [extract_at, hlt]
      by_cases h : ((L s).drop i).take (L t).length = L t
      · have e2 : idx (L t) ((L s).drop i) = some 0 := by
          have : (L t).isPrefixOf ((L s)[i] :: (L s).drop (i + 1)) = true := by rw [prefix_take, ← e]; simpa using h
          rw [e]; simp only [idx, this, if_true]
        rw [e2]
        refine Ev.step (f := fun _ => some (i : Int)) (fun k => ?_) (by simpa [idxI] using Ev.now (i : Int))
        simp only [paths_zzIndex.l0]
        rw [w64 (n := (i : Int) + t.size) (by omega) (by omega), if_pos (by omega), if_pos (by omega), if_pos (by omega)]
        rw [show ((i : Int) + (t.size : Int)).toNat = i + t.size from by omega, show ((i : Nat) : Int).toNat = i from by omega, hx, if_pos (by rw [h, L_toList])]
      · have e2 : idx (L t) ((L s).drop i) = (idx (L t) ((L s).drop (i + 1))).map (· + 1) := by
          have : (L t).isPrefixOf ((L s)[i] :: (L s).drop (i + 1)) = false := by rw [prefix_take, ← e]; simpa using h
          rw [e]; simp only [idx, this]; rfl
        have e3 : (idx (L t) ((L s).drop i)).map (· + i) = (idx (L t) ((L s).drop (i + 1))).map (· + (i + 1)) := by
          rw [e2, Option.map_map]; congr 1; funext x; simp only [Function.comp]; omega
        rw [e3]
        refine Ev.step (f := fun k => paths_zzIndex.l0 k s t ((i + 1 : Nat) : Int)) (fun k => ?_) (ih (i + 1) (by omega) (by omega))
        simp only [paths_zzIndex.l0]
        rw [w64 (n := (i : Int) + t.size) (by omega) (by omega), if_pos (by omega), if_pos (by omega), if_pos (by omega)]
        rw [show ((i : Int) + (t.size : Int)).toNat = i + t.size from by omega, show ((i : Nat) : Int).toNat = i from by omega, hx, if_neg (by rw [L_toList]; exact h), w64 (by omega) (by omega)]
        rfl
    · rw [idx_short (L t) _ (by simp; omega)]
      refine Ev.step (f := fun _ => some (-1)) (fun k => ?_) (Ev.now _)
      simp only [paths_zzIndex.l0]
      rw [if_neg (by rw [w64 (by omega) (by omega)]; omega)]

theorem ev_zzIndex (s t : ByteArray) (hs : s.size ≤ 140737488355328) (ht : t.size ≤ 140737488355328) (ht0 : 0 < t.size) : Ev (fun k => paths_zzIndex.f k s t) (idxI (idx (L t) (L s))) := by
  have h := ev_zzIndex_l0 s t hs ht ht0 s.size 0 (by omega) (by omega)
  simp only [List.drop_zero, Nat.add_zero] at h
  have e : (idx (L t) (L s)).map (fun x => x) = idx (L t) (L s) := by cases idx (L t) (L s) <;> rfl
  rw [e] at h
  exact h

theorem zzIndex_is (s t : ByteArray) (r : Int) (w : World) (hs : s.size ≤ 140737488355328) (ht : t.size ≤ 140737488355328) (ht0 : 0 < t.size) (hr : idxI (idx (L t) (L s)) = r) :
    Calls Tryd.prog 25 #[.string s, .string t] w fun e w' => e = .returned (.int .i64 r) ∧ Drawn0 w w' := by
  obtain ⟨k, hk⟩ := (ev_zzIndex s t hs ht ht0).rounds
  exact paths_zzIndex.calls k s t r w (by rw [hk, hr])

theorem idx_one (c : UInt8) : ∀ l : List UInt8, (idx [c] l = none ∧ ∀ x ∈ l, x ≠ c) ∨ ∃ n, idx [c] l = some n ∧ n < l.length ∧ l = l.take n ++ c :: l.drop (n + 1) ∧ ∀ x ∈ l.take n, x ≠ c
  | [] => .inl ⟨rfl, by simp⟩
  | a :: r => by
    by_cases h : a = c
    · subst h
      exact .inr ⟨0, by simp [idx, List.isPrefixOf], by simp, by simp, by simp⟩
    · have hp : List.isPrefixOf [c] (a :: r) = false := by simp [List.isPrefixOf]; exact fun e => h e.symm
      rcases idx_one c r with ⟨h1, h2⟩ | ⟨n, h1, h2, h3, h4⟩
      · left
        refine ⟨by simp [idx, hp, h1], ?_⟩
        intro x hx
        rcases List.mem_cons.1 hx with rfl | hx
        · exact h
        · exact h2 x hx
      · right
        refine ⟨n + 1, by simp [idx, hp, h1], by simp; omega, ?_, ?_⟩
        · simp only [List.take_succ_cons, List.drop_succ_cons, List.cons_append]
          congr 1
        · intro x hx
          simp only [List.take_succ_cons, List.mem_cons] at hx
          rcases hx with rfl | hx
          · exact h
          · exact h4 x hx

end Go.Proofs.YtlmhngnbmoahdaaDoor.Index
