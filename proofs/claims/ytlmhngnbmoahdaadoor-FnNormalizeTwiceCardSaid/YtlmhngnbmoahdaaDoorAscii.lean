/- What spec.Ascii and laws.holds answer, as plain functions of the bytes. Condition: the text is no longer than the form's reach. -/
import Derived.Test.YtlmhngnbmoahdaaDoorBase
import Derived.Test.YtlmhngnbmoahdaaDoorPCorex
namespace Go.Proofs.YtlmhngnbmoahdaaDoor.Ext
open Go.RowKit Go.Proofs.YtlmhngnbmoahdaaDoorW.PrintWords Go.Proofs.YtlmhngnbmoahdaaDoor.Base Go.Proofs.YtlmhngnbmoahdaaDoor.PCore

/-- All bytes are below 128. -/
def ascii (l : List UInt8) : Bool := l.all fun c => decide (c.toNat ≤ 127)
theorem ascii_cons (c : UInt8) (r : List UInt8) : ascii (c :: r) = (decide (c.toNat ≤ 127) && ascii r) := rfl

theorem ev_Ascii_l0 (s : ByteArray) (hs : s.size ≤ 140737488355328) (d : Nat) : ∀ i : Nat, s.size - i = d → i ≤ s.size → Ev (fun k => spec_Ascii.l0 k s i) (ascii ((L s).drop i)) := by
  have hl := L_length s
  induction d with
  | zero =>
    intro i h1 h2
    have e : (L s).drop i = [] := List.drop_of_length_le (by omega)
    rw [e]
    refine Ev.step (f := fun _ => some true) (fun k => ?_) (Ev.now _)
    simp only [spec_Ascii.l0]
    rw [if_neg (by omega)]
  | succ d ih =>
    intro i h1 h2
    have hi : i < (L s).length := by omega
    have hb := bt_nat s i hi
    have e : (L s).drop i = (L s)[i] :: (L s).drop (i + 1) := List.drop_eq_getElem_cons hi
    rw [e]
    by_cases h : (L s)[i].toNat ≤ 127
    · have e2 : ascii ((L s)[i] :: (L s).drop (i + 1)) = ascii ((L s).drop (i + 1)) := by rw [ascii_cons, decide_eq_true h, Bool.true_and]
      rw [e2]
      refine Ev.step (f := fun k => spec_Ascii.l0 k s ((i + 1 : Nat) : Int)) (fun k => ?_) (ih (i + 1) (by omega) (by omega))
      simp only [spec_Ascii.l0]
      rw [if_pos (by omega), if_pos (by omega), hb, if_neg (by omega), w64 (by omega) (by omega)]
      rfl
    · have e2 : ascii ((L s)[i] :: (L s).drop (i + 1)) = false := by rw [ascii_cons, decide_eq_false h, Bool.false_and]
      rw [e2]
      refine Ev.step (f := fun _ => some false) (fun k => ?_) (Ev.now _)
      simp only [spec_Ascii.l0]
      rw [if_pos (by omega), if_pos (by omega), hb, if_pos (by omega)]

theorem ev_Ascii (s : ByteArray) (hs : s.size ≤ 140737488355328) : Ev (fun k => spec_Ascii.f k s) (ascii (L s)) := by
  have h := ev_Ascii_l0 s hs s.size 0 (by omega) (by omega)
  exact h

theorem ev_WordKnown (s : ByteArray) (hs : s.size ≤ 140737488355328) : Ev (fun k => spec_WordKnown.f k s) (ascii (L s)) :=
  Ev.bind (f := fun _ t => some t) (ev_Ascii s hs) (Ev.now _)

/-- Does a text have another one in it. -/
def inside (t : List UInt8) : List UInt8 → Bool
  | [] => t.isEmpty
  | c :: r => t.isPrefixOf (c :: r) || inside t r

theorem inside_short (t : List UInt8) : ∀ l : List UInt8, l.length < t.length → inside t l = false
  | [], h => by cases t with | nil => simp at h | cons => rfl
  | c :: r, h => by
    have h1 : t.isPrefixOf (c :: r) = false := by
      rw [Bool.eq_false_iff]; intro hp
      have := (List.isPrefixOf_iff_prefix.1 hp).length_le
      omega
    simp only [inside, h1, Bool.false_or]
    exact inside_short t r (by simp at h; omega)

theorem prefix_take (t l : List UInt8) : t.isPrefixOf l = decide (l.take t.length = t) := by
  rw [Bool.eq_iff_iff, List.isPrefixOf_iff_prefix, decide_eq_true_iff]
  constructor
  · rintro ⟨u, rfl⟩; simp
  · intro h; rw [← h]; exact List.take_prefix _ _

theorem extract_at (s : ByteArray) (i n : Nat) : (s.extract i (i + n)).toList = ((L s).drop i).take n := by
  rw [L_toList, L_extract]; congr 1; omega

theorem ev_holds_l0 (s t : ByteArray) (hs : s.size ≤ 140737488355328) (ht : t.size ≤ 140737488355328) (ht0 : 0 < t.size) (d : Nat) : ∀ i : Nat, s.size - i = d → i ≤ s.size → Ev (fun k => laws_holds.l0 k s t i) (inside (L t) ((L s).drop i)) := by
  have hl := L_length s
  have hlt := L_length t
  induction d with
  | zero =>
    intro i h1 h2
    rw [inside_short (L t) _ (by simp; omega)]
    refine Ev.step (f := fun _ => some false) (fun k => ?_) (Ev.now _)
    simp only [laws_holds.l0]
    rw [if_neg (by rw [w64 (by omega) (by omega)]; omega)]
  | succ d ih =>
    intro i h1 h2
    by_cases hfit : i + t.size ≤ s.size
    · have hi : i < (L s).length := by omega
      have e : (L s).drop i = (L s)[i] :: (L s).drop (i + 1) := List.drop_eq_getElem_cons hi
      have hx : (s.extract i (i + t.size)).toList = ((L s).drop i).take (L t).length := by rw [extract_at, hlt]
      by_cases h : ((L s).drop i).take (L t).length = L t
      · have e2 : inside (L t) ((L s).drop i) = true := by
          have : (L t).isPrefixOf ((L s)[i] :: (L s).drop (i + 1)) = true := by rw [prefix_take, ← e]; simpa using h
          rw [e]; simp only [inside, this, Bool.true_or]
        rw [e2]
        refine Ev.step (f := fun _ => some true) (fun k => ?_) (Ev.now _)
        simp only [laws_holds.l0]
        rw [w64 (n := (i : Int) + t.size) (by omega) (by omega), if_pos (by omega), if_pos (by omega), if_pos (by omega)]
        rw [show ((i : Int) + (t.size : Int)).toNat = i + t.size from by omega, show ((i : Nat) : Int).toNat = i from by omega, hx, if_pos (by rw [h, L_toList])]
      · have e2 : inside (L t) ((L s).drop i) = inside (L t) ((L s).drop (i + 1)) := by
          have : (L t).isPrefixOf ((L s)[i] :: (L s).drop (i + 1)) = false := by rw [prefix_take, ← e]; simpa using h
          rw [e]; simp only [inside, this, Bool.false_or]
        rw [e2]
        refine Ev.step (f := fun k => laws_holds.l0 k s t ((i + 1 : Nat) : Int)) (fun k => ?_) (ih (i + 1) (by omega) (by omega))
        simp only [laws_holds.l0]
        rw [w64 (n := (i : Int) + t.size) (by omega) (by omega), if_pos (by omega), if_pos (by omega), if_pos (by omega)]
        rw [show ((i : Int) + (t.size : Int)).toNat = i + t.size from by omega, show ((i : Nat) : Int).toNat = i from by omega, hx, if_neg (by rw [L_toList]; exact h), w64 (by omega) (by omega)]
        rfl
    · rw [inside_short (L t) _ (by simp; omega)]
      refine Ev.step (f := fun _ => some false) (fun k => ?_) (Ev.now _)
      simp only [laws_holds.l0]
      rw [if_neg (by rw [w64 (by omega) (by omega)]; omega)]

theorem ev_holds (s t : ByteArray) (hs : s.size ≤ 140737488355328) (ht : t.size ≤ 140737488355328) (ht0 : 0 < t.size) : Ev (fun k => laws_holds.f k s t) (inside (L t) (L s)) := by
  have h := ev_holds_l0 s t hs ht ht0 s.size 0 (by omega) (by omega)
  exact h

theorem inside_one (c : UInt8) : ∀ l : List UInt8, inside [c] l = decide (c ∈ l)
  | [] => rfl
  | a :: r => by
    simp only [inside, inside_one c r, List.isPrefixOf, Bool.and_true]
    rw [Bool.eq_iff_iff]; simp

end Go.Proofs.YtlmhngnbmoahdaaDoor.Ext
