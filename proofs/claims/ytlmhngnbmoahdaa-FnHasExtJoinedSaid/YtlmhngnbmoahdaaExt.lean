/- What spec.Ascii, laws.holds and HasExt answer, as plain functions of the bytes. Condition: the text is no longer than the form's reach. -/
import Derived.Test.YtlmhngnbmoahdaaBase
import Derived.Test.YtlmhngnbmoahdaaPCorex
namespace Go.Proofs.Ytlmhngnbmoahdaa.Ext
open Go.RowKit Go.Proofs.YtlmhngnbmoahdaaW.PrintWords Go.Proofs.Ytlmhngnbmoahdaa.Base Go.Proofs.Ytlmhngnbmoahdaa.PCore

/-- All bytes are below 128. -/
def ascii (l : List UInt8) : Bool := l.all fun c => decide (c.toNat ≤ 127)
theorem ascii_cons (c : UInt8) (r : List UInt8) : ascii (c :: r) = (decide (c.toNat ≤ 127) && ascii r) := rfl

theorem ev_Ascii_l0 (s : ByteArray) (hs : s.size ≤ 140737488355328) (d : Nat) : ∀ i : Nat, s.size - i = d → i ≤ s.size → Ev (fun k => spec_Ascii.l0 k s i) (ascii ((L s).drop i)) := by
  have hl := L_length s
  induction d with
  | zero =>
    intro i h1 h2
    have e : (L s).drop i = [] := List.drop_of_length_le (by omega)
    rw [e]
    refine Ev.step (f := fun _ => some true) (fun k => ?_) (Ev.now _)
    simp only [spec_Ascii.l0]
    rw [if_neg (by omega)]
  | succ d ih =>
    intro i h1 h2
    have hi : i < (L s).length := by omega
    have hb := bt_nat s i hi
    have e : (L s).drop i = (L s)[i] :: (L s).drop (i + 1) := List.drop_eq_getElem_cons hi
    rw [e]
    by_cases h : (L s)[i].toNat ≤ 127
    · have e2 : ascii ((L s)[i] :: (L s).drop (i + 1)) = ascii ((L s).drop (i + 1)) := by rw [ascii_cons, decide_eq_true h, Bool.true_and]
      rw [e2]
      refine Ev.step (f := fun k => spec_Ascii.l0 k s ((i + 1 : Nat) : Int)) (fun k => ?_) (ih (i + 1) (by omega) (by omega))
      simp only [spec_Ascii.l0]
      rw [if_pos (by omega), if_pos (by omega), hb, if_neg (by omega), w64 (by omega) (by omega)]
      rfl
    · have e2 : ascii ((L s)[i] :: (L s).drop (i + 1)) = false := by rw [ascii_cons, decide_eq_false h, Bool.false_and]
      rw [e2]
      refine Ev.step (f := fun _ => some false) (fun k => ?_) (Ev.now _)
      simp only [spec_Ascii.l0]
      rw [if_pos (by omega), if_pos (by omega), hb, if_pos (by omega)]

theorem ev_Ascii (s : ByteArray) (hs : s.size ≤ 140737488355328) : Ev (fun k => spec_Ascii.f k s) (ascii (L s)) := by
  have h := ev_Ascii_l0 s hs s.size 0 (by omega) (by omega)
  exact h

theorem ev_WordKnown (s : ByteArray) (hs : s.size ≤ 140737488355328) : Ev (fun k => spec_WordKnown.f k s) (ascii (L s)) :=
  Ev.bind (f := fun _ t => some t) (ev_Ascii s hs) (Ev.now _)

/-- Does a text have another one in it. -/
def inside (t : List UInt8) : List UInt8 → Bool
  | [] => t.isEmpty
  | c :: r => t.isPrefixOf (c :: r) || inside t r

theorem inside_short (t : List UInt8) : ∀ l : List UInt8, l.length < t.length → inside t l = false
  | [], h => by cases t with | nil => simp at h | cons => rfl
  | c :: r, h => by
    have h1 : t.isPrefixOf (c :: r) = false := by
      rw [Bool.eq_false_iff]; intro hp
      have := (List.isPrefixOf_iff_prefix.1 hp).length_le
      omega
    simp only [inside, h1, Bool.false_or]
    exact inside_short t r (by simp at h; omega)

theorem prefix_take (t l : List UInt8) : t.isPrefixOf l = decide (l.take t.length = t) := by
  rw [Bool.eq_iff_iff, List.isPrefixOf_iff_prefix, decide_eq_true_iff]
  constructor
  · rintro ⟨u, rfl⟩; simp
  · intro h; rw [← h]; exact List.take_prefix _ _

theorem extract_at (s : ByteArray) (i n : Nat) : (s.extract i (i + n)).toList = ((L s).drop i).take n := by
  rw [L_toList, L_extract]; congr 1; omega

theorem ev_holds_l0 (s t : ByteArray) (hs : s.size ≤ 140737488355328) (ht : t.size ≤ 140737488355328) (ht0 : 0 < t.size) (d : Nat) : ∀ i : Nat, s.size - i = d → i ≤ s.size → Ev (fun k => laws_holds.l0 k s t i) (inside (L t) ((L s).drop i)) := by
  have hl := L_length s
  have hlt := L_length t
  induction d with
  | zero =>
    intro i h1 h2
    rw [inside_short (L t) _ (by simp; omega)]
    refine Ev.step (f := fun _ => some false) (fun k => ?_) (Ev.now _)
    simp only [laws_holds.l0]
    rw [if_neg (by rw [w64 (by omega) (by omega)]; omega)]
  | succ d ih =>
    intro i h1 h2
    by_cases hfit : i + t.size ≤ s.size
    · have hi : i < (L s).length := by omega
      have e : (L s).drop i = (L s)[i] :: (L s).drop (i + 1) := List.drop_eq_getElem_cons hi
      have hx : (s.extract i (i + t.size)).toList = ((L s).drop i).take (L t).length := by rw [extract_at, hlt]
      by_cases h : ((L s).drop i).take (L t).length = L t
      · have e2 : inside (L t) ((L s).drop i) = true := by
          have : (L t).isPrefixOf ((L s)[i] :: (L s).drop (i + 1)) = true := by rw [prefix_take, ← e]; simpa using h
          rw [e]; simp only [inside, this, Bool.true_or]
        rw [e2]
        refine Ev.step (f := fun _ => some true) (fun k => ?_) (Ev.now _)
        simp only [laws_holds.l0]
        rw [w64 (n := (i : Int) + t.size) (by omega) (by omega), if_pos (by omega), if_pos (by omega), if_pos (by omega)]
        rw [show ((i : Int) + (t.size : Int)).toNat = i + t.size from by omega, show ((i : Nat) : Int).toNat = i from by omega, hx, if_pos (by rw [h, L_toList])]
      · have e2 : inside (L t) ((L s).drop i) = inside (L t) ((L s).drop (i + 1)) := by
          have : (L t).isPrefixOf ((L s)[i] :: (L s).drop (i + 1)) = false := by rw [prefix_take, ← e]; simpa using h
          rw [e]; simp only [inside, this, Bool.false_or]
        rw [e2]
        refine Ev.step (f := fun k => laws_holds.l0 k s t ((i + 1 : Nat) : Int)) (fun k => ?_) (ih (i + 1) (by omega) (by omega))
        simp only [laws_holds.l0]
        rw [w64 (n := (i : Int) + t.size) (by omega) (by omega), if_pos (by omega), if_pos (by omega), if_pos (by omega)]
        rw [show ((i : Int) + (t.size : Int)).toNat = i + t.size from by omega, show ((i : Nat) : Int).toNat = i from by omega, hx, if_neg (by rw [L_toList]; exact h), w64 (by omega) (by omega)]
        rfl
    · rw [inside_short (L t) _ (by simp; omega)]
      refine Ev.step (f := fun _ => some false) (fun k => ?_) (Ev.now _)
      simp only [laws_holds.l0]
      rw [if_neg (by rw [w64 (by omega) (by omega)]; omega)]

theorem ev_holds (s t : ByteArray) (hs : s.size ≤ 140737488355328) (ht : t.size ≤ 140737488355328) (ht0 : 0 < t.size) : Ev (fun k => laws_holds.f k s t) (inside (L t) (L s)) := by
  have h := ev_holds_l0 s t hs ht ht0 s.size 0 (by omega) (by omega)
  exact h

theorem inside_one (c : UInt8) : ∀ l : List UInt8, inside [c] l = decide (c ∈ l)
  | [] => rfl
  | a :: r => by
    simp only [inside, inside_one c r, List.isPrefixOf, Bool.and_true]
    rw [Bool.eq_iff_iff]; simp

/-- Of a text from its end: is the first point or slash a point. -/
def ptR : List UInt8 → Bool
  | [] => false
  | c :: r => if c = 46 then true else if c = 47 then false else ptR r
/-- Does a point stand behind the last slash. -/
def ext (l : List UInt8) : Bool := ptR l.reverse

theorem ev_HasExt_l0 (s : ByteArray) (hs : s.size ≤ 140737488355328) : ∀ n : Nat, n ≤ s.size → Ev (fun k => paths_HasExt.l0 k s ((n : Int) - 1)) (ptR ((L s).take n).reverse) := by
  have hl := L_length s
  intro n
  induction n with
  | zero =>
    intro _
    refine Ev.step (f := fun _ => some false) (fun k => ?_) (Ev.now _)
    simp only [paths_HasExt.l0]
    rw [if_neg (by omega)]
  | succ n ih =>
    intro hn
    have hi : n < (L s).length := by omega
    have e : ((L s).take (n + 1)).reverse = (L s)[n] :: ((L s).take n).reverse := by rw [List.take_succ_eq_append_getElem hi]; simp
    have hb := bt_nat s n hi
    have ei : ((n + 1 : Nat) : Int) - 1 = (n : Int) := by omega
    have h46 : (((L s)[n]).toNat : Int) = 46 ↔ (L s)[n] = 46 := u8_eq (L s)[n] 46 (by omega)
    have h47 : (((L s)[n]).toNat : Int) = 47 ↔ (L s)[n] = 47 := u8_eq (L s)[n] 47 (by omega)
    rw [e, ei]
    by_cases h1 : (L s)[n] = 46
    · have e2 : ptR ((L s)[n] :: ((L s).take n).reverse) = true := by simp [ptR, h1]
      rw [e2]
      refine Ev.step (f := fun _ => some true) (fun k => ?_) (Ev.now _)
      simp only [paths_HasExt.l0]
      rw [if_pos (by omega), if_pos (by omega), if_pos (by omega), hb, if_pos (h46.2 h1)]
    · by_cases h2 : (L s)[n] = 47
      · have e2 : ptR ((L s)[n] :: ((L s).take n).reverse) = false := by simp [ptR, h2]
        rw [e2]
        refine Ev.step (f := fun _ => some false) (fun k => ?_) (Ev.now _)
        simp only [paths_HasExt.l0]
        rw [if_pos (by omega), if_pos (by omega), if_pos (by omega), hb, if_neg (fun h => h1 (h46.1 h)), if_pos (h47.2 h2)]
      · have e2 : ptR ((L s)[n] :: ((L s).take n).reverse) = ptR ((L s).take n).reverse := by simp [ptR, h1, h2]
        rw [e2]
        refine Ev.step (f := fun k => paths_HasExt.l0 k s ((n : Int) - 1)) (fun k => ?_) (ih (by omega))
        simp only [paths_HasExt.l0]
        rw [if_pos (by omega), if_pos (by omega), if_pos (by omega), hb, if_neg (fun h => h1 (h46.1 h)), if_neg (fun h => h2 (h47.1 h)), w64 (by omega) (by omega)]

theorem ev_HasExt (s : ByteArray) (hs : s.size ≤ 140737488355328) : Ev (fun k => impl_HasExt.f k s) (ext (L s)) := by
  refine Ev.bind (f := fun _ t => some t) ?_ (Ev.now _)
  have h := ev_HasExt_l0 s hs s.size (Nat.le_refl _)
  rw [List.take_of_length_le (by rw [L_length]; exact Nat.le_refl _)] at h
  refine Ev.congr (fun k => ?_) h
  unfold paths_HasExt.f
  rw [w64 (by omega) (by omega)]

theorem ptR_app (a b : List UInt8) (h : ∀ c ∈ a, c ≠ 47) : ptR (a ++ 47 :: b) = ptR a := by
  induction a with
  | nil => simp [ptR]
  | cons c a ih =>
    have := h c (by simp)
    simp only [List.cons_append, ptR, if_neg this]
    split
    · rfl
    · exact ih fun c hc => h c (by simp [hc])

theorem ext_joined (a b : List UInt8) (h : ∀ c ∈ b, c ≠ 47) : ext (a ++ 47 :: b) = ext b := by
  unfold ext
  rw [List.reverse_append, List.reverse_cons, List.append_assoc]
  exact ptR_app b.reverse _ (fun c hc => h c (by simpa using hc))

end Go.Proofs.Ytlmhngnbmoahdaa.Ext
