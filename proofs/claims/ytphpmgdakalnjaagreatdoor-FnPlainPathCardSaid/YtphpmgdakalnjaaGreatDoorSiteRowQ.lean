/- A site among a law's arguments, as it lies in memory. No condition. -/
import Derived.SliceStrings
import Derived.Deep.Slices
import Derived.Deep.Fields
import Derived.Lib.SmallJoins
import Derived.ChangeSame
import Derived.Carry
import Derived.Test.YtphpmgdakalnjaaGreatDoorQ19
namespace Go.Proofs.YtphpmgdakalnjaaGreatDoor.SiteRow
open Go.ChangeShapes Go.WideShapes Go.ChangeAt Go.RowKit Go.Joins Go.Deep Go.Proofs.YtphpmgdakalnjaaGreatDoor.Path
theorem laidOut : laidOutB Tryz.prog = true := by kernel_rfl
theorem add_none {a : Addr} (h : a.spot = none) (j : Nat) : a.add j = ⟨a.block, a.off + j, none⟩ := by
 cases a with
 | mk b o s =>
  simp only at h
  subst h
  unfold Addr.add
  split
  ·rename_i h0; subst h0; rfl
  ·rfl
theorem spot_none {w : World} {a : Addr} {v : Value} (h : w.cell? a = some v) : a.spot = none := by
 unfold World.cell? at h
 split at h
 ·cases hs : a.spot with
  | none => rfl
  | some x => rw [hs] at h; simp at h
 ·cases h
section
variable {H : Type} {enc : TypeId × Value → H} {W : World}
set_option maxRecDepth 100000 in
theorem open_strs {n : Nat} {v : Value} {y : DataW H × List MemPlace} (h : DataW.trod enc Tryz.prog W 0 (fun _ => true) true n 22 [v] = some y) : ∃ l, StrRow W 0 v l ∧ l.length ≤ 9223372036854775807 := by
 rcases open_strings Tryz.underlying22 Tryz.underlying9 (by kernel_rfl) h with ⟨hcs, _⟩ | ⟨a, len, cap, ss, hcs, _, hl, hm, hz, _, hcell, _⟩
 ·injection hcs with hcs
  subst hcs
  exact ⟨[], StrRow.nil _ _ _ _, by simp⟩
 ·injection hcs with hcs
  subst hcs
  simp only [if_true] at hz
  have hlen : (ss.take len).length = len := by rw [List.length_take]; omega
  have hmx : cap ≤ 9223372036854775807 := by have := hm; unfold maxLen at this; omega
  refine ⟨ss.take len, ⟨some a, cap, by rw [hlen], by rw [hlen]; exact hl, fun hp => ?_⟩, by rw [hlen]; omega⟩
  rw [hlen] at hp
  have hsp : a.spot = none := spot_none (show W.cell? a = _ by have := hcell 0 (by omega); rwa [show a.add 0 = a by simp [Addr.add]] at this)
  refine ⟨a.block, a.off, by cases a; simp only at hsp; subst hsp; rfl, Nat.zero_le _, fun j hj => ?_⟩
  have hj2 : j < len := by rw [hlen] at hj; exact hj
  have := hcell j (by omega)
  rw [add_none hsp] at this
  rw [this]
  congr 2
  rw [List.getElem_take, List.getD_eq_getElem?_getD, List.getElem?_eq_getElem (by omega)]
  rfl
set_option maxRecDepth 100000 in
theorem open_fmts {n : Nat} {v : Value} {y : DataW H × List MemPlace} (h : DataW.trod enc Tryz.prog W 0 (fun _ => true) true n 23 [v] = some y) : ∃ l, FmtRow W 0 v l ∧ l.length ≤ 9223372036854775807 := by
 rcases open_slice Tryz.underlying23 h with ⟨hcs, _⟩ | ⟨a, len, cap, m, n2, D, Pl, hcs, _, hl, hm, hmm, _, hi⟩
 ·injection hcs with hcs
  subst hcs
  exact ⟨[], ⟨none, 0, rfl, Nat.le_refl _, fun h => absurd h (by simp)⟩, by simp⟩
 ·injection hcs with hcs
  subst hcs
  simp only [if_true] at hmm
  have hmx : cap ≤ 9223372036854775807 := by have := hm; unfold maxLen at this; omega
  have h2 : Tryz.prog.cellsOf 52 = 2 := by kernel_rfl
  have each : ∀ i, i < len → ∃ x : ByteArray × ByteArray, W.cell? (a.add (i * 2)) = some (.string x.1) ∧ W.cell? (a.add (i * 2 + 1)) = some (.string x.2) := by
   intro i hil
   obtain ⟨cs, hc, ht⟩ := hi i (by omega)
   rw [h2] at hc
   obtain ⟨_, hcl, hat⟩ := World.cells?_some hc
   obtain ⟨y0, y1, n3, _, _, h0, h1⟩ := trod_struct2 Tryz.underlying52 ht
   match cs, hcl with
   | [c0, c1], _ =>
    have e0 : DataW.trod enc Tryz.prog W 0 (fun _ => true) true n3 9 [c0] = some y0 := h0
    have e1 : DataW.trod enc Tryz.prog W 0 (fun _ => true) true n3 9 [c1] = some y1 := h1
    obtain ⟨s0, hs0, _⟩ := DataW.trod_string Tryz.underlying9 e0
    obtain ⟨s1, hs1, _⟩ := DataW.trod_string Tryz.underlying9 e1
    injection hs0 with hs0
    injection hs1 with hs1
    subst hs0 hs1
    have a0 := hat 0 (by omega)
    have a1 := hat 1 (by omega)
    rw [Go.Deep.add_add] at a0 a1
    exact ⟨(s0, s1), a0, a1⟩
  obtain ⟨f, hf⟩ := choose_lt each
  have hlen : ((List.range len).map f).length = len := by simp
  refine ⟨(List.range len).map f, ⟨some a, cap, by rw [hlen], by rw [hlen]; exact hl, fun hp => ?_⟩, by rw [hlen]; omega⟩
  rw [hlen] at hp
  have hsp : a.spot = none := spot_none (show W.cell? a = _ by have := (hf 0 hp).1; rwa [show a.add (0 * 2) = a by simp [Addr.add]] at this)
  refine ⟨a.block, a.off, by cases a; simp only at hsp; subst hsp; rfl, Nat.zero_le _, fun j hj => ?_⟩
  have hj2 : j < len := by rw [hlen] at hj; exact hj
  obtain ⟨g1, g2⟩ := hf j hj2
  rw [add_none hsp] at g1 g2
  rw [g1, g2]
  simp
set_option maxRecDepth 100000 in
theorem open_site {r : Reach} {base : Nat} {v : Value} {d : DataW H} {p : List MemPlace} (hv : Value.okWide Tryz.prog W r base 25 v) (h : DataW.Trod enc Tryz.prog W 0 (fun _ => true) true 25 v d p) :
 ∃ st vl vd vf vc, v = .agg #[vl, vd, vf, vc] ∧ SiteArg W st vl vd vf vc := by
 obtain ⟨v0, v1, v2, v3, y0, y1, y2, y3, n, rfl, _, _, h0, h1, h2, h3⟩ := open_agg4 Tryz.underlying25 (by kernel_rfl) (by kernel_rfl) hv h
 obtain ⟨l0, s0, z0⟩ := open_strs h0
 obtain ⟨l1, s1, z1⟩ := open_strs h1
 obtain ⟨l2, s2, z2⟩ := open_fmts h2
 obtain ⟨l3, s3, z3⟩ := open_strs h3
 exact ⟨⟨l0, l1, l2, l3⟩, v0, v1, v2, v3, rfl, ⟨⟨s0, s1, s2, s3⟩, z0, z1, z2, z3⟩⟩
end
end Go.Proofs.YtphpmgdakalnjaaGreatDoor.SiteRow
