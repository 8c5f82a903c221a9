/- What the texts before left out. Condition: as told at each. -/
import Derived.Below
import Derived.Deep.Draws
import Derived.Deep.AppendLies
import Derived.Maps.AppendAt
import Derived.OwnWalk
import Derived.Laws.BytesArg
import Derived.Laws.MakeOwn
import Derived.Laws.OwnMore
import Derived.Deep.OwnRows
import Derived.Tactics
import Derived.Lib.ConvBytes
import Derived.Laws.Slices
import Derived.WalkKit
import Derived.KernelRfl
import Derived.RowKit3
import Derived.Deep.LoopGhost
import Derived.Deep.QuietTactic
import Derived.BigQuiet
import Derived.WideLaws
import Derived.Deep.DeepCutAuto
import Derived.Deep.CutBlock
import Derived.Deep.RegionHeld3
import Derived.Laws.Rows
import Derived.Lib.AppendStr
import Derived.ArgAppend
import Derived.Laws.IdiomCopy
import Derived.RowKit
import Derived.Test.YtphpmgdakalnjaaGreatDoorQ1
import Derived.Test.YtphpmgdakalnjaaGreatDoorQ15
import Derived.Test.YtphpmgdakalnjaaGreatDoorQ2
import Derived.Test.YtphpmgdakalnjaaGreatDoorQ3
import Derived.Test.YtphpmgdakalnjaaGreatDoorQ8
import Derived.Test.YtphpmgdakalnjaaGreatDoorQ9
set_option linter.unusedVariables false
set_option linter.unusedSimpArgs false
namespace Go.Proofs.YtphpmgdakalnjaaGreatDoorW.PrintWords
open Go.RowKit
theorem ReadsInt.ofRow {k : IntKind} {w : World} {a : Option Addr} {len cap : Nat} {zs : List Int} (h : (a = none ∧ len = 0 ∧ cap = 0 ∧ zs = []) ∨ ∃ x, a = some x ∧ len ≤ cap ∧ cap ≤ maxLen ∧ zs.length = cap ∧ (∀ i, i < zs.length → w.cell? (x.add i) = some (.int k (zs.getD i 0))) ∧ ∀ n ∈ zs, (Lit.int k n).wf = true) :
 ∃ l : List Int, len = l.length ∧ ReadsInt w k a l.length l ∧ l.length ≤ maxLen ∧ ∀ x ∈ l, (Lit.int k x).wf = true := by
 rcases h with ⟨rfl, rfl, rfl, rfl⟩ | ⟨x, rfl, hl, hm, hz, hc, hw⟩
 ·exact ⟨[], rfl, ReadsInt.nil _ _, Nat.zero_le _, fun x hx => by simp at hx⟩
 ·have e : (zs.take len).length = len := by simp; omega
  have hm' : len ≤ maxLen := Nat.le_trans hl hm
  refine ⟨zs.take len, e.symm, ⟨rfl, by rw [e]; simpa [maxLen] using hm', fun _ => ⟨x, rfl, fun j hj => ?_⟩⟩, by rw [e]; exact hm', fun y hy => hw y (List.mem_of_mem_take hy)⟩
  rw [e] at hj
  rw [hc j (by omega)]
  simp [List.getD, List.getElem?_take, hj]
theorem ReadsInt.ofRowC {k : IntKind} {w : World} {a : Option Addr} {len cap : Nat} {zs : List Int} (h : (a = none ∧ len = 0 ∧ cap = 0 ∧ zs = []) ∨ ∃ x, a = some x ∧ len ≤ cap ∧ cap ≤ maxLen ∧ zs.length = cap ∧ (∀ i, i < zs.length → w.cell? (x.add i) = some (.int k (zs.getD i 0))) ∧ ∀ n ∈ zs, (Lit.int k n).wf = true) :
 ∃ l : List Int, len = l.length ∧ ReadsInt w k a l.length l ∧ l.length ≤ maxLen ∧ (∀ x ∈ l, (Lit.int k x).wf = true) ∧ l.length ≤ cap := by
 have hl : len ≤ cap := by
  rcases h with ⟨_, rfl, rfl, _⟩ | ⟨_, _, h, _⟩
  ·exact Nat.le_refl _
  ·exact h
 obtain ⟨l, e, h1, h2, h3⟩ := ReadsInt.ofRow h
 exact ⟨l, e, h1, h2, h3, e ▸ hl⟩
end Go.Proofs.YtphpmgdakalnjaaGreatDoorW.PrintWords
namespace Go.Proofs.YtphpmgdakalnjaaGreatDoor.PCore
open Go.RowKit Go.Proofs.YtphpmgdakalnjaaGreatDoorW.PrintWords Go.Proofs.YtphpmgdakalnjaaGreatDoorW.PrintLast Go.Proofs.YtphpmgdakalnjaaGreatDoorW.PrintMore
attribute [local go_sem] max2_int min2_int max_two min_two max_three min_three max_four min_four   -- for this text's walks alone
set_option linter.unusedVariables false
set_option linter.unusedSimpArgs false
def paths_isSkippedDot.Pure : Prop := ∀ (l0 : List Int) (a1 : Int), l0.length ≤ maxLen → l0.length * 8 ≤ 140737488351232 → (∀ x ∈ l0, (Lit.int .i64 x).wf = true) → (Lit.int .i64 a1).wf = true → ∃ k, paths_isSkippedDot.f k l0 a1 = some true
theorem paths_isSkippedDot.walk (P : paths_isSkippedDot.Pure) (a0 : Option Addr) (len0 cap0 : Nat) (z0 : List Int) (a1 : Int) (w : World) (w0 : (a0 = none ∧ len0 = 0 ∧ cap0 = 0 ∧ z0 = []) ∨ ∃ x, a0 = some x ∧ len0 ≤ cap0 ∧ cap0 ≤ maxLen ∧ z0.length = cap0 ∧ (∀ i, i < z0.length → w.cell? (x.add i) = some (.int .i64 (z0.getD i 0))) ∧ ∀ n ∈ z0, (Lit.int .i64 n).wf = true) (y0 : len0 * 8 ≤ 140737488351232) (w1 : (Lit.int .i64 a1).wf = true) :
 Calls Tryz.prog 113 #[.slice a0 len0 cap0, .int .i64 a1] w fun e w' => e = .returned (.bool true) ∧ Below w.heap.size w w' := by
 obtain ⟨l0, rfl, hr0, hm0, hw0, hc0⟩ := ReadsInt.ofRowC w0
 obtain ⟨k, h⟩ := P l0 a1 hm0 y0 hw0 w1
 refine (paths_isSkippedDot.calls k _ _ l0 a1 true w (Kd.C_of_reads (d := (0 : Int)) (h1 := fun _ => rfl) hr0) hc0 h).mono ?_
 rintro e w' ⟨rfl, hd⟩
 exact ⟨rfl, hd.below⟩
def paths_zzContains.Pure : Prop := ∀ (a0 : ByteArray) (a1 : ByteArray), a0.size ≤ 140737488351232 → a1.size ≤ 140737488351232 → ∃ k, paths_zzContains.f k a0 a1 = some true
theorem paths_zzContains.walk (P : paths_zzContains.Pure) (a0 : ByteArray) (a1 : ByteArray) (w : World) (w0 : a0.size ≤ 140737488351232) (w1 : a1.size ≤ 140737488351232) :
 Calls Tryz.prog 112 #[.string a0, .string a1] w fun e w' => e = .returned (.bool true) ∧ Below w.heap.size w w' := by
 obtain ⟨k, h⟩ := P a0 a1 w0 w1
 refine (paths_zzContains.calls k a0 a1 true w h).mono ?_
 rintro e w' ⟨rfl, hd⟩
 exact ⟨rfl, hd.below⟩
def files_IsContentDataExt.Pure : Prop := ∀ (a0 : ByteArray), a0.size ≤ 140737488351232 → files_IsContentDataExt.f a0 = some true
theorem files_IsContentDataExt.walk (P : files_IsContentDataExt.Pure) (a0 : ByteArray) (w : World) (w0 : a0.size ≤ 140737488351232) :
 Calls Tryz.prog 115 #[.string a0] w fun e w' => e = .returned (.bool true) ∧ Below w.heap.size w w' := by
 have h := P a0 w0
 refine (files_IsContentDataExt.calls a0 true w h).mono ?_
 rintro e w' ⟨rfl, hd⟩
 exact ⟨rfl, hd.below⟩
def laws_begins.Pure : Prop := ∀ (a0 : ByteArray) (a1 : ByteArray), a0.size ≤ 140737488351232 → a1.size ≤ 140737488351232 → laws_begins.f a0 a1 = some true
theorem laws_begins.walk (P : laws_begins.Pure) (a0 : ByteArray) (a1 : ByteArray) (w : World) (w0 : a0.size ≤ 140737488351232) (w1 : a1.size ≤ 140737488351232) :
 Calls Tryz.prog 23 #[.string a0, .string a1] w fun e w' => e = .returned (.bool true) ∧ Below w.heap.size w w' := by
 have h := P a0 a1 w0 w1
 refine (laws_begins.calls a0 a1 true w h).mono ?_
 rintro e w' ⟨rfl, hd⟩
 exact ⟨rfl, hd.below⟩
def laws_holds.Pure : Prop := ∀ (a0 : ByteArray) (a1 : ByteArray), a0.size ≤ 140737488351232 → a1.size ≤ 140737488351232 → ∃ k, laws_holds.f k a0 a1 = some true
theorem laws_holds.walk (P : laws_holds.Pure) (a0 : ByteArray) (a1 : ByteArray) (w : World) (w0 : a0.size ≤ 140737488351232) (w1 : a1.size ≤ 140737488351232) :
 Calls Tryz.prog 18 #[.string a0, .string a1] w fun e w' => e = .returned (.bool true) ∧ Below w.heap.size w w' := by
 obtain ⟨k, h⟩ := P a0 a1 w0 w1
 refine (laws_holds.calls k a0 a1 true w h).mono ?_
 rintro e w' ⟨rfl, hd⟩
 exact ⟨rfl, hd.below⟩
end Go.Proofs.YtphpmgdakalnjaaGreatDoor.PCore
