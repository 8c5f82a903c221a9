/- What NormalizePathStringBasic answers on ASCII text: each byte in its normal form. Condition: the text is ASCII and no longer than the form's reach. -/
import Derived.Test.YtlmhngnbmoahdaaDoorLower
import Derived.Test.YtlmhngnbmoahdaaDoorIndex
import Derived.Test.YtlmhngnbmoahdaaDoorShelf
namespace Go.Proofs.YtlmhngnbmoahdaaDoor.Norm
open Go.RowKit Go.Proofs.YtlmhngnbmoahdaaDoorW.PrintWords Go.Proofs.YtlmhngnbmoahdaaDoor.Base Go.Proofs.YtlmhngnbmoahdaaDoor.Lower Go.Proofs.YtlmhngnbmoahdaaDoor.Index

theorem bytesOf_append (a b : ByteArray) : bytesOf (a ++ b) = bytesOf a ++ bytesOf b := by simp [bytesOf]
theorem strOf_bytes (a : ByteArray) : strOfNums (bytesOf a) = a := by
  apply L_inj
  have e : L (strOfNums (bytesOf a)) = (bytesOf a).map fun n => UInt8.ofNat n.toNat := strOfNums_data _
  rw [e, bytesOf, List.map_map]
  conv => rhs; rw [← List.map_id (L a)]
  refine List.map_congr_left fun b _ => ?_
  simp
theorem hyp_none (l : List UInt8) (h : ∀ x ∈ l, x ≠ 32) : l.map hypB = l := by
  conv => rhs; rw [← List.map_id l]
  refine List.map_congr_left fun b hb => ?_
  unfold hypB
  rw [if_neg (h b hb)]
  rfl
theorem info5 : (Tryd.prog.info? 5).map (fun i => (i.zero, i.size, i.bytes)) = some (some (.int .u8 0), 1, 1) := by kernel_rfl

/-- How long a text is that lies in a slot. -/
def strLen : Value → Nat
  | .string r => r.size
  | _ => 0
set_option maxHeartbeats 800000 in
theorem replace_calls (s : ByteArray) (w : World) (hs : s.size ≤ 140737488351232) :
    Calls Tryd.prog 16 #[.string s, .string ⟨#[32]⟩, .string ⟨#[45]⟩] w fun e w' => e = .returned (.string (hyp s)) ∧ Below w.heap.size w w' := by
  have hinf := info5
  have HINF := Aside0.mk hinf
  clear hinf
  go_enter Tryd.func16, Tryd.ntmps16
  go_wp2_with fail
  go_loopw [0, 7] (fun sv ov wr => ∃ (rest done : ByteArray), sv = .string rest ∧ Aside0 (wr.ownsRow w.heap.size 5 1 ov (bytesOf done).length (nums .u8 (bytesOf done))) ∧ Aside0 (L done ++ (L rest).map hypB = (L s).map hypB) ∧ done.size + rest.size ≤ 140737488351232 ∧ Aside0 (Below w.heap.size w wr))
    (fun sv _ _ => strLen sv)
  case atStart => exact ⟨s, ByteArray.empty, rfl, ⟨own_nil _ _ _ _⟩, ⟨by simp [L]⟩, by simp; exact hs, ⟨Below.refl _ _⟩⟩
  case round =>
    obtain ⟨rest, done, rfl, HO, HT, hsz, HB⟩ := hrel
    have hl := L_length rest
    have hld : (bytesOf done).length = done.size := bytesOf_length done
    have hb := HB.out.size
    rcases idx_one 32 (L rest) with ⟨h1, h2⟩ | ⟨n, h1, h2, h3, h4⟩
    · have e : hyp s = done ++ rest := by
        apply L_inj
        rw [L_hyp, ← HT.out, L_append, hyp_none _ h2]
      have HE := Aside0.mk e
      have hz := fun w => zzIndex_is rest ⟨#[32]⟩ (-1) w (by omega) (by decide) (by decide) (by show idxI (idx [32] (L rest)) = -1; rw [h1]; rfl)
      have HLD := Aside0.mk hld
      clear e h1 h2 hld hl
      go_wp2_with fail
      (with_reducible refine (hz _).mono ?_)
      rintro e w' ⟨rfl, ⟨nd, rfl⟩⟩
      go_wp2_with (at_builtin; refine print_append_str (w0 := w) w.heap.size rfl _ _ 25 9 5 rfl Tryd.underlying25 Tryd.underlying9 HINF.out _ (bytesOf done) rest rfl rfl (pw_own_drewN HO.out _) ?hb ?hs ?hz ?_)
      case hb => exact below_then HB.out hb (Drawn0.below ⟨⟨_, rfl⟩⟩)
      case hs => simpa using hb
      case hz => rw [HLD.out]; omega
      intro v1 w1 ho1 hb1 hg1
      have hstr := own_string (P := Tryd.prog) (src := 25) (dst := 9) Tryd.underlying25 Tryd.underlying5 Tryd.underlying9 ho1
      have HO1 := Aside0.mk ho1
      have HB1 := Aside0.mk hb1
      clear ho1 hb1 hg1
      obtain ⟨A1, c1, rfl⟩ := own_slice HO1.out
      go_wp2_with fail
      go_ret
      exact ⟨by rw [HE.out, ← strOf_bytes (done ++ rest), bytesOf_append]; rfl, HB1.out⟩
    · have hn : n < rest.size := by omega
      have hz := fun w => zzIndex_is rest ⟨#[32]⟩ n w (by omega) (by decide) (by decide) (by show idxI (idx [32] (L rest)) = n; rw [h1]; rfl)
      have es1 : (rest.extract 0 n).size = n := by rw [← L_length, L_extract]; simp; omega
      have es2 : (rest.extract (n + 1) rest.size).size = rest.size - (n + 1) := by rw [← L_length, L_extract]; simp; omega
      have eL : L ((done ++ rest.extract 0 n) ++ (⟨#[45]⟩ : ByteArray)) ++ (L (rest.extract (n + 1) rest.size)).map hypB = (L s).map hypB := by
        rw [← HT.out, L_append, L_append, L_extract, L_extract]
        simp only [List.drop_zero, Nat.sub_zero]
        rw [List.take_of_length_le (l := (L rest).drop (n + 1)) (by simp; omega)]
        conv => rhs; rw [h3]
        rw [List.map_append, hyp_none _ h4, List.map_cons]
        simp only [List.append_assoc]
        rfl
      have HE := Aside0.mk eL
      have HS1 := Aside0.mk es1
      have HS2 := Aside0.mk es2
      have HLD := Aside0.mk hld
      clear h1 h2 h3 h4 hld hl eL es1 es2
      go_wp2_with fail
      (with_reducible refine (hz _).mono ?_)
      rintro e w' ⟨rfl, ⟨nd, rfl⟩⟩
      go_wp2_with (at_builtin; refine print_append_str (w0 := w) w.heap.size rfl _ _ 25 9 5 rfl Tryd.underlying25 Tryd.underlying9 HINF.out _ (bytesOf done) (rest.extract 0 n) rfl rfl (pw_own_drewN HO.out _) ?hb ?hs ?hz ?_)
      case hb => exact below_then HB.out hb (Drawn0.below ⟨⟨_, rfl⟩⟩)
      case hs => simpa using hb
      case hz => rw [HLD.out, HS1.out]; omega
      intro v1 w1 ho1 hb1 hg1
      have hsz1 : w.heap.size ≤ w1.heap.size := hb1.size
      obtain ⟨xs1, hx1⟩ : ∃ xs1, bytesOf done ++ bytesOf (rest.extract 0 n) = xs1 := ⟨_, rfl⟩
      try rw [← List.length_append] at ho1
      rw [hx1] at ho1
      have HX1 := Aside0.mk hx1
      clear hx1
      have HO1 := Aside0.mk ho1
      have HB1 := Aside0.mk hb1
      clear ho1 hb1 hg1
      go_wp2_with (at_builtin; refine print_append_str (w0 := w) w.heap.size rfl _ _ 25 9 5 rfl Tryd.underlying25 Tryd.underlying9 HINF.out _ xs1 ⟨#[45]⟩ rfl rfl HO1.out HB1.out ?hs2 ?hz2 ?_)
      case hs2 => exact hsz1
      case hz2 => rw [← HX1.out, ← bytesOf_append, bytesOf_length, size_append, HS1.out]; show _ + 1 ≤ _; omega
      intro v2 w2 ho2 hb2 hg2
      have HO2 := Aside0.mk ho2
      have HB2 := Aside0.mk hb2
      clear ho2 hb2 hg2
      obtain ⟨A2, c2, rfl⟩ := own_slice HO2.out
      go_wp2_with fail
      go_roundw
      case rel =>
        refine ⟨rest.extract (n + 1) rest.size, (done ++ rest.extract 0 n) ++ (⟨#[45]⟩ : ByteArray), rfl, ⟨?_⟩, HE, ?_, HB2⟩
        · rw [bytesOf_append, bytesOf_append, HX1.out]; simpa using HO2.out
        · rw [size_append, size_append, HS1.out, HS2.out]; show _ + 1 + _ ≤ _; omega
      case measure => simp [strLen]; omega

theorem normalizeBasic_calls (s : ByteArray) (w : World) (hs : s.size ≤ 140737488351232) (ha : ∀ c ∈ L s, c.toNat ≤ 127) :
    Calls Tryd.prog 12 #[.string s] w fun e w' => e = .returned (.string (norm s)) ∧ Below w.heap.size w w' := by
  have e : (⟨(Lib.toLowerA s.data.toList).toArray⟩ : ByteArray) = low s := by
    unfold low Lib.toLowerA
    congr 2
    refine List.map_congr_left fun c _ => ?_
    unfold Lib.lowerB Lib.isUpperB lowB
    simp [UInt8.le_iff_toNat_le]
  have h1 := fun w => Tryd.strings_ToLower_ascii s w (by omega) (fun j b hb => by have := ha b (List.mem_of_getElem? hb); omega)
  rw [e] at h1
  have hn : norm s = hyp (low s) := rfl
  have HN := Aside0.mk hn
  have hsz : (low s).size ≤ 140737488351232 := by rw [low_size]; exact hs
  clear hn e
  go_enter Tryd.func12, Tryd.ntmps12
  go_wp2_with fail
  (with_reducible refine (h1 _).mono ?_)
  rintro e w1 ⟨rfl, HB1⟩
  have HB1 := Aside0.mk HB1
  go_wp2_with fail
  (with_reducible refine (replace_calls (low s) _ hsz).mono ?_)
  rintro e w2 ⟨rfl, HB2⟩
  have HB2 := Aside0.mk HB2
  go_wp2_with fail
  go_ret
  exact ⟨by rw [HN.out]; rfl, below_then HB1.out HB1.out.size HB2.out⟩

end Go.Proofs.YtlmhngnbmoahdaaDoor.Norm
