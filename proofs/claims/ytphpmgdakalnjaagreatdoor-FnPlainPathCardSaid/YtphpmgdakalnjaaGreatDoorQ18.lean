/- Texts that the law leans on: Impl, Asc, Total, Total2. Condition: as told at each. -/
import Derived.Test.YtphpmgdakalnjaaGreatDoorQ17
set_option linter.unusedSimpArgs false
set_option linter.unusedVariables false
namespace Go.Proofs.YtphpmgdakalnjaaGreatDoor.Path
open Go.RowKit Go.WideMaps Go.Proofs.YtphpmgdakalnjaaGreatDoorW.PrintWords Go.Proofs.YtphpmgdakalnjaaGreatDoor.Base Go.Proofs.YtphpmgdakalnjaaGreatDoor.Lower
structure SiteIn (w : World) (st : SiteV) (vl vd vf vc : Value) : Prop where
 l : StrRow w 0 vl st.langs
 d : StrRow w 0 vd st.dis
 f : FmtRow w 0 vf st.fmts
 c : StrRow w 0 vc st.cont
theorem SiteIn.below {w w' : World} {st : SiteV} {vl vd vf vc : Value} (H : SiteIn w st vl vd vf vc) (hb : Below w.heap.size w w') : SiteIn w' st vl vd vf vc :=
 ⟨H.l.below hb, H.d.below hb, H.f.below hb, H.c.below hb⟩
def Told (w : World) (B : Nat) (p : PathV) (v1 v2 v3 : Value) : Prop := StrRow w B v1 (mLangs p) ∧ StrRow w B v2 (mIds p) ∧ StrRow w B v3 (mUnk p)
theorem Told.below {w w' : World} {B : Nat} {p : PathV} {v1 v2 v3 : Value} (H : Told w B p v1 v2 v3) (hb : Below w.heap.size w w') : Told w' B p v1 v2 v3 := ⟨H.1.below hb, H.2.1.below hb, H.2.2.below hb⟩
def toldC (t : ToldV) (v1 v2 v3 : Value) : Array Value := (toldList t v1 v2 v3).toArray
theorem toldC_size (t : ToldV) (v1 v2 v3 : Value) : (toldC t v1 v2 v3).size = 31 := rfl
theorem toldVal_agg (t : ToldV) (v1 v2 v3 : Value) : toldVal t v1 v2 v3 = .agg (toldC t v1 v2 v3) := rfl
theorem toldC_one (t : ToldV) (A1 A2 A3 : Option Addr) (n1 n2 n3 c1 c2 c3 : Nat) : (toldC t (.slice A1 n1 c1) (.slice A2 n2 c2) (.slice A3 n3 c3)).all (·.oneCell') = true := by kernel_rfl
def TZ : Array Value := #[.string ⟨#[]⟩, .string ⟨#[]⟩, .string ⟨#[]⟩, .string ⟨#[]⟩, .string ⟨#[]⟩, .string ⟨#[]⟩, .string ⟨#[]⟩, .string ⟨#[]⟩, .string ⟨#[]⟩, .string ⟨#[]⟩, .string ⟨#[]⟩, .string ⟨#[]⟩, .string ⟨#[]⟩, .string ⟨#[]⟩, .string ⟨#[]⟩, .string ⟨#[]⟩, .string ⟨#[]⟩, .string ⟨#[]⟩, .string ⟨#[]⟩, .string ⟨#[]⟩, .string ⟨#[]⟩, .slice none 0 0, .slice none 0 0, .slice none 0 0, .bool false, .bool false, .bool false, .bool false, .bool false, .bool false, .int .i64 0]
section
variable {w : World} {st : SiteV} {vl vd vf vc : Value}
set_option maxRecDepth 100000 in
set_option maxHeartbeats 4000000 in
theorem implParse_calls (S : SiteIn w st vl vd vf vc) (OS : SiteOk st) (comp s : ByteArray) (hs : s.size ≤ 900000) (ha : asc s) :
 Calls Tryz.prog 22 #[.agg #[vl, vd, vf, vc], .string comp, .string s] w fun e w' =>
  ∃ v1 v2 v3, e = .returned (toldVal (mTold (mPath (envOf st) comp (norm s))) v1 v2 v3) ∧ Told w' w.heap.size (mPath (envOf st) comp (norm s)) v1 v2 v3 ∧ Below w.heap.size w w' := by
 have HSI := Aside0.mk S
 have hok := mPath_ok (envOf st) comp (norm s) (by rw [norm_size]; exact hs)
 have HOK := Aside0.mk hok
 have HA := Aside0.mk ha
 obtain ⟨Al, cl, rfl, _, _⟩ := S.l
 obtain ⟨Ad, cd, rfl, _, _⟩ := S.d
 obtain ⟨Af, cf, rfl, _, _⟩ := S.f
 obtain ⟨Ac, cc, rfl, _, _⟩ := S.c
 clear S hok ha
 have hB1 : Below w.heap.size w (w.alloc (.cells #[.slice Al st.langs.length cl, .slice Ad st.dis.length cd, .slice Af st.fmts.length cf, .slice Ac st.cont.length cc] 25)) := (Below.refl _ _).alloc (Nat.le_refl _) _
 have hR1 := Row.new w [.slice Al st.langs.length cl, .slice Ad st.dis.length cd, .slice Af st.fmts.length cf, .slice Ac st.cont.length cc] 25
 have hs1 : w.heap.size < (w.alloc (.cells #[.slice Al st.langs.length cl, .slice Ad st.dis.length cd, .slice Af st.fmts.length cf, .slice Ac st.cont.length cc] 25)).heap.size := by simp
 go_enter Tryz.func22, Tryz.ntmps22
 go_upto_region 1 with fail
 obtain ⟨w1, hw1⟩ : ∃ w1, w.alloc (.cells #[.slice Al st.langs.length cl, .slice Ad st.dis.length cd, .slice Af st.fmts.length cf, .slice Ac st.cont.length cc] 25) = w1 := ⟨_, rfl⟩
 have hz1 : w1.heap.size = w.heap.size + 1 := by rw [← hw1]; simp
 rw [hw1] at hB1 hR1 hs1 ⊢
 clear hw1
 have hB2 : Below w1.heap.size w1 (w1.alloc (.cells toldZero.toArray 28)) := (Below.refl _ _).alloc (Nat.le_refl _) _
 have hR2 : Row (w1.alloc (.cells toldZero.toArray 28)) w1.heap.size toldZero := Row.new w1 toldZero _
 rw [show toldZero.toArray = TZ from rfl] at hB2 hR2
 obtain ⟨w2, hw2⟩ : ∃ w2, w1.alloc (.cells TZ 28) = w2 := ⟨_, rfl⟩
 rw [hw2] at hB2 hR2
 change Code.wp _ _ _ _ (w1.alloc (.cells TZ 28))
 rw [hw2]
 clear hw2
 rw [hz1] at hR2
 have hB : Below w.heap.size w w2 := hB1.trans (hB2.mono (by omega))
 have hRs := hR1.below hB2 hs1
 have r0 := hRs.at 0 _ rfl
 have r1 := hRs.at 1 _ rfl
 have r2 := hRs.at 2 _ rfl
 have r3 := hRs.at 3 _ rfl
 have HB := Aside0.mk hB
 have HR2 := Aside0.mk hR2
 have hlt2 : w.heap.size + 1 < w2.heap.size := hR2.lt (by decide)
 have cp := parser_calls (HSI.out.l.below hB) (HSI.out.d.below hB) (HSI.out.f.below hB) (HSI.out.c.below hB) OS
 clear hB1 hR1 hs1 hB2 hR2 hB hRs hz1
 go_wp2_with fail
 refine cp.mono ?_
 rintro e w3 ⟨pb, mb, sb, fb, rfl, hS, hb3⟩
 have cP := Parse_calls hS OS comp s hs HA.out
 have HB3 := Aside0.mk hb3
 clear cp hS hb3 r0 r1 r2 r3
 go_wp2_with fail
 refine cP.mono ?_
 rintro e w4 ⟨b, ub, vk, vu, vl, rfl, hp, hb4⟩
 have ct := told_calls hp.1 HOK.out.1 HOK.out.2.1 HOK.out.2.2
 have HB4 := Aside0.mk (below_step HB3.out hb4)
 clear cP hp hb4
 go_wp2_with fail
 refine ct.mono ?_
 rintro e w5 ⟨v1, v2, v3, rfl, hs1, hs2, hs3, hb5⟩
 have HB5 := Aside0.mk (below_step HB4.out hb5)
 have hz5 := HB4.out.size
 have S1 := Aside0.mk hs1
 have S2 := Aside0.mk hs2
 have S3 := Aside0.mk hs3
 obtain ⟨A1, c1, e1, _⟩ := S1.out
 obtain ⟨A2, c2, e2, _⟩ := S2.out
 obtain ⟨A3, c3, e3, _⟩ := S3.out
 clear ct hb5 hs1 hs2 hs3
 obtain ⟨C, hC⟩ : ∃ C : Array Value, toldC (mTold (mPath (envOf st) comp (norm s))) v1 v2 v3 = C := ⟨_, rfl⟩
 have hval : toldVal (mTold (mPath (envOf st) comp (norm s))) v1 v2 v3 = .agg C := by rw [← hC]; rfl
 have hCs : C.size = 31 := by rw [← hC]; rfl
 have hl : C.toList.length = 31 := by simpa using hCs
 have hone : C.all (·.oneCell') = true := by rw [← hC, e1, e2, e3]; exact toldC_one _ _ _ _ _ _ _ _ _ _
 have HV := Aside0.mk hval
 rw [hval]
 clear hval e1 e2 e3
 have HC := Aside0.mk hC
 have hRf := HR2.out.below HB5.out hlt2
 have ht : World.there _ (w.heap.size + 1) 0 31 := hRf.there
 dsimp only
 refine (show ∀ (a : Act) (w : World), wpList _ _ _ _ a w → _ from by assumption) _ _ ?_
 refine wpList_store_mid rfl 28 _ _ rfl (w.heap.size + 1) 0 C rfl rfl (by rw [hCs]; exact ht) (by rw [hCs]; kernel_rfl) hone ?_
 have hr := World.rangeAt_setCells_same _ (w.heap.size + 1) 0 C.toList (by rw [hl]; exact ht)
 have hld := run_loadVar_mid (P := Tryz.prog) _ (w.heap.size + 1) 0 28 C.toList _ hr Tryz.underlying28 rfl (by rw [hl]; kernel_rfl)
 have hfar : ∀ k, k ≠ w.heap.size + 1 → (w5.setCells (w.heap.size + 1) 0 C.toList).heap[k]? = w5.heap[k]? := fun k hk => setCells_far _ _ k hk
 have hbel : Below w.heap.size w (w5.setCells (w.heap.size + 1) 0 C.toList) := below_setCells (Nat.le_succ _) _ _ _ (HB.out.trans (HB5.out.mono HB.out.size))
 obtain ⟨W, hW⟩ : ∃ W, w5.setCells (w.heap.size + 1) 0 C.toList = W := ⟨_, rfl⟩
 rw [hW] at hld hbel hfar ⊢
 have s1 := Aside0.mk (S1.out.far fun k hk _ => hfar k (by omega))
 have s2 := Aside0.mk (S2.out.far fun k hk _ => hfar k (by omega))
 have s3 := Aside0.mk (S3.out.far fun k hk _ => hfar k (by omega))
 have HBel := Aside0.mk hbel
 have hz4 : w.heap.size ≤ w4.heap.size := by omega
 clear hbel hfar hW hr hone hl hCs ht hRf S1 S2 S3
 go_wp2_with fail
 refine bodyPost_ret (v := .agg C) (results_cell Tryz.results22 rfl (by simpa using hld)) rfl ⟨v1, v2, v3, ?_, ⟨s1.out.mono hz4, s2.out.mono hz4, s3.out.mono hz4⟩, HBel.out⟩
 rw [HV.out]
end
end Go.Proofs.YtphpmgdakalnjaaGreatDoor.Path
namespace Go.Proofs.YtphpmgdakalnjaaGreatDoor.Ext
open Go.RowKit Go.Proofs.YtphpmgdakalnjaaGreatDoorW.PrintWords Go.Proofs.YtphpmgdakalnjaaGreatDoor.Base Go.Proofs.YtphpmgdakalnjaaGreatDoor.PCore
def ascii (l : List UInt8) : Bool := l.all fun c => decide (c.toNat ≤ 127)
theorem ascii_cons (c : UInt8) (r : List UInt8) : ascii (c :: r) = (decide (c.toNat ≤ 127) && ascii r) := rfl
theorem ev_Ascii_l0 (s : ByteArray) (hs : s.size ≤ 140737488355328) (d : Nat) : ∀ i : Nat, s.size - i = d → i ≤ s.size → Ev (fun k => spec_Ascii.l0 k s i) (ascii ((L s).drop i)) := by
 have hl := L_length s
 induction d with
 | zero =>
  intro i h1 h2
  have e : (L s).drop i = [] := List.drop_of_length_le (by omega)
  rw [e]
  refine Ev.step (f := fun _ => some true) (fun k => ?_) (Ev.now _)
  simp only [spec_Ascii.l0]
  rw [if_neg (by omega)]
 | succ d ih =>
  intro i h1 h2
  have hi : i < (L s).length := by omega
  have hb := bt_nat s i hi
  have e : (L s).drop i = (L s)[i] :: (L s).drop (i + 1) := List.drop_eq_getElem_cons hi
  rw [e]
  by_cases h : (L s)[i].toNat ≤ 127
  ·have e2 : ascii ((L s)[i] :: (L s).drop (i + 1)) = ascii ((L s).drop (i + 1)) := by rw [ascii_cons, decide_eq_true h, Bool.true_and]
   rw [e2]
   refine Ev.step (f := fun k => spec_Ascii.l0 k s ((i + 1 : Nat) : Int)) (fun k => ?_) (ih (i + 1) (by omega) (by omega))
   simp only [spec_Ascii.l0]
   rw [if_pos (by omega), if_pos (by omega), hb, if_neg (by omega), w64 (by omega) (by omega)]
   rfl
  ·have e2 : ascii ((L s)[i] :: (L s).drop (i + 1)) = false := by rw [ascii_cons, decide_eq_false h, Bool.false_and]
   rw [e2]
   refine Ev.step (f := fun _ => some false) (fun k => ?_) (Ev.now _)
   simp only [spec_Ascii.l0]
   rw [if_pos (by omega), if_pos (by omega), hb, if_pos (by omega)]
theorem ev_Ascii (s : ByteArray) (hs : s.size ≤ 140737488355328) : Ev (fun k => spec_Ascii.f k s) (ascii (L s)) := by
 have h := ev_Ascii_l0 s hs s.size 0 (by omega) (by omega)
 exact h
end Go.Proofs.YtphpmgdakalnjaaGreatDoor.Ext
namespace Go.Proofs.YtphpmgdakalnjaaGreatDoor.Total
open Go.RowKit Go.Proofs.YtphpmgdakalnjaaGreatDoorW.PrintWords Go.Proofs.YtphpmgdakalnjaaGreatDoor.Base Go.Proofs.YtphpmgdakalnjaaGreatDoor.PCore Go.Proofs.YtphpmgdakalnjaaGreatDoor.Ext
def ExEv {α : Type} (g : Nat → Option α) : Prop := ∃ r, Ev g r
theorem ExEv.now {α : Type} (r : α) : ExEv (fun _ => some r) := ⟨r, Ev.now r⟩
theorem ExEv.succ {α : Type} {g : Nat → Option α} (h : ExEv (fun k => g (k + 1))) : ExEv g := by
 obtain ⟨r, h⟩ := h
 exact ⟨r, Ev.step (fun _ => rfl) h⟩
theorem ExEv.ite {α : Type} {c : Prop} [Decidable c] {a b : Nat → Option α} (h1 : c → ExEv a) (h2 : ¬ c → ExEv b) : ExEv (fun k => if c then a k else b k) := by
 by_cases h : c
 ·simpa only [if_pos h] using h1 h
 ·simpa only [if_neg h] using h2 h
theorem ExEv.bind {α β : Type} {g : Nat → Option α} {f : Nat → α → Option β} (h : ExEv g) (k : ∀ a, Ev g a → ExEv (fun n => f n a)) : ExEv (fun n => (g n).bind (f n)) := by
 obtain ⟨a, ha⟩ := h
 obtain ⟨r, hr⟩ := k a ha
 exact ⟨r, Ev.bind ha hr⟩
theorem ExEv.bindC {α β : Type} {x : Option α} {f : Nat → α → Option β} {a : α} (h : x = some a) (k : ExEv (fun n => f n a)) : ExEv (fun n => x.bind (f n)) := by
 subst h
 exact k
theorem Ev.fun_ {α : Type} {g : Nat → Option α} {a b : α} (h : Ev g a) (h' : Ev g b) : a = b := by
 obtain ⟨K, h⟩ := h
 obtain ⟨K', h'⟩ := h'
 have e1 := h (K + K') (by omega)
 have e2 := h' (K + K') (by omega)
 rw [e1] at e2
 exact Option.some.inj e2
theorem rdOf_nat {α : Type} (d : α) (l : List α) (i : Nat) (h : i < l.length) : rdOf d l (i : Int) = l[i] := by
 unfold rdOf
 simp [h]
theorem rd49_nat (l : List S52) (i : Nat) (h : i < l.length) : rd_T52 l (i : Int) = l[i] := by
 unfold rd_T52
 simp [h]
def MM : Nat := 2147483647
def fits2 (l : List ByteArray) : Bool := decide (l.length ≤ MM) && l.all fun s => decide (s.size ≤ MM)
def fits3 (l : List S52) : Bool := decide (l.length ≤ MM) && l.all fun s => decide (s.f0.size ≤ MM) && decide (s.f1.size ≤ MM)
theorem ev_fits2_l0 (l : List ByteArray) (hl : l.length ≤ MM) : ∀ (n j : Nat), l.length - j = n → j ≤ l.length → Ev (fun k => laws_zzFits2.l0 k l (l.length : Int) (j : Int)) ((l.drop j).all fun s => decide (s.size ≤ MM)) := by
 unfold MM at *
 intro n
 induction n with
 | zero =>
  intro j h1 h2
  rw [List.drop_of_length_le (by omega)]
  refine Ev.step (f := fun _ => some true) (fun k => ?_) (Ev.now _)
  simp only [laws_zzFits2.l0]
  rw [if_neg (by omega)]
 | succ n ih =>
  intro j h1 h2
  have hj : j < l.length := by omega
  rw [List.drop_eq_getElem_cons hj, List.all_cons]
  by_cases c : l[j].size ≤ 2147483647
  ·rw [decide_eq_true c, Bool.true_and]
   refine Ev.step (fun k => ?_) (ih (j + 1) (by omega) (by omega))
   simp only [laws_zzFits2.l0]
   rw [if_pos (by omega), if_pos (by omega), if_pos (by omega), rdOf_nat _ _ _ hj, if_neg (by omega), w64 (by omega) (by omega)]
   rfl
  ·rw [decide_eq_false c, Bool.false_and]
   refine Ev.step (f := fun _ => some false) (fun k => ?_) (Ev.now _)
   simp only [laws_zzFits2.l0]
   rw [if_pos (by omega), if_pos (by omega), if_pos (by omega), rdOf_nat _ _ _ hj, if_pos (by omega)]
theorem ev_fits2 (l : List ByteArray) : Ev (fun k => laws_zzFits2.f k l) (fits2 l) := by
 unfold laws_zzFits2.f fits2
 by_cases c : l.length ≤ MM
 ·have := ev_fits2_l0 l c l.length 0 (by omega) (by omega)
  rw [decide_eq_true c, Bool.true_and]
  refine Ev.congr (fun k => ?_) this
  unfold MM at c
  rw [if_neg (by omega)]
  rfl
 ·rw [decide_eq_false c, Bool.false_and]
  refine Ev.congr (fun k => ?_) (Ev.now _)
  unfold MM at c
  rw [if_pos (by omega)]
theorem ev_fits3_l0 (l : List S52) (hl : l.length ≤ MM) : ∀ (n j : Nat), l.length - j = n → j ≤ l.length → Ev (fun k => laws_zzFits3.l0 k l (l.length : Int) (j : Int)) ((l.drop j).all fun s => decide (s.f0.size ≤ MM) && decide (s.f1.size ≤ MM)) := by
 unfold MM at *
 intro n
 induction n with
 | zero =>
  intro j h1 h2
  rw [List.drop_of_length_le (by omega)]
  refine Ev.step (f := fun _ => some true) (fun k => ?_) (Ev.now _)
  simp only [laws_zzFits3.l0]
  rw [if_neg (by omega)]
 | succ n ih =>
  intro j h1 h2
  have hj : j < l.length := by omega
  rw [List.drop_eq_getElem_cons hj, List.all_cons]
  have e4 : laws_zzFits4.f l[j].f0 l[j].f1 = some (decide (l[j].f0.size ≤ 2147483647) && decide (l[j].f1.size ≤ 2147483647)) := by
   unfold laws_zzFits4.f
   by_cases c1 : l[j].f0.size ≤ 2147483647
   ·by_cases c2 : l[j].f1.size ≤ 2147483647
    ·rw [if_neg (by omega), if_neg (by omega), decide_eq_true c1, decide_eq_true c2]; rfl
    ·rw [if_neg (by omega), if_pos (by omega), decide_eq_true c1, decide_eq_false c2]; rfl
   ·rw [if_pos (by omega), decide_eq_false c1]; rfl
  cases c : (decide (l[j].f0.size ≤ 2147483647) && decide (l[j].f1.size ≤ 2147483647)) with
  | true =>
   rw [Bool.true_and]
   refine Ev.step (fun k => ?_) (ih (j + 1) (by omega) (by omega))
   simp only [laws_zzFits3.l0]
   rw [if_pos (by omega), if_pos (by omega), if_pos (by omega), rd49_nat _ _ hj, e4, c, w64 (by omega) (by omega)]
   rfl
  | false =>
   rw [Bool.false_and]
   refine Ev.step (f := fun _ => some false) (fun k => ?_) (Ev.now _)
   simp only [laws_zzFits3.l0]
   rw [if_pos (by omega), if_pos (by omega), if_pos (by omega), rd49_nat _ _ hj, e4, c]
   rfl
theorem ev_fits3 (l : List S52) : Ev (fun k => laws_zzFits3.f k l) (fits3 l) := by
 unfold laws_zzFits3.f fits3
 by_cases c : l.length ≤ MM
 ·have := ev_fits3_l0 l c l.length 0 (by omega) (by omega)
  rw [decide_eq_true c, Bool.true_and]
  refine Ev.congr (fun k => ?_) this
  unfold MM at c
  rw [if_neg (by omega)]
  rfl
 ·rw [decide_eq_false c, Bool.false_and]
  refine Ev.congr (fun k => ?_) (Ev.now _)
  unfold MM at c
  rw [if_pos (by omega)]
def fits1 (a b : List ByteArray) (c : List S52) (d : List ByteArray) : Bool := fits2 a && (fits2 b && (fits3 c && fits2 d))
theorem ev_fits1 (a b : List ByteArray) (c : List S52) (d : List ByteArray) : Ev (fun k => laws_zzFits1.f k a b c d) (fits1 a b c d) := by
 unfold laws_zzFits1.f fits1
 refine Ev.bind (ev_fits2 a) ?_
 cases fits2 a
 ·exact Ev.now _
 ·simp only [if_true, Bool.true_and]
  refine Ev.bind (ev_fits2 b) ?_
  cases fits2 b
  ·exact Ev.now _
  ·simp only [if_true, Bool.true_and]
   refine Ev.bind (ev_fits3 c) ?_
   cases fits3 c
   ·exact Ev.now _
   ·simp only [if_true, Bool.true_and]
    refine Ev.bind (ev_fits2 d) ?_
    cases fits2 d
    ·exact Ev.now _
    ·exact Ev.now _
def wt (l : List ByteArray) : Nat := (l.map ByteArray.size).sum
def wt3 (l : List S52) : Nat := (l.map fun s => 1 + s.f0.size + s.f1.size).sum
theorem ev_few_l0 (l : List ByteArray) (hl : fits2 l = true) : ∀ (n j a : Nat), l.length - j = n → j ≤ l.length → a ≤ MM + j * MM → Ev (fun k => laws_few.l0 k (a : Int) l (l.length : Int) (j : Int)) (decide (a + wt (l.drop j) ≤ 2000)) := by
 unfold fits2 at hl
 simp only [Bool.and_eq_true, decide_eq_true_eq, List.all_eq_true] at hl
 obtain ⟨hl1, hl2⟩ := hl
 unfold MM at *
 intro n
 induction n with
 | zero =>
  intro j a h1 h2 h3
  rw [List.drop_of_length_le (by omega)]
  refine Ev.step (f := fun _ => some (decide ((a : Int) ≤ 2000))) (fun k => ?_) ?_
  ·simp only [laws_few.l0]
   rw [if_neg (by omega)]
  ·have : decide ((a : Int) ≤ 2000) = decide (a + wt [] ≤ 2000) := by unfold wt; simp; omega
   rw [this]
   exact Ev.now _
 | succ n ih =>
  intro j a h1 h2 h3
  have hj : j < l.length := by omega
  have hz := hl2 l[j] (List.getElem_mem hj)
  rw [List.drop_eq_getElem_cons hj]
  have e : a + wt (l[j] :: l.drop (j + 1)) = (a + l[j].size) + wt (l.drop (j + 1)) := by simp only [wt, List.map_cons, List.sum_cons]; omega
  rw [e]
  have hm : (j + 1) * 2147483647 = j * 2147483647 + 2147483647 := by omega
  have hjj : j * 2147483647 ≤ 2147483647 * 2147483647 := by omega
  refine Ev.step (fun k => ?_) (ih (j + 1) (a + l[j].size) (by omega) (by omega) (by omega))
  simp only [laws_few.l0]
  rw [if_pos (by omega), if_pos (by omega), if_pos (by omega), rdOf_nat _ _ _ hj, w64 (n := (j : Int) + 1) (by omega) (by omega), w64 (by omega) (by omega)]
  rfl
def fewB (l : List ByteArray) : Bool := decide (l.length + wt l ≤ 2000)
theorem ev_few (l : List ByteArray) (hl : fits2 l = true) : Ev (fun k => laws_few.f k l) (fewB l) := by
 have h9 := hl
 unfold fits2 at h9
 simp only [Bool.and_eq_true, decide_eq_true_eq] at h9
 exact ev_few_l0 l hl l.length 0 l.length (by omega) (by omega) (by omega)
def shortB (a b : List ByteArray) (c : List S52) (d : List ByteArray) (x y : ByteArray) : Bool := decide (x.size + y.size + wt3 c ≤ 2000) && (fewB a && (fewB b && fewB d))
theorem ev_short_l0 (a b : List ByteArray) (c : List S52) (d : List ByteArray) (h : fits1 a b c d = true) : ∀ (n j x : Nat), c.length - j = n → j ≤ c.length → x ≤ 2 * MM + j * (2 * MM + 1) →
 Ev (fun k => laws_short.l0 k (x : Int) c (c.length : Int) (j : Int) a b c d) (decide (x + wt3 (c.drop j) ≤ 2000) && (fewB a && (fewB b && fewB d))) := by
 unfold fits1 at h
 simp only [Bool.and_eq_true] at h
 obtain ⟨ha, hb, hc, hd⟩ := h
 have hc9 := hc
 unfold fits3 at hc9
 simp only [Bool.and_eq_true, decide_eq_true_eq, List.all_eq_true] at hc9
 obtain ⟨hl1, hl2⟩ := hc9
 intro n
 induction n with
 | zero =>
  intro j x h1 h2 h3
  rw [List.drop_of_length_le (by omega)]
  have e : decide (x + wt3 [] ≤ 2000) = decide ((x : Int) ≤ 2000) := by unfold wt3; simp; omega
  rw [e]
  refine Ev.step (f := fun k => if (x : Int) ≤ 2000 then ((laws_few.f k a).bind fun t105 => (if t105 = true then ((laws_few.f k b).bind fun t106 => (if t106 = true then ((laws_few.f k d).bind fun t107 => (some t107)) else (some false))) else (some false))) else (some false)) (fun k => ?_) ?_
  ·simp only [laws_short.l0]
   rw [if_neg (by omega)]
  ·by_cases cx : (x : Int) ≤ 2000
   ·simp only [if_pos cx, decide_eq_true cx, Bool.true_and]
    refine Ev.bind (ev_few a ha) ?_
    cases fewB a
    ·exact Ev.now _
    ·simp only [if_true, Bool.true_and]
     refine Ev.bind (ev_few b hb) ?_
     cases fewB b
     ·exact Ev.now _
     ·simp only [if_true, Bool.true_and]
      exact Ev.bind (ev_few d hd) (Ev.now _)
   ·simp only [if_neg cx, decide_eq_false cx, Bool.false_and]
    exact Ev.now _
 | succ n ih =>
  intro j x h1 h2 h3
  have hj : j < c.length := by omega
  have hz := hl2 c[j] (List.getElem_mem hj)
  unfold MM at *
  rw [List.drop_eq_getElem_cons hj]
  have e : x + wt3 (c[j] :: c.drop (j + 1)) = (x + (1 + c[j].f0.size + c[j].f1.size)) + wt3 (c.drop (j + 1)) := by simp only [wt3, List.map_cons, List.sum_cons]; omega
  rw [e]
  have hm : (j + 1) * (2 * 2147483647 + 1) = j * (2 * 2147483647 + 1) + (2 * 2147483647 + 1) := by omega
  have hjj : j * (2 * 2147483647 + 1) ≤ 2147483646 * (2 * 2147483647 + 1) := by omega
  refine Ev.step (fun k => ?_) (ih (j + 1) (x + (1 + c[j].f0.size + c[j].f1.size)) (by omega) (by omega) (by omega))
  simp only [laws_short.l0]
  rw [if_pos (by omega), if_pos (by omega), if_pos (by omega), rd49_nat _ _ hj, w64 (n := (j : Int) + 1) (by omega) (by omega), w64 (n := 1 + (c[j].f0.size : Int)) (by omega) (by omega), w64 (n := 1 + (c[j].f0.size : Int) + (c[j].f1.size : Int)) (by omega) (by omega), w64 (by omega) (by omega)]
  have e1 : (x : Int) + (1 + (c[j].f0.size : Int) + (c[j].f1.size : Int)) = ((x + (1 + c[j].f0.size + c[j].f1.size) : Nat) : Int) := by omega
  rw [e1]
  rfl
theorem ev_short (a b : List ByteArray) (c : List S52) (d : List ByteArray) (x y : ByteArray) (h : fits1 a b c d = true) (hx : x.size ≤ MM) (hy : y.size ≤ MM) : Ev (fun k => laws_short.f k a b c d x y) (shortB a b c d x y) := by
 have e := ev_short_l0 a b c d h c.length 0 (x.size + y.size) (by omega) (by omega) (by omega)
 refine Ev.congr (fun k => ?_) e
 unfold laws_short.f
 unfold MM at hx hy
 rw [w64 (by omega) (by omega)]
 rfl
end Go.Proofs.YtphpmgdakalnjaaGreatDoor.Total
namespace Go.Proofs.YtphpmgdakalnjaaGreatDoor.Total
open Go.RowKit Go.Proofs.YtphpmgdakalnjaaGreatDoorW.PrintWords Go.Proofs.YtphpmgdakalnjaaGreatDoor.Base Go.Proofs.YtphpmgdakalnjaaGreatDoor.PCore Go.Proofs.YtphpmgdakalnjaaGreatDoor.Ext
def PEv {α : Type} (P : α → Prop) (g : Nat → Option α) : Prop := ∃ r, Ev g r ∧ P r
section
variable {α β : Type} {P : α → Prop} {Q : β → Prop}
theorem PEv.now {r : α} (h : P r) : PEv P (fun _ => some r) := ⟨r, Ev.now r, h⟩
theorem PEv.succ {g : Nat → Option α} (h : PEv P (fun k => g (k + 1))) : PEv P g := by
 obtain ⟨r, h, hp⟩ := h
 exact ⟨r, Ev.step (fun _ => rfl) h, hp⟩
theorem PEv.ite {c : Prop} [Decidable c] {a b : Nat → Option α} (h1 : c → PEv P a) (h2 : ¬ c → PEv P b) : PEv P (fun k => if c then a k else b k) := by
 by_cases h : c
 ·simpa only [if_pos h] using h1 h
 ·simpa only [if_neg h] using h2 h
theorem PEv.bind {g : Nat → Option α} {f : Nat → α → Option β} (h : PEv P g) (k : ∀ a, P a → PEv Q (fun n => f n a)) : PEv Q (fun n => (g n).bind (f n)) := by
 obtain ⟨a, ha, hp⟩ := h
 obtain ⟨r, hr, hq⟩ := k a hp
 exact ⟨r, Ev.bind ha hr, hq⟩
theorem PEv.bindC {x : Option α} {f : Nat → α → Option β} {a : α} (h : x = some a) (k : PEv Q (fun n => f n a)) : PEv Q (fun n => x.bind (f n)) := by
 subst h
 exact k
theorem PEv.mono {P' : α → Prop} {g : Nat → Option α} (h : PEv P g) (hp : ∀ r, P r → P' r) : PEv P' g := by
 obtain ⟨r, h, h2⟩ := h
 exact ⟨r, h, hp r h2⟩
end
def Any {α : Type} (_ : α) : Prop := True
theorem any {α : Type} (a : α) : Any a := trivial
theorem ex_among (l : List ByteArray) (s : ByteArray) (hl : l.length ≤ 100000000) : PEv Any (fun k => spec_among.f k l s) := by
 have h : ∀ (n : Nat) (i : Int), 0 ≤ i → (l.length : Int) - i ≤ n → PEv Any (fun k => spec_among.l0 k l s i) := by
  intro n
  induction n with
  | zero =>
   intro i h1 h2
   refine PEv.succ ?_
   simp only [spec_among.l0]
   exact PEv.ite (fun h => by exfalso; omega) (fun _ => PEv.now (any _))
  | succ n ih =>
   intro i h1 h2
   refine PEv.succ ?_
   simp only [spec_among.l0]
   refine PEv.ite (fun h => ?_) (fun _ => PEv.now (any _))
   refine PEv.ite (fun _ => ?_) (fun h => by exfalso; omega)
   refine PEv.ite (fun _ => PEv.now (any _)) (fun _ => ?_)
   rw [w64 (by omega) (by omega)]
   exact ih (i + 1) (by omega) (by omega)
 exact h l.length 0 (by omega) (by omega)
def Cuts (n : Int) (r : List Int) : Prop := (∀ x ∈ r, 0 ≤ x ∧ x < n) ∧ r.Pairwise (· < ·)
theorem Cuts.snoc {n i : Int} {r : List Int} (h : Cuts i r) (hi : 0 ≤ i) (hn : i + 1 ≤ n) : Cuts n (r ++ [i]) := by
 refine ⟨fun x hx => ?_, ?_⟩
 ·rcases List.mem_append.1 hx with hx | hx
  ·have := h.1 x hx; omega
  ·rw [List.mem_singleton] at hx; omega
 ·rw [List.pairwise_append]
  refine ⟨h.2, by simp, fun a ha b hb => ?_⟩
  rw [List.mem_singleton] at hb
  have := h.1 a ha
  omega
theorem Cuts.up {n m : Int} {r : List Int} (h : Cuts n r) (hm : n ≤ m) : Cuts m r := ⟨fun x hx => by have := h.1 x hx; omega, h.2⟩
theorem ex_cutPoints (s : ByteArray) (hs : s.size ≤ 1000000) : PEv (fun r => Cuts s.size r ∧ r.length ≤ s.size) (fun k => spec_cutPoints.f k s) := by
 have h : ∀ (n : Nat) (i : Int) (acc : List Int), 0 ≤ i → i ≤ s.size → (s.size : Int) - i ≤ n → Cuts i acc → (acc.length : Int) ≤ i → PEv (fun r => Cuts s.size r ∧ r.length ≤ s.size) (fun k => spec_cutPoints.l0 k s acc i) := by
  intro n
  induction n with
  | zero =>
   intro i acc h1 h3 h2 hc hl
   refine PEv.succ ?_
   simp only [spec_cutPoints.l0]
   exact PEv.ite (fun h => by exfalso; omega) (fun _ => PEv.now ⟨hc.up (by omega), by omega⟩)
  | succ n ih =>
   intro i acc h1 h3 h2 hc hl
   refine PEv.succ ?_
   simp only [spec_cutPoints.l0]
   refine PEv.ite (fun hi => ?_) (fun _ => PEv.now ⟨hc.up (by omega), by omega⟩)
   refine PEv.ite (fun _ => ?_) (fun h => by exfalso; omega)
   rw [w64 (n := i + 1) (by omega) (by omega)]
   refine PEv.ite (fun _ => ?_) (fun _ => ih (i + 1) acc (by omega) (by omega) (by omega) (hc.up (by omega)) (by omega))
   refine PEv.ite (fun _ => ?_) (fun h => by exfalso; omega)
   have hc2 : Cuts (i + 1) (acc ++ [i]) := hc.snoc h1 (Int.le_refl _)
   have hl2 : ((acc ++ [i]).length : Int) ≤ i + 1 := by simp; omega
   obtain ⟨y, hy⟩ : ∃ y, acc ++ [i] = y := ⟨_, rfl⟩
   rw [hy] at hc2 hl2 ⊢
   have hl1 : ∀ (m : Nat) (p : Int), i + 1 < p → p ≤ s.size + 1 → (s.size : Int) - p ≤ m → PEv (fun r => Cuts s.size r ∧ r.length ≤ s.size) (fun k => spec_cutPoints.l1 k s y i p) := by
    intro m
    induction m with
    | zero =>
     intro p g1 g3 g2
     refine PEv.succ ?_
     simp only [spec_cutPoints.l1]
     refine PEv.ite (fun h => by exfalso; omega) (fun _ => ?_)
     rw [w64 (by omega) (by omega)]
     exact ih (i + 1) y (by omega) (by omega) (by omega) hc2 hl2
    | succ m ihm =>
     intro p g1 g3 g2
     refine PEv.succ ?_
     simp only [spec_cutPoints.l1]
     rw [w64 (n := p + 1) (by omega) (by omega), w64 (n := i + 1) (by omega) (by omega)]
     refine PEv.ite (fun h => ?_) (fun _ => ih (i + 1) y (by omega) (by omega) (by omega) hc2 hl2)
     refine PEv.ite (fun _ => ?_) (fun h => by exfalso; omega)
     refine PEv.ite (fun _ => ?_) (fun _ => ihm (p + 1) (by omega) (by omega) (by omega))
     refine PEv.ite (fun _ => ih (p + 1) y (by omega) (by omega) (by omega) (hc2.up (by omega)) (by omega)) (fun _ => ?_)
     refine PEv.ite (fun _ => ?_) (fun h => by exfalso; omega)
     refine PEv.ite (fun _ => ?_) (fun h => by exfalso; omega)
     exact PEv.ite (fun _ => ih (p + 1) y (by omega) (by omega) (by omega) (hc2.up (by omega)) (by omega)) (fun _ => ihm (p + 1) (by omega) (by omega) (by omega))
   have hj : ∀ x : Bool, PEv (fun r => Cuts s.size r ∧ r.length ≤ s.size) (fun k => spec_cutPoints.j1 k s y i x) := by
    intro x
    refine PEv.succ ?_
    simp only [spec_cutPoints.j1]
    rw [w64 (n := i + 1) (by omega) (by omega), w64 (n := i + 2) (by omega) (by omega)]
    exact PEv.ite (fun _ => ih (i + 1) y (by omega) (by omega) (by omega) hc2 hl2) (fun _ => hl1 s.size (i + 2) (by omega) (by omega) (by omega))
   refine PEv.bindC rfl ?_
   refine PEv.ite (fun _ => hj _) (fun _ => ?_)
   refine PEv.ite (fun _ => ?_) (fun h => by exfalso; omega)
   exact PEv.ite (fun _ => hj _) (fun h => by exfalso; omega)
 exact h s.size 0 [] (by omega) (by omega) (by omega) ⟨by simp, by simp⟩ (by simp)
theorem rd_up {n : Int} {r : List Int} (h : Cuts n r) (i : Int) (h0 : 0 ≤ i) (h1 : i + 1 < r.length) : rd r i + 1 ≤ rd r (i + 1) := by
 obtain ⟨m, rfl⟩ := Int.eq_ofNat_of_zero_le h0
 have hm : m + 1 < r.length := by omega
 have := List.pairwise_iff_getElem.1 h.2 m (m + 1) (by omega) hm (by omega)
 have e1 : rd r (m : Int) = r[m] := by unfold rd; simp [show m < r.length by omega]
 have e2 : rd r ((m : Int) + 1) = r[m + 1] := by
  have e3 : ((m : Int) + 1) = ((m + 1 : Nat) : Int) := by omega
  rw [e3]; unfold rd; simp [hm]
 rw [e1, e2]
 omega
theorem pathOf_size (s : ByteArray) (own : Bool) (hs : s.size ≤ 900000) : (Path.pathOf s own).size ≤ 1000000 := by
 unfold Path.pathOf
 rw [← L_length, L_mk]
 have := Path.mText_length (L (if own then s else Lower.norm s))
 have h2 : (L (if own then s else Lower.norm s)).length ≤ 900000 := by
  rw [L_length]; cases own
  ·show (Lower.norm s).size ≤ _; rw [Lower.norm_size]; exact hs
  ·exact hs
 omega
end Go.Proofs.YtphpmgdakalnjaaGreatDoor.Total
