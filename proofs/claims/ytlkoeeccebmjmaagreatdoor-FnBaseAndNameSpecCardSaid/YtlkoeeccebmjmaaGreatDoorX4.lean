/- Texts that the law leans on: Apply2, Apply3, Apply, Acc3, Acc4, Id0. Condition: as told at each. -/
import Derived.StillTailTactics
import Derived.Deep.OwnRows
import Derived.Test.YtlkoeeccebmjmaaGreatDoorXa
import Derived.Test.YtlkoeeccebmjmaaGreatDoorX3
set_option linter.unusedVariables false
set_option linter.unusedSimpArgs false
set_option maxRecDepth 100000
set_option maxHeartbeats 16000000
namespace Go.Proofs.YtlkoeeccebmjmaaGreatDoor.Path
open Go.RowKit Go.WideMaps Go.ZW.PrintWords Go.ZW.PrintLast Go.Proofs.YtlkoeeccebmjmaaGreatDoor.Base
section
variable {w0 w:World} {b:Nat} {p:eE} {vk vu vl u:Value} {pb mb sb fb:Nat} {st:fF} {sl sd sf sc:Value}
theorem aF4 (S:iM w0 pb st sl sd sf sc mb sb fb) (OS:iR st) (hB:Below w0.heap.size w0 w) (H:eF w w0.heap.size b p vk vu vl u) (osz:p.s.size≤1000000) (okl:p.known.length≤1000000) (oll:p.plangs.length≤1000000) (comp:ByteArray) (lo hi:Nat) (q1:lo≤hi) (q2:hi≤p.s.size) (hasc:asc (p.s.extract lo hi)) (hc:(comp.toList==[108,97,121,111,117,116,115])=true) (hd:lM st.fmts (jM (p.s.extract lo hi)) ⟨#[]⟩=true) :
 Calls Tryz.prog 165 #[.pointer (some ⟨pb,0,none⟩),.string comp,.string ⟨#[111,117,116,112,117,116,102,111,114,109,97,116,95]⟩,.pointer (some ⟨b,0,none⟩),.agg #[.int .i64 lo,.int .i64 hi]] w fun e w' =>
  e = .returned (.bool true)∧∃ vk' vl',eF w' w0.heap.size b { p with known:=p.known++[((lo:Int),(hi:Int))],pfmt:=p.known.length } vk' vu vl' u∧eW w w' b vk vu vl vk' vu vl':=by
 have HP:=bW H;have hb:=H.lt;have HS:=bW S;have HB0:=bW hB;have hsz:(p.s.extract lo hi).size≤1000000:=Nat.le_trans (iH _ _ _) osz;have cl:=fun W=>Tryz.strings_ToLower_ascii (p.s.extract lo hi) W bA hasc
 obtain ⟨x,hx⟩:∃ x,jM (p.s.extract lo hi)=x:=⟨_,rfl⟩
 rw[show (⟨(Lib.toLowerA (p.s.extract lo hi).data.toList).toArray⟩:ByteArray)=x from hx] at cl;have hxz:x.size≤1000000:=by rw[← hx,kO];exact hsz
 have HX:=bW hx;have h0:=H.row.at 0 _ rfl;have mne:=nA mb;clear H S hB hasc hx;go_enter Tryz.func165,Tryz.ntmps165;go_upto_region 1 with fail
 have hal:Below w.heap.size w (w.alloc (.cells #[.int .i64 lo,.int .i64 hi] 78)):=(Below.refl _ _).alloc (Nat.le_refl _) _;have hR:=Row.new w [.int .i64 lo,.int .i64 hi] 78;have hs1:w.heap.size < (w.alloc (.cells #[.int .i64 lo,.int .i64 hi] 78)).heap.size:=by simp
 obtain ⟨V0,hV0⟩:∃ V0,w.alloc (.cells #[.int .i64 lo,.int .i64 hi] 78)=V0:=⟨_,rfl⟩
 replace hR:Row V0 w.heap.size [.int .i64 lo,.int .i64 hi]:=hV0▸hR;rw[hV0] at hal hs1 ⊢;clear hV0;refine wp_region_still_tail 9 bB bB ?_;change wpStill _ _ V0.drew (fun a'=>wpList _ _ _ _ a' V0.drew) _ _;replace hal:=hal.drew;replace hR:Row V0.drew w.heap.size [.int .i64 lo,.int .i64 hi]:=hR.step rfl;replace hs1:w.heap.size < V0.drew.heap.size:=hs1
 obtain ⟨V,hV⟩:∃ V,V0.drew=V:=⟨_,rfl⟩
 rw[hV] at hal hR hs1 ⊢;clear hV;have d0:V.cell? ⟨b,0,none⟩=some (.string p.s):=(hal.cell (p:=⟨b,0,none⟩) hb).trans h0;have d1:=hR.at 0 _ rfl;have d2:=hR.at 1 _ rfl;simp only[List.take_succ_cons,List.take_zero,List.drop_succ_cons,List.drop_zero]
 repeat still_step
 refine wpStill_nil ?_;have HB1:=bW hal;have HR1:=bW hR;clear hal hR d0 d1 d2 h0;go_wp2_with fail
 refine (cl V).mono ?_;rintro e w2 ⟨rfl,hb2⟩;have HB2:=bW (eA HB1.out hb2);have HR2:=bW (HR1.out.below hb2 hs1);have hs2:=Nat.lt_of_lt_of_le hs1 hb2.size;have HP2:=bW (HP.out.below HB2.out);have HS2:=bW (HS.out.below (HB0.out.trans (HB2.out.mono HB0.out.size)));have d1:=HR2.out.at 0 _ rfl;have d2:=HR2.out.at 1 _ rfl;have hI:=bW (HP.out.new_ne (Nat.le_refl _));clear hb2 cl;have s2:=HS2.out.row.at 2 _ rfl;have fne:=aAj (.func 64) #[] #[.pointer (some ⟨sb,0,none⟩)];have cd:=oG HS2.out.site OS x ⟨#[]⟩;rw[HX.out] at hd;rw[hd] at cd;clear hd;go_wp2_with fail
 refine cd.mono ?_;rintro e w3 ⟨rfl,hb3⟩;clear cd;have HP3:=bW (HP2.out.below hb3);have HB3:=bW (eA HB2.out hb3);replace d1:=(hb3.cell (p:=⟨w.heap.size,0,none⟩) hs2).trans d1;replace d2:=(hb3.cell (p:=⟨w.heap.size,1,none⟩) hs2).trans d2;clear hb3;go_upto_region 18 with fail
 have qa_0:=HP3.out.row.at 6 _ rfl;have qa_f:=HP3.out.row.free 6 bG;have qa_b:=HP3.out.lt;have qa_B:w0.heap.size≤w3.heap.size:=Nat.le_trans HP3.out.base (Nat.le_of_lt qa_b);have qa_n:=bW HP3.out.nk;have qa_o:=bW HP3.out.ok;refine hY (n:=11) (S:=fun w'=>w'.cell? ⟨b,6,none⟩=some vk∧w'.cell? ⟨w.heap.size,0,none⟩=some (.int .i64 lo)∧w'.cell? ⟨w.heap.size,1,none⟩=some (.int .i64 hi)) (ds:=[10]) _ bB rfl rfl ⟨qa_0,d1,d2⟩ (fun hHeld=>?_);refine sA1 0 (some 125) sB1 ?_
 refine sA1 1 (some 126) sB1 ?_
 refine sA1 2 (some 127) sB1 ?_
 refine sA1 3 (some 128) sB1 ?_
 refine sC1 4 (some 129) sD1 ?_
 refine sC1 5 (some 130) sD1 ?_
 refine sF1 6 (some 131) sG1 (fun K hK=>?_);refine kT (w1:=?_) (v:=?_) bH rfl ?_ ?_;rotate_left 2
 ·go_simp;constructor
  ·rfl
  rfl
 have aa_h:Below w3.heap.size w3 (w3.drew.alloc (.cells ([.int .i64 lo,.int .i64 hi]:List Value).toArray 78)):=(Below.refl _ _).drew.alloc (Nat.le_refl _) _;refine hK.out _ _ ⟨((aa_h.cell (p:=⟨b,6,none⟩) (World.block_lt_of_cell? w3 ⟨b,6,none⟩ qa_0)).trans qa_0),((aa_h.cell (p:=⟨w.heap.size,0,none⟩) (World.block_lt_of_cell? w3 ⟨w.heap.size,0,none⟩ d1)).trans d1),((aa_h.cell (p:=⟨w.heap.size,1,none⟩) (World.block_lt_of_cell? w3 ⟨w.heap.size,1,none⟩ d2)).trans d2)⟩ (fun hHeld=>?_);clear hK K;refine gJ sJ1 ?_
 refine sF1 7 (some 132) sG1 (fun K hK=>?_);refine gE (w0:=w3) (W:=w3.drew) w0.heap.size bH (.tmp 129) (.tmp 131) 75 78 _ 2 16 bH Tryz.underlying75 mI rfl bF bF vk p.known.length (pairs p.known) [.int .i64 lo,.int .i64 hi] bH bH bH bL qa_o.out ((Below.refl _ _).drew) qa_B bA ?_;intro va war oa bba ga ta;obtain ⟨Aa,ca,eva⟩:=fL oa;subst eva;have xa_0:=ga.cell (w:=w3.drew) (a:=⟨b,6,none⟩) qa_0 qa_n.out;have xa_f:=(World.frozen?_of_block (w:=w3.drew) (a:=⟨b,6,none⟩) (ga.block b qa_b qa_n.out)).trans qa_f;have xa_1:=ga.cell (w:=w3.drew) (a:=⟨w.heap.size,0,none⟩) d1 hI.out.2.1
 have xa_2:=ga.cell (w:=w3.drew) (a:=⟨w.heap.size,1,none⟩) d2 hI.out.2.1
 have gga:w3.grownBy war vk.ownBlock:=⟨ga.os,ga.tape,ga.output,ga.size,ga.block⟩
 obtain ⟨hpa,hma⟩:=jZ HP3.out (lo,hi) (w':=war) oa gga ta;have HPa:=bW hpa;have HMa:=bW hma;clear hpa hma oa bba ga gga ta;refine hK.out _ _ ⟨xa_0,xa_1,xa_2⟩ (fun hHeld=>?_);clear hK K;refine gJ sJ1 ?_
 refine sA1 8 (some 133) sB1 ?_
 refine sA1 9 (some 134) sB1 ?_
 refine sH1 10 none sI1 (fun K hK=>?_);refine iO (w1:=?_) bH rfl ?_ ?_;rotate_left
 ·go_simp;rfl
 refine hK.out _ _ ?_;clear hK K;refine iK bB ?_;clear d1 d2 xa_0 xa_f xa_1 xa_2 qa_0 qa_f qa_b qa_B qa_n qa_o aa_h
 obtain ⟨Wa,hWa⟩:∃ W,war.setCell ⟨b,6,none⟩ (.slice Aa (p.known.length+1) ca)=W:=⟨_,rfl⟩
 replace HPa:Aside0 (eF Wa w0.heap.size b { p with known:=p.known++[((lo:Int),(hi:Int))] } (.slice Aa (p.known.length+1) ca) vu vl u):=hWa▸HPa;replace HMa:Aside0 (eW w3 Wa b vk vu vl (.slice Aa (p.known.length+1) ca) vu vl):=hWa▸HMa;rw[hWa];clear hWa;have z4:IntKind.i64.wrap (p.known.length:Int)=(p.known.length:Int):=by rw[IntWalk.i64_in _ bA]
 have k6:=HPa.out.row.at 6 _ rfl;have k7:=HPa.out.row.at 17 _ rfl;have k8:=HPa.out.row.free 17 bG;go_wp2_with fail
 obtain ⟨hpc,hmc⟩:=fW HPa.out 17 (.int .i64 p.known.length) { p with known:=p.known++[((lo:Int),(hi:Int))],pfmt:=p.known.length } u rfl rfl rfl rfl bA;go_ret;exact ⟨rfl,_,_,hpc,((eW.of_below HB3.out).trans HMa.out).trans hmc⟩
theorem aBs (S:iM w0 pb st sl sd sf sc mb sb fb) (OS:iR st) (hB:Below w0.heap.size w0 w) (H:eF w w0.heap.size b p vk vu vl u) (osz:p.s.size≤1000000) (okl:p.known.length≤1000000) (oll:p.plangs.length≤1000000) (comp:ByteArray) (lo hi:Nat) (q1:lo≤hi) (q2:hi≤p.s.size) (hasc:asc (p.s.extract lo hi)) (hc:(comp.toList==[108,97,121,111,117,116,115])=true) (hd:lM st.fmts (jM (p.s.extract lo hi)) ⟨#[]⟩=false) :
 Calls Tryz.prog 165 #[.pointer (some ⟨pb,0,none⟩),.string comp,.string ⟨#[111,117,116,112,117,116,102,111,114,109,97,116,95]⟩,.pointer (some ⟨b,0,none⟩),.agg #[.int .i64 lo,.int .i64 hi]] w fun e w' =>
  e = .returned (.bool false)∧Below w.heap.size w w':=by
 have HP:=bW H;have hb:=H.lt;have HS:=bW S;have HB0:=bW hB;have hsz:(p.s.extract lo hi).size≤1000000:=Nat.le_trans (iH _ _ _) osz;have cl:=fun W=>Tryz.strings_ToLower_ascii (p.s.extract lo hi) W bA hasc
 obtain ⟨x,hx⟩:∃ x,jM (p.s.extract lo hi)=x:=⟨_,rfl⟩
 rw[show (⟨(Lib.toLowerA (p.s.extract lo hi).data.toList).toArray⟩:ByteArray)=x from hx] at cl;have hxz:x.size≤1000000:=by rw[← hx,kO];exact hsz
 have HX:=bW hx;have h0:=H.row.at 0 _ rfl;have mne:=nA mb;clear H S hB hasc hx;go_enter Tryz.func165,Tryz.ntmps165;go_upto_region 1 with fail
 have hal:Below w.heap.size w (w.alloc (.cells #[.int .i64 lo,.int .i64 hi] 78)):=(Below.refl _ _).alloc (Nat.le_refl _) _;have hR:=Row.new w [.int .i64 lo,.int .i64 hi] 78;have hs1:w.heap.size < (w.alloc (.cells #[.int .i64 lo,.int .i64 hi] 78)).heap.size:=by simp
 obtain ⟨V0,hV0⟩:∃ V0,w.alloc (.cells #[.int .i64 lo,.int .i64 hi] 78)=V0:=⟨_,rfl⟩
 replace hR:Row V0 w.heap.size [.int .i64 lo,.int .i64 hi]:=hV0▸hR;rw[hV0] at hal hs1 ⊢;clear hV0;refine wp_region_still_tail 9 bB bB ?_;change wpStill _ _ V0.drew (fun a'=>wpList _ _ _ _ a' V0.drew) _ _;replace hal:=hal.drew;replace hR:Row V0.drew w.heap.size [.int .i64 lo,.int .i64 hi]:=hR.step rfl;replace hs1:w.heap.size < V0.drew.heap.size:=hs1
 obtain ⟨V,hV⟩:∃ V,V0.drew=V:=⟨_,rfl⟩
 rw[hV] at hal hR hs1 ⊢;clear hV;have d0:V.cell? ⟨b,0,none⟩=some (.string p.s):=(hal.cell (p:=⟨b,0,none⟩) hb).trans h0;have d1:=hR.at 0 _ rfl;have d2:=hR.at 1 _ rfl;simp only[List.take_succ_cons,List.take_zero,List.drop_succ_cons,List.drop_zero]
 repeat still_step
 refine wpStill_nil ?_;have HB1:=bW hal;have HR1:=bW hR;clear hal hR d0 d1 d2 h0;go_wp2_with fail
 refine (cl V).mono ?_;rintro e w2 ⟨rfl,hb2⟩;have HB2:=bW (eA HB1.out hb2);have HR2:=bW (HR1.out.below hb2 hs1);have hs2:=Nat.lt_of_lt_of_le hs1 hb2.size;have HP2:=bW (HP.out.below HB2.out);have HS2:=bW (HS.out.below (HB0.out.trans (HB2.out.mono HB0.out.size)));have d1:=HR2.out.at 0 _ rfl;have d2:=HR2.out.at 1 _ rfl;have hI:=bW (HP.out.new_ne (Nat.le_refl _));clear hb2 cl;have s2:=HS2.out.row.at 2 _ rfl;have fne:=aAj (.func 64) #[] #[.pointer (some ⟨sb,0,none⟩)];have cd:=oG HS2.out.site OS x ⟨#[]⟩;rw[HX.out] at hd;rw[hd] at cd;clear hd;go_wp2_with fail
 refine cd.mono ?_;rintro e w3 ⟨rfl,hb3⟩;clear cd;have HB3:=bW (eA HB2.out hb3);clear hb3;go_wp2_with fail
 go_ret;exact ⟨rfl,HB3.out⟩
theorem zN (S:iM w0 pb st sl sd sf sc mb sb fb) (OS:iR st) (hB:Below w0.heap.size w0 w) (H:eF w w0.heap.size b p vk vu vl u) (osz:p.s.size≤1000000) (okl:p.known.length≤1000000) (oll:p.plangs.length≤1000000) (comp:ByteArray) (lo hi:Nat) (q1:lo≤hi) (q2:hi≤p.s.size) (hasc:asc (p.s.extract lo hi)) (hc:(comp.toList==[108,97,121,111,117,116,115])=false) :
 Calls Tryz.prog 165 #[.pointer (some ⟨pb,0,none⟩),.string comp,.string ⟨#[111,117,116,112,117,116,102,111,114,109,97,116,95]⟩,.pointer (some ⟨b,0,none⟩),.agg #[.int .i64 lo,.int .i64 hi]] w fun e w' =>
  e = .returned (.bool false)∧Below w.heap.size w w':=by
 have HP:=bW H;have hb:=H.lt;have HS:=bW S;have HB0:=bW hB;have hsz:(p.s.extract lo hi).size≤1000000:=Nat.le_trans (iH _ _ _) osz;have cl:=fun W=>Tryz.strings_ToLower_ascii (p.s.extract lo hi) W bA hasc
 obtain ⟨x,hx⟩:∃ x,jM (p.s.extract lo hi)=x:=⟨_,rfl⟩
 rw[show (⟨(Lib.toLowerA (p.s.extract lo hi).data.toList).toArray⟩:ByteArray)=x from hx] at cl;have hxz:x.size≤1000000:=by rw[← hx,kO];exact hsz
 have HX:=bW hx;have h0:=H.row.at 0 _ rfl;have mne:=nA mb;clear H S hB hasc hx;go_enter Tryz.func165,Tryz.ntmps165;go_upto_region 1 with fail
 have hal:Below w.heap.size w (w.alloc (.cells #[.int .i64 lo,.int .i64 hi] 78)):=(Below.refl _ _).alloc (Nat.le_refl _) _;have hR:=Row.new w [.int .i64 lo,.int .i64 hi] 78;have hs1:w.heap.size < (w.alloc (.cells #[.int .i64 lo,.int .i64 hi] 78)).heap.size:=by simp
 obtain ⟨V0,hV0⟩:∃ V0,w.alloc (.cells #[.int .i64 lo,.int .i64 hi] 78)=V0:=⟨_,rfl⟩
 replace hR:Row V0 w.heap.size [.int .i64 lo,.int .i64 hi]:=hV0▸hR;rw[hV0] at hal hs1 ⊢;clear hV0;refine wp_region_still_tail 9 bB bB ?_;change wpStill _ _ V0.drew (fun a'=>wpList _ _ _ _ a' V0.drew) _ _;replace hal:=hal.drew;replace hR:Row V0.drew w.heap.size [.int .i64 lo,.int .i64 hi]:=hR.step rfl;replace hs1:w.heap.size < V0.drew.heap.size:=hs1
 obtain ⟨V,hV⟩:∃ V,V0.drew=V:=⟨_,rfl⟩
 rw[hV] at hal hR hs1 ⊢;clear hV;have d0:V.cell? ⟨b,0,none⟩=some (.string p.s):=(hal.cell (p:=⟨b,0,none⟩) hb).trans h0;have d1:=hR.at 0 _ rfl;have d2:=hR.at 1 _ rfl;simp only[List.take_succ_cons,List.take_zero,List.drop_succ_cons,List.drop_zero]
 repeat still_step
 refine wpStill_nil ?_;have HB1:=bW hal;have HR1:=bW hR;clear hal hR d0 d1 d2 h0;go_wp2_with fail
 refine (cl V).mono ?_;rintro e w2 ⟨rfl,hb2⟩;have HB2:=bW (eA HB1.out hb2);have HR2:=bW (HR1.out.below hb2 hs1);have hs2:=Nat.lt_of_lt_of_le hs1 hb2.size;have HP2:=bW (HP.out.below HB2.out);have HS2:=bW (HS.out.below (HB0.out.trans (HB2.out.mono HB0.out.size)));have d1:=HR2.out.at 0 _ rfl;have d2:=HR2.out.at 1 _ rfl;have hI:=bW (HP.out.new_ne (Nat.le_refl _));clear hb2 cl;go_wp2_with fail
 go_ret;exact ⟨rfl,HB2.out⟩
theorem aEy (S:iM w0 pb st sl sd sf sc mb sb fb) (OS:iR st) (hB:Below w0.heap.size w0 w) (H:eF w w0.heap.size b p vk vu vl u) (osz:p.s.size≤1000000) (okl:p.known.length≤1000000) (oll:p.plangs.length≤1000000) (comp:ByteArray) (lo hi:Nat) (q1:lo≤hi) (q2:hi≤p.s.size) (hasc:asc (p.s.extract lo hi)) (hc:(comp.toList==[108,97,121,111,117,116,115])=true) (hd:oH (Lib.toLowerA (L (jM (p.s.extract lo hi))))=true) :
 Calls Tryz.prog 165 #[.pointer (some ⟨pb,0,none⟩),.string comp,.string ⟨#[107,105,110,100,95]⟩,.pointer (some ⟨b,0,none⟩),.agg #[.int .i64 lo,.int .i64 hi]] w fun e w' =>
  e = .returned (.bool true)∧∃ vk' vl',eF w' w0.heap.size b { p with known:=p.known++[((lo:Int),(hi:Int))],pkind:=p.known.length } vk' vu vl' u∧eW w w' b vk vu vl vk' vu vl':=by
 have HA:=bW hasc;have HP:=bW H;have hb:=H.lt;have HS:=bW S;have HB0:=bW hB;have hsz:(p.s.extract lo hi).size≤1000000:=Nat.le_trans (iH _ _ _) osz;have cl:=fun W=>Tryz.strings_ToLower_ascii (p.s.extract lo hi) W bA hasc
 obtain ⟨x,hx⟩:∃ x,jM (p.s.extract lo hi)=x:=⟨_,rfl⟩
 rw[show (⟨(Lib.toLowerA (p.s.extract lo hi).data.toList).toArray⟩:ByteArray)=x from hx] at cl;have hxz:x.size≤1000000:=by rw[← hx,kO];exact hsz
 have HX:=bW hx;have h0:=H.row.at 0 _ rfl;have mne:=nA mb;clear H S hB hasc hx;go_enter Tryz.func165,Tryz.ntmps165;go_upto_region 1 with fail
 have hal:Below w.heap.size w (w.alloc (.cells #[.int .i64 lo,.int .i64 hi] 78)):=(Below.refl _ _).alloc (Nat.le_refl _) _;have hR:=Row.new w [.int .i64 lo,.int .i64 hi] 78;have hs1:w.heap.size < (w.alloc (.cells #[.int .i64 lo,.int .i64 hi] 78)).heap.size:=by simp
 obtain ⟨V0,hV0⟩:∃ V0,w.alloc (.cells #[.int .i64 lo,.int .i64 hi] 78)=V0:=⟨_,rfl⟩
 replace hR:Row V0 w.heap.size [.int .i64 lo,.int .i64 hi]:=hV0▸hR;rw[hV0] at hal hs1 ⊢;clear hV0;refine wp_region_still_tail 9 bB bB ?_;change wpStill _ _ V0.drew (fun a'=>wpList _ _ _ _ a' V0.drew) _ _;replace hal:=hal.drew;replace hR:Row V0.drew w.heap.size [.int .i64 lo,.int .i64 hi]:=hR.step rfl;replace hs1:w.heap.size < V0.drew.heap.size:=hs1
 obtain ⟨V,hV⟩:∃ V,V0.drew=V:=⟨_,rfl⟩
 rw[hV] at hal hR hs1 ⊢;clear hV;have d0:V.cell? ⟨b,0,none⟩=some (.string p.s):=(hal.cell (p:=⟨b,0,none⟩) hb).trans h0;have d1:=hR.at 0 _ rfl;have d2:=hR.at 1 _ rfl;simp only[List.take_succ_cons,List.take_zero,List.drop_succ_cons,List.drop_zero]
 repeat still_step
 refine wpStill_nil ?_;have HB1:=bW hal;have HR1:=bW hR;clear hal hR d0 d1 d2 h0;go_wp2_with fail
 refine (cl V).mono ?_;rintro e w2 ⟨rfl,hb2⟩;have HB2:=bW (eA HB1.out hb2);have HR2:=bW (HR1.out.below hb2 hs1);have hs2:=Nat.lt_of_lt_of_le hs1 hb2.size;have HP2:=bW (HP.out.below HB2.out);have HS2:=bW (HS.out.below (HB0.out.trans (HB2.out.mono HB0.out.size)));have d1:=HR2.out.at 0 _ rfl;have d2:=HR2.out.at 1 _ rfl;have hI:=bW (HP.out.new_ne (Nat.le_refl _));clear hb2 cl;have hax:∀ (j:Nat) (b:UInt8),x.data.toList[j]? = some b→b.toNat < 128:=by rw[← HX.out];exact aCk _ HA.out
 have cd:=oN x w2 hxz hax;rw[HX.out] at hd;go_wp2_with fail
 refine cd.mono ?_;rintro e w3 ⟨r,rfl,hr,hb3⟩;rw[hd] at hr;have hr2:(r.toList==[])=false:=hr;clear cd hd hr;have HP3:=bW (HP2.out.below hb3);have HB3:=bW (eA HB2.out hb3);replace d1:=(hb3.cell (p:=⟨w.heap.size,0,none⟩) hs2).trans d1;replace d2:=(hb3.cell (p:=⟨w.heap.size,1,none⟩) hs2).trans d2;clear hb3;go_upto_region 24 with fail
 have qa_0:=HP3.out.row.at 6 _ rfl;have qa_f:=HP3.out.row.free 6 bG;have qa_b:=HP3.out.lt;have qa_B:w0.heap.size≤w3.heap.size:=Nat.le_trans HP3.out.base (Nat.le_of_lt qa_b);have qa_n:=bW HP3.out.nk;have qa_o:=bW HP3.out.ok;refine hY (n:=11) (S:=fun w'=>w'.cell? ⟨b,6,none⟩=some vk∧w'.cell? ⟨w.heap.size,0,none⟩=some (.int .i64 lo)∧w'.cell? ⟨w.heap.size,1,none⟩=some (.int .i64 hi)) (ds:=[10]) _ bB rfl rfl ⟨qa_0,d1,d2⟩ (fun hHeld=>?_);refine sA1 0 (some 151) sB1 ?_
 refine sA1 1 (some 152) sB1 ?_
 refine sA1 2 (some 153) sB1 ?_
 refine sA1 3 (some 154) sB1 ?_
 refine sC1 4 (some 155) sD1 ?_
 refine sC1 5 (some 156) sD1 ?_
 refine sF1 6 (some 157) sG1 (fun K hK=>?_);refine kT (w1:=?_) (v:=?_) bH rfl ?_ ?_;rotate_left 2
 ·go_simp;constructor
  ·rfl
  rfl
 have aa_h:Below w3.heap.size w3 (w3.drew.alloc (.cells ([.int .i64 lo,.int .i64 hi]:List Value).toArray 78)):=(Below.refl _ _).drew.alloc (Nat.le_refl _) _;refine hK.out _ _ ⟨((aa_h.cell (p:=⟨b,6,none⟩) (World.block_lt_of_cell? w3 ⟨b,6,none⟩ qa_0)).trans qa_0),((aa_h.cell (p:=⟨w.heap.size,0,none⟩) (World.block_lt_of_cell? w3 ⟨w.heap.size,0,none⟩ d1)).trans d1),((aa_h.cell (p:=⟨w.heap.size,1,none⟩) (World.block_lt_of_cell? w3 ⟨w.heap.size,1,none⟩ d2)).trans d2)⟩ (fun hHeld=>?_);clear hK K;refine gJ sJ1 ?_
 refine sF1 7 (some 158) sG1 (fun K hK=>?_);refine gE (w0:=w3) (W:=w3.drew) w0.heap.size bH (.tmp 155) (.tmp 157) 75 78 _ 2 16 bH Tryz.underlying75 mI rfl bF bF vk p.known.length (pairs p.known) [.int .i64 lo,.int .i64 hi] bH bH bH bL qa_o.out ((Below.refl _ _).drew) qa_B bA ?_;intro va war oa bba ga ta;obtain ⟨Aa,ca,eva⟩:=fL oa;subst eva;have xa_0:=ga.cell (w:=w3.drew) (a:=⟨b,6,none⟩) qa_0 qa_n.out;have xa_f:=(World.frozen?_of_block (w:=w3.drew) (a:=⟨b,6,none⟩) (ga.block b qa_b qa_n.out)).trans qa_f;have xa_1:=ga.cell (w:=w3.drew) (a:=⟨w.heap.size,0,none⟩) d1 hI.out.2.1
 have xa_2:=ga.cell (w:=w3.drew) (a:=⟨w.heap.size,1,none⟩) d2 hI.out.2.1
 have gga:w3.grownBy war vk.ownBlock:=⟨ga.os,ga.tape,ga.output,ga.size,ga.block⟩
 obtain ⟨hpa,hma⟩:=jZ HP3.out (lo,hi) (w':=war) oa gga ta;have HPa:=bW hpa;have HMa:=bW hma;clear hpa hma oa bba ga gga ta;refine hK.out _ _ ⟨xa_0,xa_1,xa_2⟩ (fun hHeld=>?_);clear hK K;refine gJ sJ1 ?_
 refine sA1 8 (some 159) sB1 ?_
 refine sA1 9 (some 160) sB1 ?_
 refine sH1 10 none sI1 (fun K hK=>?_);refine iO (w1:=?_) bH rfl ?_ ?_;rotate_left
 ·go_simp;rfl
 refine hK.out _ _ ?_;clear hK K;refine iK bB ?_;clear d1 d2 xa_0 xa_f xa_1 xa_2 qa_0 qa_f qa_b qa_B qa_n qa_o aa_h
 obtain ⟨Wa,hWa⟩:∃ W,war.setCell ⟨b,6,none⟩ (.slice Aa (p.known.length+1) ca)=W:=⟨_,rfl⟩
 replace HPa:Aside0 (eF Wa w0.heap.size b { p with known:=p.known++[((lo:Int),(hi:Int))] } (.slice Aa (p.known.length+1) ca) vu vl u):=hWa▸HPa;replace HMa:Aside0 (eW w3 Wa b vk vu vl (.slice Aa (p.known.length+1) ca) vu vl):=hWa▸HMa;rw[hWa];clear hWa;have z4:IntKind.i64.wrap (p.known.length:Int)=(p.known.length:Int):=by rw[IntWalk.i64_in _ bA]
 have k6:=HPa.out.row.at 6 _ rfl;have k7:=HPa.out.row.at 18 _ rfl;have k8:=HPa.out.row.free 18 bG;go_wp2_with fail
 obtain ⟨hpc,hmc⟩:=fW HPa.out 18 (.int .i64 p.known.length) { p with known:=p.known++[((lo:Int),(hi:Int))],pkind:=p.known.length } u rfl rfl rfl rfl bA;go_ret;exact ⟨rfl,_,_,hpc,((eW.of_below HB3.out).trans HMa.out).trans hmc⟩
theorem aA5 (S:iM w0 pb st sl sd sf sc mb sb fb) (OS:iR st) (hB:Below w0.heap.size w0 w) (H:eF w w0.heap.size b p vk vu vl u) (osz:p.s.size≤1000000) (okl:p.known.length≤1000000) (oll:p.plangs.length≤1000000) (comp:ByteArray) (lo hi:Nat) (q1:lo≤hi) (q2:hi≤p.s.size) (hasc:asc (p.s.extract lo hi)) (hc:(comp.toList==[108,97,121,111,117,116,115])=true) (hd:oH (Lib.toLowerA (L (jM (p.s.extract lo hi))))=false) :
 Calls Tryz.prog 165 #[.pointer (some ⟨pb,0,none⟩),.string comp,.string ⟨#[107,105,110,100,95]⟩,.pointer (some ⟨b,0,none⟩),.agg #[.int .i64 lo,.int .i64 hi]] w fun e w' =>
  e = .returned (.bool false)∧Below w.heap.size w w':=by
 have HA:=bW hasc;have HP:=bW H;have hb:=H.lt;have HS:=bW S;have HB0:=bW hB;have hsz:(p.s.extract lo hi).size≤1000000:=Nat.le_trans (iH _ _ _) osz;have cl:=fun W=>Tryz.strings_ToLower_ascii (p.s.extract lo hi) W bA hasc
 obtain ⟨x,hx⟩:∃ x,jM (p.s.extract lo hi)=x:=⟨_,rfl⟩
 rw[show (⟨(Lib.toLowerA (p.s.extract lo hi).data.toList).toArray⟩:ByteArray)=x from hx] at cl;have hxz:x.size≤1000000:=by rw[← hx,kO];exact hsz
 have HX:=bW hx;have h0:=H.row.at 0 _ rfl;have mne:=nA mb;clear H S hB hasc hx;go_enter Tryz.func165,Tryz.ntmps165;go_upto_region 1 with fail
 have hal:Below w.heap.size w (w.alloc (.cells #[.int .i64 lo,.int .i64 hi] 78)):=(Below.refl _ _).alloc (Nat.le_refl _) _;have hR:=Row.new w [.int .i64 lo,.int .i64 hi] 78;have hs1:w.heap.size < (w.alloc (.cells #[.int .i64 lo,.int .i64 hi] 78)).heap.size:=by simp
 obtain ⟨V0,hV0⟩:∃ V0,w.alloc (.cells #[.int .i64 lo,.int .i64 hi] 78)=V0:=⟨_,rfl⟩
 replace hR:Row V0 w.heap.size [.int .i64 lo,.int .i64 hi]:=hV0▸hR;rw[hV0] at hal hs1 ⊢;clear hV0;refine wp_region_still_tail 9 bB bB ?_;change wpStill _ _ V0.drew (fun a'=>wpList _ _ _ _ a' V0.drew) _ _;replace hal:=hal.drew;replace hR:Row V0.drew w.heap.size [.int .i64 lo,.int .i64 hi]:=hR.step rfl;replace hs1:w.heap.size < V0.drew.heap.size:=hs1
 obtain ⟨V,hV⟩:∃ V,V0.drew=V:=⟨_,rfl⟩
 rw[hV] at hal hR hs1 ⊢;clear hV;have d0:V.cell? ⟨b,0,none⟩=some (.string p.s):=(hal.cell (p:=⟨b,0,none⟩) hb).trans h0;have d1:=hR.at 0 _ rfl;have d2:=hR.at 1 _ rfl;simp only[List.take_succ_cons,List.take_zero,List.drop_succ_cons,List.drop_zero]
 repeat still_step
 refine wpStill_nil ?_;have HB1:=bW hal;have HR1:=bW hR;clear hal hR d0 d1 d2 h0;go_wp2_with fail
 refine (cl V).mono ?_;rintro e w2 ⟨rfl,hb2⟩;have HB2:=bW (eA HB1.out hb2);have HR2:=bW (HR1.out.below hb2 hs1);have hs2:=Nat.lt_of_lt_of_le hs1 hb2.size;have HP2:=bW (HP.out.below HB2.out);have HS2:=bW (HS.out.below (HB0.out.trans (HB2.out.mono HB0.out.size)));have d1:=HR2.out.at 0 _ rfl;have d2:=HR2.out.at 1 _ rfl;have hI:=bW (HP.out.new_ne (Nat.le_refl _));clear hb2 cl;have hax:∀ (j:Nat) (b:UInt8),x.data.toList[j]? = some b→b.toNat < 128:=by rw[← HX.out];exact aCk _ HA.out
 have cd:=oN x w2 hxz hax;rw[HX.out] at hd;go_wp2_with fail
 refine cd.mono ?_;rintro e w3 ⟨r,rfl,hr,hb3⟩;rw[hd] at hr;have hr2:(r.toList==[])=true:=hr;clear cd hd hr;have HB3:=bW (eA HB2.out hb3);clear hb3;go_wp2_with fail
 go_ret;exact ⟨rfl,HB3.out⟩
theorem yD (S:iM w0 pb st sl sd sf sc mb sb fb) (OS:iR st) (hB:Below w0.heap.size w0 w) (H:eF w w0.heap.size b p vk vu vl u) (osz:p.s.size≤1000000) (okl:p.known.length≤1000000) (oll:p.plangs.length≤1000000) (comp:ByteArray) (lo hi:Nat) (q1:lo≤hi) (q2:hi≤p.s.size) (hasc:asc (p.s.extract lo hi)) (hc:(comp.toList==[108,97,121,111,117,116,115])=false) :
 Calls Tryz.prog 165 #[.pointer (some ⟨pb,0,none⟩),.string comp,.string ⟨#[107,105,110,100,95]⟩,.pointer (some ⟨b,0,none⟩),.agg #[.int .i64 lo,.int .i64 hi]] w fun e w' =>
  e = .returned (.bool false)∧Below w.heap.size w w':=by
 have HP:=bW H;have hb:=H.lt;have HS:=bW S;have HB0:=bW hB;have hsz:(p.s.extract lo hi).size≤1000000:=Nat.le_trans (iH _ _ _) osz;have cl:=fun W=>Tryz.strings_ToLower_ascii (p.s.extract lo hi) W bA hasc
 obtain ⟨x,hx⟩:∃ x,jM (p.s.extract lo hi)=x:=⟨_,rfl⟩
 rw[show (⟨(Lib.toLowerA (p.s.extract lo hi).data.toList).toArray⟩:ByteArray)=x from hx] at cl;have hxz:x.size≤1000000:=by rw[← hx,kO];exact hsz
 have HX:=bW hx;have h0:=H.row.at 0 _ rfl;have mne:=nA mb;clear H S hB hasc hx;go_enter Tryz.func165,Tryz.ntmps165;go_upto_region 1 with fail
 have hal:Below w.heap.size w (w.alloc (.cells #[.int .i64 lo,.int .i64 hi] 78)):=(Below.refl _ _).alloc (Nat.le_refl _) _;have hR:=Row.new w [.int .i64 lo,.int .i64 hi] 78;have hs1:w.heap.size < (w.alloc (.cells #[.int .i64 lo,.int .i64 hi] 78)).heap.size:=by simp
 obtain ⟨V0,hV0⟩:∃ V0,w.alloc (.cells #[.int .i64 lo,.int .i64 hi] 78)=V0:=⟨_,rfl⟩
 replace hR:Row V0 w.heap.size [.int .i64 lo,.int .i64 hi]:=hV0▸hR;rw[hV0] at hal hs1 ⊢;clear hV0;refine wp_region_still_tail 9 bB bB ?_;change wpStill _ _ V0.drew (fun a'=>wpList _ _ _ _ a' V0.drew) _ _;replace hal:=hal.drew;replace hR:Row V0.drew w.heap.size [.int .i64 lo,.int .i64 hi]:=hR.step rfl;replace hs1:w.heap.size < V0.drew.heap.size:=hs1
 obtain ⟨V,hV⟩:∃ V,V0.drew=V:=⟨_,rfl⟩
 rw[hV] at hal hR hs1 ⊢;clear hV;have d0:V.cell? ⟨b,0,none⟩=some (.string p.s):=(hal.cell (p:=⟨b,0,none⟩) hb).trans h0;have d1:=hR.at 0 _ rfl;have d2:=hR.at 1 _ rfl;simp only[List.take_succ_cons,List.take_zero,List.drop_succ_cons,List.drop_zero]
 repeat still_step
 refine wpStill_nil ?_;have HB1:=bW hal;have HR1:=bW hR;clear hal hR d0 d1 d2 h0;go_wp2_with fail
 refine (cl V).mono ?_;rintro e w2 ⟨rfl,hb2⟩;have HB2:=bW (eA HB1.out hb2);have HR2:=bW (HR1.out.below hb2 hs1);have hs2:=Nat.lt_of_lt_of_le hs1 hb2.size;have HP2:=bW (HP.out.below HB2.out);have HS2:=bW (HS.out.below (HB0.out.trans (HB2.out.mono HB0.out.size)));have d1:=HR2.out.at 0 _ rfl;have d2:=HR2.out.at 1 _ rfl;have hI:=bW (HP.out.new_ne (Nat.le_refl _));clear hb2 cl;go_wp2_with fail
 go_ret;exact ⟨rfl,HB2.out⟩
end
section
variable {w0 w:World} {b:Nat} {p:eE} {vk vu vl u:Value} {pb mb sb fb:Nat} {st:fF} {sl sd sf sc:Value}
theorem aBt (S:iM w0 pb st sl sd sf sc mb sb fb) (OS:iR st) (hB:Below w0.heap.size w0 w) (H:eF w w0.heap.size b p vk vu vl u) (osz:p.s.size≤1000000) (okl:p.known.length≤1000000) (oll:p.plangs.length≤1000000) (comp:ByteArray) (lo hi:Nat) (q1:lo≤hi) (q2:hi≤p.s.size) (hasc:asc (p.s.extract lo hi)) (hc:(comp.toList==[108,97,121,111,117,116,115])=true) :
 Calls Tryz.prog 165 #[.pointer (some ⟨pb,0,none⟩),.string comp,.string ⟨#[108,97,121,111,117,116,95]⟩,.pointer (some ⟨b,0,none⟩),.agg #[.int .i64 lo,.int .i64 hi]] w fun e w' =>
  e = .returned (.bool true)∧∃ vk' vl',eF w' w0.heap.size b { p with known:=p.known++[((lo:Int),(hi:Int))],play:=p.known.length } vk' vu vl' u∧eW w w' b vk vu vl vk' vu vl':=by
 have HP:=bW H;have hb:=H.lt;have HS:=bW S;have HB0:=bW hB;have hsz:(p.s.extract lo hi).size≤1000000:=Nat.le_trans (iH _ _ _) osz;have cl:=fun W=>Tryz.strings_ToLower_ascii (p.s.extract lo hi) W bA hasc
 obtain ⟨x,hx⟩:∃ x,jM (p.s.extract lo hi)=x:=⟨_,rfl⟩
 rw[show (⟨(Lib.toLowerA (p.s.extract lo hi).data.toList).toArray⟩:ByteArray)=x from hx] at cl;have hxz:x.size≤1000000:=by rw[← hx,kO];exact hsz
 have HX:=bW hx;have h0:=H.row.at 0 _ rfl;have mne:=nA mb;clear H S hB hasc hx;go_enter Tryz.func165,Tryz.ntmps165;go_upto_region 1 with fail
 have hal:Below w.heap.size w (w.alloc (.cells #[.int .i64 lo,.int .i64 hi] 78)):=(Below.refl _ _).alloc (Nat.le_refl _) _;have hR:=Row.new w [.int .i64 lo,.int .i64 hi] 78;have hs1:w.heap.size < (w.alloc (.cells #[.int .i64 lo,.int .i64 hi] 78)).heap.size:=by simp
 obtain ⟨V0,hV0⟩:∃ V0,w.alloc (.cells #[.int .i64 lo,.int .i64 hi] 78)=V0:=⟨_,rfl⟩
 replace hR:Row V0 w.heap.size [.int .i64 lo,.int .i64 hi]:=hV0▸hR;rw[hV0] at hal hs1 ⊢;clear hV0;refine wp_region_still_tail 9 bB bB ?_;change wpStill _ _ V0.drew (fun a'=>wpList _ _ _ _ a' V0.drew) _ _;replace hal:=hal.drew;replace hR:Row V0.drew w.heap.size [.int .i64 lo,.int .i64 hi]:=hR.step rfl;replace hs1:w.heap.size < V0.drew.heap.size:=hs1
 obtain ⟨V,hV⟩:∃ V,V0.drew=V:=⟨_,rfl⟩
 rw[hV] at hal hR hs1 ⊢;clear hV;have d0:V.cell? ⟨b,0,none⟩=some (.string p.s):=(hal.cell (p:=⟨b,0,none⟩) hb).trans h0;have d1:=hR.at 0 _ rfl;have d2:=hR.at 1 _ rfl;simp only[List.take_succ_cons,List.take_zero,List.drop_succ_cons,List.drop_zero]
 repeat still_step
 refine wpStill_nil ?_;have HB1:=bW hal;have HR1:=bW hR;clear hal hR d0 d1 d2 h0;go_wp2_with fail
 refine (cl V).mono ?_;rintro e w2 ⟨rfl,hb2⟩;have HB2:=bW (eA HB1.out hb2);have HR2:=bW (HR1.out.below hb2 hs1);have hs2:=Nat.lt_of_lt_of_le hs1 hb2.size;have HP2:=bW (HP.out.below HB2.out);have HS2:=bW (HS.out.below (HB0.out.trans (HB2.out.mono HB0.out.size)));have d1:=HR2.out.at 0 _ rfl;have d2:=HR2.out.at 1 _ rfl;have hI:=bW (HP.out.new_ne (Nat.le_refl _));clear hb2 cl;go_upto_region 29 with fail
 have qa_0:=HP2.out.row.at 6 _ rfl;have qa_f:=HP2.out.row.free 6 bG;have qa_b:=HP2.out.lt;have qa_B:w0.heap.size≤w2.heap.size:=Nat.le_trans HP2.out.base (Nat.le_of_lt qa_b);have qa_n:=bW HP2.out.nk;have qa_o:=bW HP2.out.ok;refine hY (n:=11) (S:=fun w'=>w'.cell? ⟨b,6,none⟩=some vk∧w'.cell? ⟨w.heap.size,0,none⟩=some (.int .i64 lo)∧w'.cell? ⟨w.heap.size,1,none⟩=some (.int .i64 hi)) (ds:=[10]) _ bB rfl rfl ⟨qa_0,d1,d2⟩ (fun hHeld=>?_);refine sA1 0 (some 174) sB1 ?_
 refine sA1 1 (some 175) sB1 ?_
 refine sA1 2 (some 176) sB1 ?_
 refine sA1 3 (some 177) sB1 ?_
 refine sC1 4 (some 178) sD1 ?_
 refine sC1 5 (some 179) sD1 ?_
 refine sF1 6 (some 180) sG1 (fun K hK=>?_);refine kT (w1:=?_) (v:=?_) bH rfl ?_ ?_;rotate_left 2
 ·go_simp;constructor
  ·rfl
  rfl
 have aa_h:Below w2.heap.size w2 (w2.drew.alloc (.cells ([.int .i64 lo,.int .i64 hi]:List Value).toArray 78)):=(Below.refl _ _).drew.alloc (Nat.le_refl _) _;refine hK.out _ _ ⟨((aa_h.cell (p:=⟨b,6,none⟩) (World.block_lt_of_cell? w2 ⟨b,6,none⟩ qa_0)).trans qa_0),((aa_h.cell (p:=⟨w.heap.size,0,none⟩) (World.block_lt_of_cell? w2 ⟨w.heap.size,0,none⟩ d1)).trans d1),((aa_h.cell (p:=⟨w.heap.size,1,none⟩) (World.block_lt_of_cell? w2 ⟨w.heap.size,1,none⟩ d2)).trans d2)⟩ (fun hHeld=>?_);clear hK K;refine gJ sJ1 ?_
 refine sF1 7 (some 181) sG1 (fun K hK=>?_);refine gE (w0:=w2) (W:=w2.drew) w0.heap.size bH (.tmp 178) (.tmp 180) 75 78 _ 2 16 bH Tryz.underlying75 mI rfl bF bF vk p.known.length (pairs p.known) [.int .i64 lo,.int .i64 hi] bH bH bH bL qa_o.out ((Below.refl _ _).drew) qa_B bA ?_;intro va war oa bba ga ta;obtain ⟨Aa,ca,eva⟩:=fL oa;subst eva;have xa_0:=ga.cell (w:=w2.drew) (a:=⟨b,6,none⟩) qa_0 qa_n.out;have xa_f:=(World.frozen?_of_block (w:=w2.drew) (a:=⟨b,6,none⟩) (ga.block b qa_b qa_n.out)).trans qa_f;have xa_1:=ga.cell (w:=w2.drew) (a:=⟨w.heap.size,0,none⟩) d1 hI.out.2.1
 have xa_2:=ga.cell (w:=w2.drew) (a:=⟨w.heap.size,1,none⟩) d2 hI.out.2.1
 have gga:w2.grownBy war vk.ownBlock:=⟨ga.os,ga.tape,ga.output,ga.size,ga.block⟩
 obtain ⟨hpa,hma⟩:=jZ HP2.out (lo,hi) (w':=war) oa gga ta;have HPa:=bW hpa;have HMa:=bW hma;clear hpa hma oa bba ga gga ta;refine hK.out _ _ ⟨xa_0,xa_1,xa_2⟩ (fun hHeld=>?_);clear hK K;refine gJ sJ1 ?_
 refine sA1 8 (some 182) sB1 ?_
 refine sA1 9 (some 183) sB1 ?_
 refine sH1 10 none sI1 (fun K hK=>?_);refine iO (w1:=?_) bH rfl ?_ ?_;rotate_left
 ·go_simp;rfl
 refine hK.out _ _ ?_;clear hK K;refine iK bB ?_;clear d1 d2 xa_0 xa_f xa_1 xa_2 qa_0 qa_f qa_b qa_B qa_n qa_o aa_h
 obtain ⟨Wa,hWa⟩:∃ W,war.setCell ⟨b,6,none⟩ (.slice Aa (p.known.length+1) ca)=W:=⟨_,rfl⟩
 replace HPa:Aside0 (eF Wa w0.heap.size b { p with known:=p.known++[((lo:Int),(hi:Int))] } (.slice Aa (p.known.length+1) ca) vu vl u):=hWa▸HPa;replace HMa:Aside0 (eW w2 Wa b vk vu vl (.slice Aa (p.known.length+1) ca) vu vl):=hWa▸HMa;rw[hWa];clear hWa;have z4:IntKind.i64.wrap (p.known.length:Int)=(p.known.length:Int):=by rw[IntWalk.i64_in _ bA]
 have k6:=HPa.out.row.at 6 _ rfl;have k7:=HPa.out.row.at 19 _ rfl;have k8:=HPa.out.row.free 19 bG;go_wp2_with fail
 obtain ⟨hpc,hmc⟩:=fW HPa.out 19 (.int .i64 p.known.length) { p with known:=p.known++[((lo:Int),(hi:Int))],play:=p.known.length } u rfl rfl rfl rfl bA;go_ret;exact ⟨rfl,_,_,hpc,((eW.of_below HB2.out).trans HMa.out).trans hmc⟩
theorem wB (S:iM w0 pb st sl sd sf sc mb sb fb) (OS:iR st) (hB:Below w0.heap.size w0 w) (H:eF w w0.heap.size b p vk vu vl u) (osz:p.s.size≤1000000) (okl:p.known.length≤1000000) (oll:p.plangs.length≤1000000) (comp:ByteArray) (lo hi:Nat) (q1:lo≤hi) (q2:hi≤p.s.size) (hasc:asc (p.s.extract lo hi)) (hc:(comp.toList==[108,97,121,111,117,116,115])=false) :
 Calls Tryz.prog 165 #[.pointer (some ⟨pb,0,none⟩),.string comp,.string ⟨#[108,97,121,111,117,116,95]⟩,.pointer (some ⟨b,0,none⟩),.agg #[.int .i64 lo,.int .i64 hi]] w fun e w' =>
  e = .returned (.bool false)∧Below w.heap.size w w':=by
 have HP:=bW H;have hb:=H.lt;have HS:=bW S;have HB0:=bW hB;have hsz:(p.s.extract lo hi).size≤1000000:=Nat.le_trans (iH _ _ _) osz;have cl:=fun W=>Tryz.strings_ToLower_ascii (p.s.extract lo hi) W bA hasc
 obtain ⟨x,hx⟩:∃ x,jM (p.s.extract lo hi)=x:=⟨_,rfl⟩
 rw[show (⟨(Lib.toLowerA (p.s.extract lo hi).data.toList).toArray⟩:ByteArray)=x from hx] at cl;have hxz:x.size≤1000000:=by rw[← hx,kO];exact hsz
 have HX:=bW hx;have h0:=H.row.at 0 _ rfl;have mne:=nA mb;clear H S hB hasc hx;go_enter Tryz.func165,Tryz.ntmps165;go_upto_region 1 with fail
 have hal:Below w.heap.size w (w.alloc (.cells #[.int .i64 lo,.int .i64 hi] 78)):=(Below.refl _ _).alloc (Nat.le_refl _) _;have hR:=Row.new w [.int .i64 lo,.int .i64 hi] 78;have hs1:w.heap.size < (w.alloc (.cells #[.int .i64 lo,.int .i64 hi] 78)).heap.size:=by simp
 obtain ⟨V0,hV0⟩:∃ V0,w.alloc (.cells #[.int .i64 lo,.int .i64 hi] 78)=V0:=⟨_,rfl⟩
 replace hR:Row V0 w.heap.size [.int .i64 lo,.int .i64 hi]:=hV0▸hR;rw[hV0] at hal hs1 ⊢;clear hV0;refine wp_region_still_tail 9 bB bB ?_;change wpStill _ _ V0.drew (fun a'=>wpList _ _ _ _ a' V0.drew) _ _;replace hal:=hal.drew;replace hR:Row V0.drew w.heap.size [.int .i64 lo,.int .i64 hi]:=hR.step rfl;replace hs1:w.heap.size < V0.drew.heap.size:=hs1
 obtain ⟨V,hV⟩:∃ V,V0.drew=V:=⟨_,rfl⟩
 rw[hV] at hal hR hs1 ⊢;clear hV;have d0:V.cell? ⟨b,0,none⟩=some (.string p.s):=(hal.cell (p:=⟨b,0,none⟩) hb).trans h0;have d1:=hR.at 0 _ rfl;have d2:=hR.at 1 _ rfl;simp only[List.take_succ_cons,List.take_zero,List.drop_succ_cons,List.drop_zero]
 repeat still_step
 refine wpStill_nil ?_;have HB1:=bW hal;have HR1:=bW hR;clear hal hR d0 d1 d2 h0;go_wp2_with fail
 refine (cl V).mono ?_;rintro e w2 ⟨rfl,hb2⟩;have HB2:=bW (eA HB1.out hb2);have HR2:=bW (HR1.out.below hb2 hs1);have hs2:=Nat.lt_of_lt_of_le hs1 hb2.size;have HP2:=bW (HP.out.below HB2.out);have HS2:=bW (HS.out.below (HB0.out.trans (HB2.out.mono HB0.out.size)));have d1:=HR2.out.at 0 _ rfl;have d2:=HR2.out.at 1 _ rfl;have hI:=bW (HP.out.new_ne (Nat.le_refl _));clear hb2 cl;go_wp2_with fail
 go_ret;exact ⟨rfl,HB2.out⟩
theorem aA7 (S:iM w0 pb st sl sd sf sc mb sb fb) (OS:iR st) (hB:Below w0.heap.size w0 w) (H:eF w w0.heap.size b p vk vu vl u) (osz:p.s.size≤1000000) (okl:p.known.length≤1000000) (oll:p.plangs.length≤1000000) (comp:ByteArray) (lo hi:Nat) (q1:lo≤hi) (q2:hi≤p.s.size) (hasc:asc (p.s.extract lo hi))  :
 Calls Tryz.prog 165 #[.pointer (some ⟨pb,0,none⟩),.string comp,.string ⟨#[118,101,114,115,105,111,110,95]⟩,.pointer (some ⟨b,0,none⟩),.agg #[.int .i64 lo,.int .i64 hi]] w fun e w' =>
  e = .returned (.bool false)∧Below w.heap.size w w':=by
 have HP:=bW H;have hb:=H.lt;have HS:=bW S;have HB0:=bW hB;have hsz:(p.s.extract lo hi).size≤1000000:=Nat.le_trans (iH _ _ _) osz;have cl:=fun W=>Tryz.strings_ToLower_ascii (p.s.extract lo hi) W bA hasc
 obtain ⟨x,hx⟩:∃ x,jM (p.s.extract lo hi)=x:=⟨_,rfl⟩
 rw[show (⟨(Lib.toLowerA (p.s.extract lo hi).data.toList).toArray⟩:ByteArray)=x from hx] at cl;have hxz:x.size≤1000000:=by rw[← hx,kO];exact hsz
 have HX:=bW hx;have h0:=H.row.at 0 _ rfl;have mne:=nA mb;clear H S hB hasc hx;go_enter Tryz.func165,Tryz.ntmps165;go_upto_region 1 with fail
 have hal:Below w.heap.size w (w.alloc (.cells #[.int .i64 lo,.int .i64 hi] 78)):=(Below.refl _ _).alloc (Nat.le_refl _) _;have hR:=Row.new w [.int .i64 lo,.int .i64 hi] 78;have hs1:w.heap.size < (w.alloc (.cells #[.int .i64 lo,.int .i64 hi] 78)).heap.size:=by simp
 obtain ⟨V0,hV0⟩:∃ V0,w.alloc (.cells #[.int .i64 lo,.int .i64 hi] 78)=V0:=⟨_,rfl⟩
 replace hR:Row V0 w.heap.size [.int .i64 lo,.int .i64 hi]:=hV0▸hR;rw[hV0] at hal hs1 ⊢;clear hV0;refine wp_region_still_tail 9 bB bB ?_;change wpStill _ _ V0.drew (fun a'=>wpList _ _ _ _ a' V0.drew) _ _;replace hal:=hal.drew;replace hR:Row V0.drew w.heap.size [.int .i64 lo,.int .i64 hi]:=hR.step rfl;replace hs1:w.heap.size < V0.drew.heap.size:=hs1
 obtain ⟨V,hV⟩:∃ V,V0.drew=V:=⟨_,rfl⟩
 rw[hV] at hal hR hs1 ⊢;clear hV;have d0:V.cell? ⟨b,0,none⟩=some (.string p.s):=(hal.cell (p:=⟨b,0,none⟩) hb).trans h0;have d1:=hR.at 0 _ rfl;have d2:=hR.at 1 _ rfl;simp only[List.take_succ_cons,List.take_zero,List.drop_succ_cons,List.drop_zero]
 repeat still_step
 refine wpStill_nil ?_;have HB1:=bW hal;have HR1:=bW hR;clear hal hR d0 d1 d2 h0;go_wp2_with fail
 refine (cl V).mono ?_;rintro e w2 ⟨rfl,hb2⟩;have HB2:=bW (eA HB1.out hb2);have HR2:=bW (HR1.out.below hb2 hs1);have hs2:=Nat.lt_of_lt_of_le hs1 hb2.size;have HP2:=bW (HP.out.below HB2.out);have HS2:=bW (HS.out.below (HB0.out.trans (HB2.out.mono HB0.out.size)));have d1:=HR2.out.at 0 _ rfl;have d2:=HR2.out.at 1 _ rfl;have hI:=bW (HP.out.new_ne (Nat.le_refl _));clear hb2 cl;go_wp2_with fail
 go_ret;exact ⟨rfl,HB2.out⟩
theorem aEz (S:iM w0 pb st sl sd sf sc mb sb fb) (OS:iR st) (hB:Below w0.heap.size w0 w) (H:eF w w0.heap.size b p vk vu vl u) (osz:p.s.size≤1000000) (okl:p.known.length≤1000000) (oll:p.plangs.length≤1000000) (comp:ByteArray) (lo hi:Nat) (q1:lo≤hi) (q2:hi≤p.s.size) (hasc:asc (p.s.extract lo hi))  :
 Calls Tryz.prog 165 #[.pointer (some ⟨pb,0,none⟩),.string comp,.string ⟨#[114,111,108,101,95]⟩,.pointer (some ⟨b,0,none⟩),.agg #[.int .i64 lo,.int .i64 hi]] w fun e w' =>
  e = .returned (.bool false)∧Below w.heap.size w w':=by
 have HP:=bW H;have hb:=H.lt;have HS:=bW S;have HB0:=bW hB;have hsz:(p.s.extract lo hi).size≤1000000:=Nat.le_trans (iH _ _ _) osz;have cl:=fun W=>Tryz.strings_ToLower_ascii (p.s.extract lo hi) W bA hasc
 obtain ⟨x,hx⟩:∃ x,jM (p.s.extract lo hi)=x:=⟨_,rfl⟩
 rw[show (⟨(Lib.toLowerA (p.s.extract lo hi).data.toList).toArray⟩:ByteArray)=x from hx] at cl;have hxz:x.size≤1000000:=by rw[← hx,kO];exact hsz
 have HX:=bW hx;have h0:=H.row.at 0 _ rfl;have mne:=nA mb;clear H S hB hasc hx;go_enter Tryz.func165,Tryz.ntmps165;go_upto_region 1 with fail
 have hal:Below w.heap.size w (w.alloc (.cells #[.int .i64 lo,.int .i64 hi] 78)):=(Below.refl _ _).alloc (Nat.le_refl _) _;have hR:=Row.new w [.int .i64 lo,.int .i64 hi] 78;have hs1:w.heap.size < (w.alloc (.cells #[.int .i64 lo,.int .i64 hi] 78)).heap.size:=by simp
 obtain ⟨V0,hV0⟩:∃ V0,w.alloc (.cells #[.int .i64 lo,.int .i64 hi] 78)=V0:=⟨_,rfl⟩
 replace hR:Row V0 w.heap.size [.int .i64 lo,.int .i64 hi]:=hV0▸hR;rw[hV0] at hal hs1 ⊢;clear hV0;refine wp_region_still_tail 9 bB bB ?_;change wpStill _ _ V0.drew (fun a'=>wpList _ _ _ _ a' V0.drew) _ _;replace hal:=hal.drew;replace hR:Row V0.drew w.heap.size [.int .i64 lo,.int .i64 hi]:=hR.step rfl;replace hs1:w.heap.size < V0.drew.heap.size:=hs1
 obtain ⟨V,hV⟩:∃ V,V0.drew=V:=⟨_,rfl⟩
 rw[hV] at hal hR hs1 ⊢;clear hV;have d0:V.cell? ⟨b,0,none⟩=some (.string p.s):=(hal.cell (p:=⟨b,0,none⟩) hb).trans h0;have d1:=hR.at 0 _ rfl;have d2:=hR.at 1 _ rfl;simp only[List.take_succ_cons,List.take_zero,List.drop_succ_cons,List.drop_zero]
 repeat still_step
 refine wpStill_nil ?_;have HB1:=bW hal;have HR1:=bW hR;clear hal hR d0 d1 d2 h0;go_wp2_with fail
 refine (cl V).mono ?_;rintro e w2 ⟨rfl,hb2⟩;have HB2:=bW (eA HB1.out hb2);have HR2:=bW (HR1.out.below hb2 hs1);have hs2:=Nat.lt_of_lt_of_le hs1 hb2.size;have HP2:=bW (HP.out.below HB2.out);have HS2:=bW (HS.out.below (HB0.out.trans (HB2.out.mono HB0.out.size)));have d1:=HR2.out.at 0 _ rfl;have d2:=HR2.out.at 1 _ rfl;have hI:=bW (HP.out.new_ne (Nat.le_refl _));clear hb2 cl;go_wp2_with fail
 go_ret;exact ⟨rfl,HB2.out⟩
end
open Go.RowKit Go.WideMaps Go.ZW.PrintWords Go.Proofs.YtlkoeeccebmjmaaGreatDoor.Base
structure Env where
 lang:ByteArray→Bool
 dis:ByteArray→Bool
 fmt:ByteArray→ByteArray→Bool
 cont:ByteArray→Bool
def eH (st:fF):Env:=⟨listed st.langs,listed st.dis,lM st.fmts,listed st.cont⟩
def eO (comp:ByteArray):Bool:=comp.toList==[108,97,121,111,117,116,115]
def isKind (s:ByteArray):Bool:=oH (Lib.toLowerA (L s))
def fH:ByteArray:=⟨#[108,97,110,103,117,97,103,101,95]⟩
def nD:ByteArray:=⟨#[118,101,114,115,105,111,110,95]⟩
def oW:ByteArray:=⟨#[114,111,108,101,95]⟩
def gK:ByteArray:=⟨#[111,117,116,112,117,116,102,111,114,109,97,116,95]⟩
def gA:ByteArray:=⟨#[107,105,110,100,95]⟩
def fQ:ByteArray:=⟨#[108,97,121,111,117,116,95]⟩
def iZ (E:Env) (lay:Bool) (p:eE) (pre:ByteArray) (x:Int×Int) (v:ByteArray):Option eE :=
 if pre=fH then
  if E.lang v then some { p with known:=p.known++[x],plangs:=p.plangs++[(p.known.length:Int)] }
  else if E.dis v then some { p with known:=p.known++[x],plangs:=p.plangs++[(p.known.length:Int)],dis:=true } else none
 else if pre=gK then if lay && E.fmt v ⟨#[]⟩ then some { p with known:=p.known++[x],pfmt:=p.known.length } else none
 else if pre=gA then if lay && isKind v then some { p with known:=p.known++[x],pkind:=p.known.length } else none
 else if pre=fQ then if lay then some { p with known:=p.known++[x],play:=p.known.length } else none
 else none
theorem prefOf_cases (s:ByteArray):iF s=⟨#[]⟩∨iF s=fH∨iF s=nD∨iF s=oW∨iF s=gK∨iF s=gA∨iF s=fQ:=by
 unfold iF kU;simp only[lR]
 repeat' split
 all_goals simp[fH,nD,oW,gK,gA,fQ]
section
variable {w0 w:World} {b:Nat} {p:eE} {vk vu vl u:Value} {pb mb sb fb:Nat} {st:fF} {sl sd sf sc:Value}
theorem aDf (S:iM w0 pb st sl sd sf sc mb sb fb) (OS:iR st) (hB:Below w0.heap.size w0 w) (H:eF w w0.heap.size b p vk vu vl u) (osz:p.s.size≤1000000) (okl:p.known.length≤1000000) (oll:p.plangs.length≤1000000) (comp:ByteArray) (lo hi:Nat) (q1:lo≤hi) (q2:hi≤p.s.size) (hasc:asc (p.s.extract lo hi))
 (pre:ByteArray) (hpre:pre=fH∨pre=nD∨pre=oW∨pre=gK∨pre=gA∨pre=fQ) :
 Calls Tryz.prog 165 #[.pointer (some ⟨pb,0,none⟩),.string comp,.string pre,.pointer (some ⟨b,0,none⟩),.agg #[.int .i64 lo,.int .i64 hi]] w fun e w' =>
  match iZ (eH st) (eO comp) p pre ((lo:Int),(hi:Int)) (jM (p.s.extract lo hi)) with
  | some p'=>e = .returned (.bool true)∧∃ vk' vl',eF w' w0.heap.size b p' vk' vu vl' u∧eW w w' b vk vu vl vk' vu vl'
  | none=>e = .returned (.bool false)∧Below w.heap.size w w':=by
 rcases hpre with rfl | rfl | rfl | rfl | rfl | rfl
 ·rw[iZ,if_pos rfl]
  cases h1:(eH st).lang (jM (p.s.extract lo hi)) with
  | true=>exact zP S OS hB H osz okl oll comp lo hi q1 q2 hasc h1
  | false =>
   cases h2:(eH st).dis (jM (p.s.extract lo hi)) with
   | true=>exact zO S OS hB H osz okl oll comp lo hi q1 q2 hasc h1 h2
   | false=>exact aA6 S OS hB H osz okl oll comp lo hi q1 q2 hasc h1 h2
 ·exact aA7 S OS hB H osz okl oll comp lo hi q1 q2 hasc
 ·exact aEz S OS hB H osz okl oll comp lo hi q1 q2 hasc
 ·rw[iZ,if_neg bF,if_pos rfl]
  cases h0:eO comp with
  | false=>exact zN S OS hB H osz okl oll comp lo hi q1 q2 hasc h0
  | true =>
   cases h1:(eH st).fmt (jM (p.s.extract lo hi)) ⟨#[]⟩ with
   | true=>exact aF4 S OS hB H osz okl oll comp lo hi q1 q2 hasc h0 h1
   | false=>exact aBs S OS hB H osz okl oll comp lo hi q1 q2 hasc h0 h1
 ·rw[iZ,if_neg bF,if_neg bF,if_pos rfl]
  cases h0:eO comp with
  | false=>exact yD S OS hB H osz okl oll comp lo hi q1 q2 hasc h0
  | true =>
   cases h1:isKind (jM (p.s.extract lo hi)) with
   | true=>exact aEy S OS hB H osz okl oll comp lo hi q1 q2 hasc h0 h1
   | false=>exact aA5 S OS hB H osz okl oll comp lo hi q1 q2 hasc h0 h1
 rw[iZ,if_neg bF,if_neg bF,if_neg bF,if_pos rfl]
 cases h0:eO comp with
 | false=>exact wB S OS hB H osz okl oll comp lo hi q1 q2 hasc h0
 | true=>exact aBt S OS hB H osz okl oll comp lo hi q1 q2 hasc h0
end
open Go.RowKit Go.ZW.PrintWords Go.Proofs.YtlkoeeccebmjmaaGreatDoor.Base
section
variable {w:World} {B b:Nat} {p:eE} {vk vu vl u:Value}
def jT (p:eE) (bun:Bool):Int:=if (if bun then p.cHigh - 1 else p.nHigh)=0 then 1 else (if bun then p.cHigh - 1 else p.nHigh)
def iS (p:eE) (pres bun:Bool):ByteArray :=
 match p.known with
 | []=>nrm p.trim p.s
 | k0::rest=>if pres=true∧rest=[] then nrm p.trim p.s else
  if pres then nrm p.trim (sub p.s 0 (jT p bun)++sub p.s (k0.1 - 1) k0.2) else nrm p.trim (sub p.s 0 (jT p bun))
theorem yH (H:eF w B b p vk vu vl u) (pres bun:Bool) (hk:p.known=[]∨(pres=true∧p.known.length=1)) :
 Calls Tryz.prog 127 #[.pointer (some ⟨b,0,none⟩),.bool pres,.bool bun] w fun e w'=>e = .returned (.string (nrm p.trim p.s))∧Below w.heap.size w w':=by
 have h0:=H.row.at 0 _ rfl;have h6:=H.row.at 6 _ rfl;obtain ⟨A,c,hv⟩:=fL H.ok;rw[hv] at h6;have cn:=iN H p.s;rcases hk with hk | ⟨rfl,hk⟩
 ·rw[hk] at h6;have h6' : w.cell? ⟨b,6,none⟩=some (.slice A 0 c):=h6;clear hv H hk h6;go_enter Tryz.func127,Tryz.ntmps127;go_wp2_with fail
  (with_reducible refine cn.mono ?_)
  rintro e w' ⟨rfl,rfl⟩;go_wp2_with fail
  go_ret;exact ⟨rfl,Below.refl _ _⟩
 rw[hk] at h6;clear hv H hk;go_enter Tryz.func127,Tryz.ntmps127;go_wp2_with fail
 (with_reducible refine cn.mono ?_)
 rintro e w' ⟨rfl,rfl⟩;go_wp2_with fail
 go_ret;exact ⟨rfl,Below.refl _ _⟩
theorem aCe (O:hU p) (bun:Bool):∃ h:Nat,jT p bun=h∧h≤p.s.size:=by
 obtain ⟨o2,o3⟩:=O.ch;obtain ⟨o4,o5,o6⟩:=O.na;cases bun
 ·by_cases c:p.nHigh=0
  ·exact ⟨1,by unfold jT;simp[c],aM⟩
  exact ⟨p.nHigh.toNat,by unfold jT;simp[c];omega,aM⟩
 by_cases c:p.cHigh - 1=0
 ·exact ⟨1,by unfold jT;simp[c],aM⟩
 exact ⟨(p.cHigh - 1).toNat,by unfold jT;simp[c];omega,aM⟩
theorem aHb (H:eF w B b p vk vu vl u) (O:hU p) (bun:Bool) (hk:p.known≠[]) :
 Calls Tryz.prog 127 #[.pointer (some ⟨b,0,none⟩),.bool false,.bool bun] w fun e w'=>e = .returned (.string (nrm p.trim (sub p.s 0 (jT p bun))))∧Below w.heap.size w w':=by
 have h0:=H.row.at 0 _ rfl;have h2:=H.row.at 2 _ rfl;have h6:=H.row.at 6 _ rfl;obtain ⟨A,c,hv⟩:=fL H.ok;rw[hv] at h6;obtain ⟨h,hh,hle⟩:=aCe O bun;have HE:=bW (show sub p.s 0 (jT p bun)=p.s.extract 0 h by rw[hh];rfl);have hlen:((p.known.length:Int)==0)=false:=beq_eq_false_iff_ne.2 (by have:=List.length_pos_iff.2 hk;omega);obtain ⟨o2,o3⟩:=O.ch;obtain ⟨o4,o5,o6⟩:=O.na;have o1:=O.sz;have HH:=bW H;have cl:=oO H;have hf:∀ (m n:Int) (W:World),(Instr.field 78 (.agg #[.int .i64 m,.int .i64 n]) 1).run Tryz.prog W = .ok (.int .i64 n) W:=fun _ _ _=>by kernel_rfl
 cases bun
 ·have hhn:(if p.nHigh=0 then 1 else p.nHigh)=(h:Int):=by rw[← hh];unfold jT;simp
  clear hh hv H O h2
  by_cases z:p.nHigh=0
  ·rw[if_pos z] at hhn;have h1:h=1:=by omega
   subst h1;rw[z] at cl;clear z hhn;have hle2:(1:Int)≤p.s.size:=by omega
   go_enter Tryz.func127,Tryz.ntmps127;go_wp2_with fail
   (with_reducible refine cl.mono ?_)
   rintro e w1 ⟨rfl,hd⟩;have HD:=bW hd;have h0:=(HH.out.below hd).row.at 0 _ rfl;clear hd;go_wp2_with fail
   (with_reducible refine (iN (HH.out.below HD.out) _).mono ?_)
   rintro e w' ⟨rfl,rfl⟩;go_wp2_with fail
   go_ret;exact ⟨by rw[HE.out];rfl,HD.out⟩
  rw[if_neg z] at hhn;rw[hhn] at cl z;clear hhn;have z2:((h:Int)==0)=false:=beq_eq_false_iff_ne.2 z;have hle2:(h:Int)≤p.s.size:=by omega
  clear z;go_enter Tryz.func127,Tryz.ntmps127;go_wp2_with fail
  (with_reducible refine cl.mono ?_)
  rintro e w1 ⟨rfl,hd⟩;have HD:=bW hd;have h0:=(HH.out.below hd).row.at 0 _ rfl;clear hd;go_wp2_with fail
  (with_reducible refine (iN (HH.out.below HD.out) _).mono ?_)
  rintro e w' ⟨rfl,rfl⟩;go_wp2_with fail
  go_ret;exact ⟨by rw[HE.out];rfl,HD.out⟩
 have hhn:(if p.cHigh - 1=0 then 1 else p.cHigh - 1)=(h:Int):=by rw[← hh];unfold jT;simp
 clear hh hv H O cl
 by_cases z:p.cHigh - 1=0
 ·rw[if_pos z] at hhn;have h1:h=1:=by omega
  subst h1;have z1:p.cHigh=1:=by omega
  rw[z1] at h2;clear z hhn z1;have hle2:(1:Int)≤p.s.size:=by omega
  go_enter Tryz.func127,Tryz.ntmps127;go_wp2_with fail
  (with_reducible refine (iN HH.out _).mono ?_)
  rintro e w' ⟨rfl,rfl⟩;go_wp2_with fail
  go_ret;exact ⟨by rw[HE.out];rfl,Below.refl _ _⟩
 rw[if_neg z] at hhn;have z1:p.cHigh=(h:Int)+1:=by omega
 rw[z1] at h2;have z2:((h:Int)==0)=false:=beq_eq_false_iff_ne.2 bA;have hle2:(h:Int)≤p.s.size:=by omega
 clear z hhn z1;go_enter Tryz.func127,Tryz.ntmps127;go_wp2_with fail
 (with_reducible refine (iN HH.out _).mono ?_)
 rintro e w' ⟨rfl,rfl⟩;go_wp2_with fail
 go_ret;exact ⟨by rw[HE.out];rfl,Below.refl _ _⟩
theorem aHc (H:eF w B b p vk vu vl u) (O:hU p) (bun:Bool) (k0:Int×Int) (hk0:p.known[0]? = some k0) (hk:2≤p.known.length) :
 Calls Tryz.prog 127 #[.pointer (some ⟨b,0,none⟩),.bool true,.bool bun] w fun e w'=>e = .returned (.string (nrm p.trim (sub p.s 0 (jT p bun)++sub p.s (k0.1 - 1) k0.2)))∧Below w.heap.size w w':=by
 have h0:=H.row.at 0 _ rfl;have h2:=H.row.at 2 _ rfl;have h6:=H.row.at 6 _ rfl;obtain ⟨q1,q2,q3⟩:=O.kn k0 (List.mem_of_getElem? hk0);obtain ⟨lo,hlo⟩:=Int.eq_ofNat_of_zero_le (show 0≤k0.1 by omega);obtain ⟨hi,hhi⟩:=Int.eq_ofNat_of_zero_le (show 0≤k0.2 by omega);obtain ⟨g,cp,hv,k1,k2⟩:=H.knownAt 0 k0 hk0;rw[hv] at h6;rw[hlo] at k1 q1 q2;rw[hhi] at k2 q2 q3;have hb:=H.lt;have hg:g < w.heap.size:=World.block_lt_of_cell? w ⟨g,0 * 2,none⟩ k1;have k1' : w.cell? ⟨g,0,none⟩=some (.int .i64 lo):=k1;have k2' : w.cell? ⟨g,1,none⟩=some (.int .i64 hi):=k2;obtain ⟨h,hh,hle⟩:=aCe O bun;have o1:=O.sz;have hlow:((lo - 1:Nat):Int)=(lo:Int) - 1:=by omega
 have HE:=bW (show sub p.s 0 (jT p bun)++sub p.s (k0.1 - 1) k0.2=p.s.extract 0 h++p.s.extract (lo - 1) hi by rw[hh,hlo,hhi,← hlow];rfl);have hlen:((p.known.length:Int)==0)=false:=beq_eq_false_iff_ne.2 bA;have hlen1:((p.known.length:Int)==1)=false:=beq_eq_false_iff_ne.2 bA;have hlen0:0 < p.known.length:=by omega
 have hyc:IntKind.i64.wrap ((lo:Int) - 1)=((lo - 1:Nat):Int):=by rw[IntWalk.i64_in _ bA];omega
 have r1:((lo - 1:Nat):Int)≤(hi:Int):=by omega
 have hsum:(p.s.extract 0 h).size+(p.s.extract (lo - 1) hi).size≤9223372036854775807:=by
  have l1:=iH p.s 0 h;have l2:=iH p.s (lo - 1) hi;omega
 obtain ⟨o2,o3⟩:=O.ch;obtain ⟨o4,o5,o6⟩:=O.na;have hf:∀ (m n:Int) (W:World),(Instr.field 78 (.agg #[.int .i64 m,.int .i64 n]) 1).run Tryz.prog W = .ok (.int .i64 n) W:=fun _ _ _=>by kernel_rfl
 have HH:=bW H;have cl:=oO H;cases bun
 ·have hhn:(if p.nHigh=0 then 1 else p.nHigh)=(h:Int):=by rw[← hh];unfold jT;simp
  clear hh hv H O h2 hlow k1 k2 hk0
  by_cases z:p.nHigh=0
  ·rw[if_pos z] at hhn;have h1:h=1:=by omega
   subst h1;rw[z] at cl;clear z hhn;have hle2:(1:Int)≤p.s.size:=by omega
   go_enter Tryz.func127,Tryz.ntmps127;go_wp2_with fail
   (with_reducible refine cl.mono ?_)
   rintro e w1 ⟨rfl,hd⟩;have HD:=bW hd;have h0:=(HH.out.below hd).row.at 0 _ rfl;have h6:=(hd.cell (p:=⟨b,6,none⟩) hb).trans h6;have k1:=(hd.cell (p:=⟨g,0,none⟩) hg).trans k1';have k2:=(hd.cell (p:=⟨g,1,none⟩) hg).trans k2';have hb1:=(HH.out.below hd).lt;have hg1:g < w1.heap.size:=Nat.lt_of_lt_of_le hg hd.size;clear hd;go_wp2_with fail
   go_quiet ((go_at_call 69;exact Calls.quiet_of_same (iN (((HH.out.below HD.out).alloc _).drewN _) _)))
   go_wp2_with fail
   go_ret;exact ⟨by rw[HE.out];rfl,eA (HD.out.alloc HD.out.size _) (eV.below ⟨⟨_,rfl⟩⟩)⟩
  rw[if_neg z] at hhn;rw[hhn] at cl z;clear hhn;have z2:((h:Int)==0)=false:=beq_eq_false_iff_ne.2 z;have hle2:(h:Int)≤p.s.size:=by omega
  clear z;go_enter Tryz.func127,Tryz.ntmps127;go_wp2_with fail
  (with_reducible refine cl.mono ?_)
  rintro e w1 ⟨rfl,hd⟩;have HD:=bW hd;have h0:=(HH.out.below hd).row.at 0 _ rfl;have h6:=(hd.cell (p:=⟨b,6,none⟩) hb).trans h6;have k1:=(hd.cell (p:=⟨g,0,none⟩) hg).trans k1';have k2:=(hd.cell (p:=⟨g,1,none⟩) hg).trans k2';have hb1:=(HH.out.below hd).lt;have hg1:g < w1.heap.size:=Nat.lt_of_lt_of_le hg hd.size;clear hd;go_wp2_with fail
  go_quiet ((go_at_call 69;exact Calls.quiet_of_same (iN (((HH.out.below HD.out).alloc _).drewN _) _)))
  go_wp2_with fail
  go_ret;exact ⟨by rw[HE.out];rfl,eA (HD.out.alloc HD.out.size _) (eV.below ⟨⟨_,rfl⟩⟩)⟩
 have hhn:(if p.cHigh - 1=0 then 1 else p.cHigh - 1)=(h:Int):=by rw[← hh];unfold jT;simp
 clear hh hv H O cl hlow k1 k2 hk0
 by_cases z:p.cHigh - 1=0
 ·rw[if_pos z] at hhn;have h1:h=1:=by omega
  subst h1;have z1:p.cHigh=1:=by omega
  rw[z1] at h2;clear z hhn z1;have hle2:(1:Int)≤p.s.size:=by omega
  go_enter Tryz.func127,Tryz.ntmps127;go_wp2_with fail
  go_quiet ((go_at_call 69;exact Calls.quiet_of_same (iN ((HH.out.alloc _).drewN _) _)))
  go_wp2_with fail
  go_ret;exact ⟨by rw[HE.out];rfl,eA ((Below.refl _ _).alloc (Nat.le_refl _) _) (eV.below ⟨⟨_,rfl⟩⟩)⟩
 rw[if_neg z] at hhn;have z1:p.cHigh=(h:Int)+1:=by omega
 rw[z1] at h2;have z2:((h:Int)==0)=false:=beq_eq_false_iff_ne.2 bA;have hle2:(h:Int)≤p.s.size:=by omega
 clear z hhn z1;go_enter Tryz.func127,Tryz.ntmps127;go_wp2_with fail
 go_quiet ((go_at_call 69;exact Calls.quiet_of_same (iN ((HH.out.alloc _).drewN _) _)))
 go_wp2_with fail
 go_ret;exact ⟨by rw[HE.out];rfl,eA ((Below.refl _ _).alloc (Nat.le_refl _) _) (eV.below ⟨⟨_,rfl⟩⟩)⟩
theorem sZ (H:eF w B b p vk vu vl u) (O:hU p) (pres bun:Bool) :
 Calls Tryz.prog 127 #[.pointer (some ⟨b,0,none⟩),.bool pres,.bool bun] w fun e w'=>e = .returned (.string (iS p pres bun))∧Below w.heap.size w w':=by
 cases hk:p.known with
 | nil =>
  have e:iS p pres bun=nrm p.trim p.s:=by unfold iS;rw[hk]
  rw[e];exact yH H pres bun (.inl hk)
 | cons k0 r =>
  by_cases c:pres=true∧r=[]
  ·have e:iS p pres bun=nrm p.trim p.s:=by unfold iS;rw[hk];simp only[if_pos c]
   rw[e];exact yH H pres bun (.inr ⟨c.1,by rw[hk,c.2];rfl⟩)
  cases pres with
  | false =>
   have e:iS p false bun=nrm p.trim (sub p.s 0 (jT p bun)):=by unfold iS;rw[hk];simp
   rw[e];exact aHb H O bun (by rw[hk];simp)
  | true =>
   have hr:r≠[]:=fun h=>c ⟨rfl,h⟩;have e:iS p true bun=nrm p.trim (sub p.s 0 (jT p bun)++sub p.s (k0.1 - 1) k0.2):=by unfold iS;rw[hk];simp[hr]
   rw[e];exact aHc H O bun k0 (by rw[hk];rfl) (by rw[hk];have:=List.length_pos_iff.2 hr;simp;omega)
def iV (p:eE):ByteArray :=
 if (iS p (!decide (2≤p.typ∧p.typ≤5)) (decide (3≤p.typ∧p.typ≤5))).toList=[47]∧(2≤p.typ∧p.typ≤5) then ByteArray.empty else iS p (!decide (2≤p.typ∧p.typ≤5)) (decide (3≤p.typ∧p.typ≤5))
theorem qO (H:eF w B b p vk vu vl u) (O:hU p):Calls Tryz.prog 67 #[.pointer (some ⟨b,0,none⟩)] w fun e w'=>e = .returned (.string (iV p))∧Below w.heap.size w w':=by
 have c1:=lC H;have c2:=oD H;unfold iV
 obtain ⟨pg,hpg⟩:∃ x,decide (2≤p.typ∧p.typ≤5)=x:=⟨_,rfl⟩
 obtain ⟨bn,hbn⟩:∃ x,decide (3≤p.typ∧p.typ≤5)=x:=⟨_,rfl⟩
 rw[hpg,hbn];rw[hpg] at c1;rw[hbn] at c2;have c3:=sZ H O (!pg) bn
 obtain ⟨s,hs⟩:∃ s,iS p (!pg) bn=s:=⟨_,rfl⟩
 rw[hs] at c3 ⊢;have HH:=bW H;clear hs hbn H O;have hpg':=hpg
 by_cases q:s.toList=[47]
 ·have qb:(s.toList==[47])=true:=beq_iff_eq.2 q
  cases pg with
  | true =>
   simp only[Bool.not_true] at c3;rw[if_pos ⟨q,of_decide_eq_true hpg⟩];clear q hpg;go_enter Tryz.func67,Tryz.ntmps67;go_wp2_with fail
   (with_reducible refine c1.mono ?_)
   rintro e w' ⟨rfl,rfl⟩;go_wp2_with fail
   (with_reducible refine c2.mono ?_)
   rintro e w' ⟨rfl,rfl⟩;go_wp2_with fail
   (with_reducible refine c3.mono ?_)
   rintro e w' ⟨rfl,hd⟩;have c4:=lC (HH.out.below hd);rw[hpg'] at c4;have HD:=bW hd;clear hd hpg';go_wp2_with fail
   (with_reducible refine c4.mono ?_)
   rintro e w' ⟨rfl,rfl⟩;go_wp2_with fail
   go_ret;exact ⟨rfl,HD.out⟩
  | false =>
   simp only[Bool.not_false] at c3;rw[if_neg (fun h=>of_decide_eq_false hpg h.2)];clear q hpg;go_enter Tryz.func67,Tryz.ntmps67;go_wp2_with fail
   (with_reducible refine c1.mono ?_)
   rintro e w' ⟨rfl,rfl⟩;go_wp2_with fail
   (with_reducible refine c2.mono ?_)
   rintro e w' ⟨rfl,rfl⟩;go_wp2_with fail
   (with_reducible refine c3.mono ?_)
   rintro e w' ⟨rfl,hd⟩;have c4:=lC (HH.out.below hd);rw[hpg'] at c4;have HD:=bW hd;clear hd hpg';go_wp2_with fail
   (with_reducible refine c4.mono ?_)
   rintro e w' ⟨rfl,rfl⟩;go_wp2_with fail
   go_ret;exact ⟨rfl,HD.out⟩
 have qb:(s.toList==[47])=false:=beq_eq_false_iff_ne.2 q;rw[if_neg (fun h=>q h.1)]
 cases pg with
 | true =>
  simp only[Bool.not_true] at c3;clear q hpg;go_enter Tryz.func67,Tryz.ntmps67;go_wp2_with fail
  (with_reducible refine c1.mono ?_)
  rintro e w' ⟨rfl,rfl⟩;go_wp2_with fail
  (with_reducible refine c2.mono ?_)
  rintro e w' ⟨rfl,rfl⟩;go_wp2_with fail
  (with_reducible refine c3.mono ?_)
  rintro e w' ⟨rfl,hd⟩;have c4:=lC (HH.out.below hd);rw[hpg'] at c4;have HD:=bW hd;clear hd hpg';go_wp2_with fail
  go_ret;exact ⟨rfl,HD.out⟩
 | false =>
  simp only[Bool.not_false] at c3;clear q hpg;go_enter Tryz.func67,Tryz.ntmps67;go_wp2_with fail
  (with_reducible refine c1.mono ?_)
  rintro e w' ⟨rfl,rfl⟩;go_wp2_with fail
  (with_reducible refine c2.mono ?_)
  rintro e w' ⟨rfl,rfl⟩;go_wp2_with fail
  (with_reducible refine c3.mono ?_)
  rintro e w' ⟨rfl,hd⟩;have c4:=lC (HH.out.below hd);rw[hpg'] at c4;have HD:=bW hd;clear hd hpg';go_wp2_with fail
  go_ret;exact ⟨rfl,HD.out⟩
end
section
variable {w:World} {B b:Nat} {p:eE} {vk vu vl u:Value}
theorem xZ (H:eF w B b p vk vu vl u) (O:PathIn p):Calls Tryz.prog 85 #[.pointer (some ⟨b,0,none⟩)] w fun e w'=>e = .returned (.string (fE p 0))∧Below w.heap.size w w':=by
 have c:=gP H O 0;clear H O;go_enter Tryz.func85,Tryz.ntmps85;go_wp2_with fail
 (with_reducible refine c.mono ?_)
 rintro e w' ⟨rfl,hd⟩;have HD:=bW hd;clear hd;go_wp2_with fail
 go_ret;exact ⟨rfl,HD.out⟩
theorem aFz (H:eF w B b p vk vu vl u) (O:hU p):Calls Tryz.prog 85 #[.pointer (some ⟨b,0,none⟩)] w fun e w'=>e = .returned (.string (fE p 0))∧Below w.heap.size w w':=xZ H O.toPathIn
theorem uG (H:eF w B b p vk vu vl u) (O:hU p):Calls Tryz.prog 86 #[.pointer (some ⟨b,0,none⟩)] w fun e w'=>e = .returned (.string (if p.pfmt = -1 then fE p p.fmt else fE p p.pfmt))∧Below w.heap.size w w':=by
 have h1:=H.row.at 17 _ rfl;have h2:=H.row.at 9 _ rfl
 by_cases t:p.pfmt = -1
 ·rw[if_pos t];rw[t] at h1;have c:=gP H O.toPathIn p.fmt;clear t H O;go_enter Tryz.func86,Tryz.ntmps86;go_wp2_with fail
  (with_reducible refine c.mono ?_)
  rintro e w' ⟨rfl,hd⟩;have HD:=bW hd;clear hd;go_wp2_with fail
  go_ret;exact ⟨rfl,HD.out⟩
 rw[if_neg t];have hne:(p.pfmt == -1)=false:=beq_eq_false_iff_ne.2 t;have hne2:(p.pfmt != -1)=true:=bne_iff_ne.2 t;have c:=gP H O.toPathIn p.pfmt;clear t H O;go_enter Tryz.func86,Tryz.ntmps86;go_wp2_with fail
 (with_reducible refine c.mono ?_)
 rintro e w' ⟨rfl,hd⟩;have HD:=bW hd;clear hd;go_wp2_with fail
 go_ret;exact ⟨rfl,HD.out⟩
theorem aEr (H:eF w B b p vk vu vl u) (O:hU p):Calls Tryz.prog 87 #[.pointer (some ⟨b,0,none⟩)] w fun e w'=>e = .returned (.string (if p.pkind = -1 then fE p p.kind else fE p p.pkind))∧Below w.heap.size w w':=by
 have h1:=H.row.at 18 _ rfl;have h2:=H.row.at 10 _ rfl
 by_cases t:p.pkind = -1
 ·rw[if_pos t];rw[t] at h1;have c:=gP H O.toPathIn p.kind;clear t H O;go_enter Tryz.func87,Tryz.ntmps87;go_wp2_with fail
  (with_reducible refine c.mono ?_)
  rintro e w' ⟨rfl,hd⟩;have HD:=bW hd;clear hd;go_wp2_with fail
  go_ret;exact ⟨rfl,HD.out⟩
 rw[if_neg t];have hne:(p.pkind == -1)=false:=beq_eq_false_iff_ne.2 t;have hne2:(p.pkind != -1)=true:=bne_iff_ne.2 t;have c:=gP H O.toPathIn p.pkind;clear t H O;go_enter Tryz.func87,Tryz.ntmps87;go_wp2_with fail
 (with_reducible refine c.mono ?_)
 rintro e w' ⟨rfl,hd⟩;have HD:=bW hd;clear hd;go_wp2_with fail
 go_ret;exact ⟨rfl,HD.out⟩
theorem aBq (H:eF w B b p vk vu vl u) (O:hU p):Calls Tryz.prog 88 #[.pointer (some ⟨b,0,none⟩)] w fun e w'=>e = .returned (.string (if p.play = -1 then fE p p.lay else fE p p.play))∧Below w.heap.size w w':=by
 have h1:=H.row.at 19 _ rfl;have h2:=H.row.at 11 _ rfl
 by_cases t:p.play = -1
 ·rw[if_pos t];rw[t] at h1;have c:=gP H O.toPathIn p.lay;clear t H O;go_enter Tryz.func88,Tryz.ntmps88;go_wp2_with fail
  (with_reducible refine c.mono ?_)
  rintro e w' ⟨rfl,hd⟩;have HD:=bW hd;clear hd;go_wp2_with fail
  go_ret;exact ⟨rfl,HD.out⟩
 rw[if_neg t];have hne:(p.play == -1)=false:=beq_eq_false_iff_ne.2 t;have hne2:(p.play != -1)=true:=bne_iff_ne.2 t;have c:=gP H O.toPathIn p.play;clear t H O;go_enter Tryz.func88,Tryz.ntmps88;go_wp2_with fail
 (with_reducible refine c.mono ?_)
 rintro e w' ⟨rfl,hd⟩;have HD:=bW hd;clear hd;go_wp2_with fail
 go_ret;exact ⟨rfl,HD.out⟩
def vU (p:eE):ByteArray:=match p.plangs with | []=>fE p p.lang | i::_=>fE p i
theorem aEt (H:eF w B b p vk vu vl u) (O:hU p):Calls Tryz.prog 89 #[.pointer (some ⟨b,0,none⟩)] w fun e w'=>e = .returned (.string (vU p))∧Below w.heap.size w w':=by
 have h8:=H.row.at 8 _ rfl;have h14:=H.row.at 14 _ rfl;unfold vU
 cases hl:p.plangs with
 | nil =>
  obtain ⟨A,c0,hv⟩:=fL H.ol;rw[hv,hl] at h14;have h14' : w.cell? ⟨b,14,none⟩=some (.slice A 0 c0):=h14;have c:=gP H O.toPathIn p.lang;clear hl hv h14 H O;go_enter Tryz.func89,Tryz.ntmps89;go_wp2_with fail
  (with_reducible refine c.mono ?_)
  rintro e w' ⟨rfl,hd⟩;have HD:=bW hd;clear hd;go_wp2_with fail
  go_ret;exact ⟨rfl,HD.out⟩
 | cons i r =>
  obtain ⟨g,c0,hv,k1⟩:=H.langAt 0 i (by rw[hl];rfl);rw[hv] at h14;have hlen:(0:Int) < p.plangs.length:=by rw[hl];simp
  have hlen2:decide ((0:Int) < (p.plangs.length:Int))=true:=decide_eq_true hlen;have hlen3:decide (0 < p.plangs.length)=true:=decide_eq_true bA;have c:=gP H O.toPathIn i;clear hl hv H O;go_enter Tryz.func89,Tryz.ntmps89;go_wp2_with fail
  (with_reducible refine c.mono ?_)
  rintro e w' ⟨rfl,hd⟩;have HD:=bW hd;clear hd;go_wp2_with fail
  go_ret;exact ⟨rfl,HD.out⟩
def pR (p:eE):ByteArray:=⟨(Lib.trimSuffix (Lib.trimPrefix (L (fE p p.cust)) [95]) [95]).toArray⟩
theorem aBp (H:eF w B b p vk vu vl u) (O:hU p):Calls Tryz.prog 90 #[.pointer (some ⟨b,0,none⟩)] w fun e w'=>e = .returned (.string (pR p))∧Below w.heap.size w w':=by
 have h13:=H.row.at 13 _ rfl;have c:=gP H O.toPathIn p.cust
 have hsz:(fE p p.cust).size≤p.s.size:=by
  unfold fE;split
  ·exact Nat.zero_le _
  split
  ·exact iH _ _ _
  exact Nat.zero_le _
 have o1:=O.sz
 obtain ⟨s,hs⟩:∃ s,fE p p.cust=s:=⟨_,rfl⟩
 have hm:pR p=⟨(Lib.trimSuffix (Lib.trimPrefix (L s) [95]) [95]).toArray⟩:=by unfold pR;rw[hs]
 have HM:=bW hm;rw[hs] at c hsz;clear hs hm H O;go_enter Tryz.func90,Tryz.ntmps90;go_wp2_with fail
 (with_reducible refine c.mono ?_)
 rintro e w' ⟨rfl,hd⟩;have HD:=bW hd;clear hd;go_wp2_with fail
 (with_reducible refine (Tryz.strings_TrimPrefix _ _ _).mono ?_)
 rintro e w2 ⟨rfl,rfl⟩;go_wp2_with fail
 (with_reducible refine (Tryz.strings_TrimSuffix _ _ _ ?hz).mono ?_)
 case hz =>
  have:=Lib.trimPrefix_le s.data.toList [95];have h2:=eD s;unfold L at h2;show (Lib.trimPrefix s.data.toList [95]).toArray.size≤_
  simp
  omega
 rintro e w3 ⟨rfl,rfl⟩;go_wp2_with fail
 go_ret;exact ⟨by rw[HM.out];rfl,HD.out⟩
theorem sD (H:eF w B b p vk vu vl u) (O:hU p):Calls Tryz.prog 82 #[.pointer (some ⟨b,0,none⟩)] w fun e w'=>e = .returned (.string (iS p false false))∧Below w.heap.size w w':=by
 have c:=sZ H O false false;clear H O;go_enter Tryz.func82,Tryz.ntmps82;go_wp2_with fail
 (with_reducible refine c.mono ?_)
 rintro e w' ⟨rfl,hd⟩;have HD:=bW hd;clear hd;go_wp2_with fail
 go_ret;exact ⟨rfl,HD.out⟩
def qZ (p:eE):ByteArray:=if p.plangs≠[]∨mK p p.lang≠-1 then iS p true false else nrm p.trim p.s
theorem xE (H:eF w B b p vk vu vl u) (O:hU p):Calls Tryz.prog 81 #[.pointer (some ⟨b,0,none⟩)] w fun e w'=>e = .returned (.string (qZ p))∧Below w.heap.size w w':=by
 have h8:=H.row.at 8 _ rfl;have h14:=H.row.at 14 _ rfl;have cb:=sZ H O true false;have ci:=lW H p.lang;have cp:=qP H;unfold qZ;obtain ⟨A,c0,hv⟩:=fL H.ol;rw[hv] at h14
 by_cases t:p.plangs=[]
 ·rw[t] at h14;have h14' : w.cell? ⟨b,14,none⟩=some (.slice A 0 c0):=h14
  by_cases t2:mK p p.lang = -1
  ·rw[if_neg (by intro h;rcases h with h | h;exact h t;exact h t2)];rw[t2] at ci;clear t t2 hv h14 H O;go_enter Tryz.func81,Tryz.ntmps81;go_wp2_with fail
   (with_reducible refine ci.mono ?_)
   rintro e w' ⟨rfl,rfl⟩;go_wp2_with fail
   (with_reducible refine cp.mono ?_)
   rintro e w' ⟨rfl,rfl⟩;go_wp2_with fail
   go_ret;exact ⟨rfl,Below.refl _ _⟩
  rw[if_pos (.inr t2)];have hne:(mK p p.lang == -1)=false:=beq_eq_false_iff_ne.2 t2;clear t t2 hv h14 H O;go_enter Tryz.func81,Tryz.ntmps81;go_wp2_with fail
  (with_reducible refine ci.mono ?_)
  rintro e w' ⟨rfl,rfl⟩;go_wp2_with fail
  (with_reducible refine cb.mono ?_)
  rintro e w' ⟨rfl,hd⟩;have HD:=bW hd;clear hd;go_wp2_with fail
  go_ret;exact ⟨rfl,HD.out⟩
 rw[if_pos (.inl t)];have hlen:(0:Int) < p.plangs.length:=by have:=List.length_pos_iff.2 t;omega
 have hlen2:decide ((0:Int) < (p.plangs.length:Int))=true:=decide_eq_true hlen;have hlen3:decide (0 < p.plangs.length)=true:=decide_eq_true bA;clear t hv H O;go_enter Tryz.func81,Tryz.ntmps81;go_wp2_with fail
 (with_reducible refine cb.mono ?_)
 rintro e w' ⟨rfl,hd⟩;have HD:=bW hd;clear hd;go_wp2_with fail
 go_ret;exact ⟨rfl,HD.out⟩
def qY (p:eE):ByteArray:=if p.comp.toList=[108,97,121,111,117,116,115] then nrm p.trim p.s else iV p
theorem sV (H:eF w B b p vk vu vl u) (O:hU p):Calls Tryz.prog 84 #[.pointer (some ⟨b,0,none⟩)] w fun e w'=>e = .returned (.string (qY p))∧Below w.heap.size w w':=by
 have cc:=rR H;have cp:=qP H;have cb:=qO H O;unfold qY;clear H O
 by_cases t:p.comp.toList=[108,97,121,111,117,116,115]
 ·have tb:(p.comp.toList==[108,97,121,111,117,116,115])=true:=beq_iff_eq.2 t;rw[if_pos t];clear t;go_enter Tryz.func84,Tryz.ntmps84;go_wp2_with fail
  (with_reducible refine cc.mono ?_)
  rintro e w' ⟨rfl,rfl⟩;go_wp2_with fail
  (with_reducible refine cp.mono ?_)
  rintro e w' ⟨rfl,rfl⟩;go_wp2_with fail
  go_ret;exact ⟨rfl,Below.refl _ _⟩
 have tb:(p.comp.toList==[108,97,121,111,117,116,115])=false:=beq_eq_false_iff_ne.2 t;rw[if_neg t];clear t;go_enter Tryz.func84,Tryz.ntmps84;go_wp2_with fail
 (with_reducible refine cc.mono ?_)
 rintro e w' ⟨rfl,rfl⟩;go_wp2_with fail
 (with_reducible refine cb.mono ?_)
 rintro e w' ⟨rfl,hd⟩;have HD:=bW hd;clear hd;go_wp2_with fail
 go_ret;exact ⟨rfl,HD.out⟩
end
def jS (comp:ByteArray):Bool:=comp.toList==[99,111,110,116,101,110,116]
def pS (p:eE) (comp:ByteArray) (nd:Int):Bool:=(decide (1 < nd) && p.lang == -1) && (jS comp || eO comp)
def pB (p:eE) (comp:ByteArray):Bool:=p.kind == -1 && eO comp
def kZ (p:eE) (comp:ByteArray) (last:Bool):Bool:=if p.typ==7 then !last && eO comp else eO comp
def idHigh (p:eE) (ld:Nat):Nat:=if p.known=[] then p.s.size else ld
def eE.add (p:eE) (x:Int×Int):eE:={ p with known:=p.known++[x] }
def oI (p:eE) (x:Int×Int):eE:={ p with known:=p.known++[x],cust:=p.known.length }
def mZ (E:Env) (lay:Bool) (p:eE) (lo hi:Nat) (sid:ByteArray):eE :=
 let pre:=iF (sid.extract 1 (sid.size - 1))
 if pre.toList=[] then oI p ((lo:Int),(hi:Int))
 else match iZ E lay p pre (((lo+1+pre.size:Nat):Int),((hi - 1:Nat):Int)) (jM (p.s.extract (lo+1+pre.size) (hi - 1))) with
  | some p'=>p'
  | none=>oI p ((lo:Int),(hi:Int))
def rJ (E:Env) (lay:Bool) (p:eE) (x:Int×Int) (sid:ByteArray):eE :=
 { p with known:=p.known++[x],fmt:=if lay && E.fmt sid ⟨#[]⟩ then 0 else p.fmt }
def jF (E:Env) (p:eE) (comp:ByteArray) (nd:Int) (last:Bool) (x:Int×Int) (sid:ByteArray):eE×Bool :=
 if pS p comp nd && (E.lang sid || E.dis sid) then ({ p with known:=p.known++[x],lang:=p.known.length,dis:=p.dis || !E.lang sid },true)
 else if eO comp && E.fmt sid (fE p 0) then ({ p with known:=p.known++[x],fmt:=p.known.length },true)
 else if pB p comp && isKind sid then ({ p with known:=p.known++[x],kind:=p.known.length },true)
 else if sid.toList==[98,97,115,101,111,102] then ({ p with known:=p.known++[x],base:=p.known.length },true)
 else if kZ p comp last then
  if p.lay != -1 then ({ p with known:=p.known.set p.lay.toNat x,unknown:=p.unknown++[p.known.getD p.lay.toNat (0,0)] },true)
  else ({ p with known:=p.known++[x],lay:=p.known.length },true)
 else ({ p with unknown:=p.unknown++[x] },false)
def jA (E:Env) (p:eE) (comp:ByteArray) (lo ld:Nat) (nd:Int) (last:Bool):eE×Bool :=
 let hi:=idHigh p ld
 let sid:=p.s.extract lo hi
 if mJ sid then (mZ E (eO comp) p lo hi sid,true)
 else if p.known=[] then (rJ E (eO comp) p ((lo:Int),(hi:Int)) sid,true)
 else jF E p comp nd last ((lo:Int),(hi:Int)) sid
def mL (r:eE×Bool) (i ld:Nat) (last:Bool):eE :=
 if r.2 then (if last then (if r.1.nEnd≤0 then { r.1 with nEnd:=ld } else r.1) else { r.1 with nEnd:=i }) else r.1
def mId (E:Env) (p:eE) (comp:ByteArray) (i ld:Nat) (nd:Int) (last:Bool):eE :=
 if p.cHigh != -1 then p else mL (jA E p comp (i+1) ld nd last) i ld last
end Go.Proofs.YtlkoeeccebmjmaaGreatDoor.Path
