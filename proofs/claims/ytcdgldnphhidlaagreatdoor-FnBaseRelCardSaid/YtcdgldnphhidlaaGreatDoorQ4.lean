/- Texts that the law leans on: Apply2, Apply3, Apply, Acc3, Acc4, Id0, Id00, Goes, Set. Condition: as told at each. -/
import Derived.StillTailTactics
import Derived.Deep.OwnRows
import Derived.Laws.OwnMore
import Derived.Test.YtcdgldnphhidlaaGreatDoorQa
import Derived.Test.YtcdgldnphhidlaaGreatDoorQ3
set_option linter.unusedVariables false
set_option linter.unusedSimpArgs false
set_option maxRecDepth 100000
set_option maxHeartbeats 16000000
namespace Go.Proofs.YtcdgldnphhidlaaGreatDoor.Path
open Go.RowKit Go.WideMaps Go.ZW.PrintWords Go.ZW.PrintLast Go.Proofs.YtcdgldnphhidlaaGreatDoor.Base
section
variable {w0 w:World} {b:Nat} {p:eH} {vk vu vl u:Value} {pb mb sb fb:Nat} {st:eW} {sl sd sf sc:Value}
theorem aHj (S:jC w0 pb st sl sd sf sc mb sb fb) (OS:jF st) (hB:Below w0.heap.size w0 w) (H:eK w w0.heap.size b p vk vu vl u) (osz:p.s.size≤1000000) (okl:p.known.length≤1000000) (oll:p.plangs.length≤1000000) (comp:ByteArray) (lo hi:Nat) (q1:lo≤hi) (q2:hi≤p.s.size) (hasc:asc (p.s.extract lo hi)) (hc:(comp.toList==[108,97,121,111,117,116,115])=true) (hd:mH st.fmts (kD (p.s.extract lo hi)) ⟨#[]⟩=true) :
 Calls Tryz.prog 180 #[.pointer (some ⟨pb,0,none⟩),.string comp,.string ⟨#[111,117,116,112,117,116,102,111,114,109,97,116,95]⟩,.pointer (some ⟨b,0,none⟩),.agg #[.int .i64 lo,.int .i64 hi]] w fun e w' =>
  e = .returned (.bool true)∧∃ vk' vl',eK w' w0.heap.size b { p with known:=p.known++[((lo:Int),(hi:Int))],pfmt:=p.known.length } vk' vu vl' u∧fB w w' b vk vu vl vk' vu vl':=by
 have HP:=cB H;have hb:=H.lt;have HS:=cB S;have HB0:=cB hB;have hsz:(p.s.extract lo hi).size≤1000000:=Nat.le_trans (iX _ _ _) osz;have cl:=fun W=>Tryz.strings_ToLower_ascii (p.s.extract lo hi) W bA hasc
 obtain ⟨x,hx⟩:∃ x,kD (p.s.extract lo hi)=x:=⟨_,rfl⟩
 rw[show (⟨(Lib.toLowerA (p.s.extract lo hi).data.toList).toArray⟩:ByteArray)=x from hx] at cl;have hxz:x.size≤1000000:=by rw[← hx,lM];exact hsz
 have HX:=cB hx;have h0:=H.row.at 0 _ rfl;have mne:=nN mb;clear H S hB hasc hx;go_enter Tryz.func180,Tryz.ntmps180;go_upto_region 1 with fail
 have hal:Below w.heap.size w (w.alloc (.cells #[.int .i64 lo,.int .i64 hi] 92)):=(Below.refl _ _).alloc (Nat.le_refl _) _;have hR:=Row.new w [.int .i64 lo,.int .i64 hi] 92;have hs1:w.heap.size < (w.alloc (.cells #[.int .i64 lo,.int .i64 hi] 92)).heap.size:=by simp
 obtain ⟨V0,hV0⟩:∃ V0,w.alloc (.cells #[.int .i64 lo,.int .i64 hi] 92)=V0:=⟨_,rfl⟩
 replace hR:Row V0 w.heap.size [.int .i64 lo,.int .i64 hi]:=hV0▸hR;rw[hV0] at hal hs1 ⊢;clear hV0;refine wp_region_still_tail 9 bB bB ?_;change wpStill _ _ V0.drew (fun a'=>wpList _ _ _ _ a' V0.drew) _ _;replace hal:=hal.drew;replace hR:Row V0.drew w.heap.size [.int .i64 lo,.int .i64 hi]:=hR.step rfl;replace hs1:w.heap.size < V0.drew.heap.size:=hs1
 obtain ⟨V,hV⟩:∃ V,V0.drew=V:=⟨_,rfl⟩
 rw[hV] at hal hR hs1 ⊢;clear hV;have d0:V.cell? ⟨b,0,none⟩=some (.string p.s):=(hal.cell (p:=⟨b,0,none⟩) hb).trans h0;have d1:=hR.at 0 _ rfl;have d2:=hR.at 1 _ rfl;simp only[List.take_succ_cons,List.take_zero,List.drop_succ_cons,List.drop_zero]
 repeat still_step
 refine wpStill_nil ?_;have HB1:=cB hal;have HR1:=cB hR;clear hal hR d0 d1 d2 h0;go_wp2_with fail
 refine (cl V).mono ?_;rintro e w2 ⟨rfl,hb2⟩;have HB2:=cB (eD HB1.out hb2);have HR2:=cB (HR1.out.below hb2 hs1);have hs2:=Nat.lt_of_lt_of_le hs1 hb2.size;have HP2:=cB (HP.out.below HB2.out);have HS2:=cB (HS.out.below (HB0.out.trans (HB2.out.mono HB0.out.size)));have d1:=HR2.out.at 0 _ rfl;have d2:=HR2.out.at 1 _ rfl;have hI:=cB (HP.out.new_ne (Nat.le_refl _));clear hb2 cl;have s2:=HS2.out.row.at 2 _ rfl;have fne:=aBm (.func 76) #[] #[.pointer (some ⟨sb,0,none⟩)];have cd:=pC HS2.out.site OS x ⟨#[]⟩;rw[HX.out] at hd;rw[hd] at cd;clear hd;go_wp2_with fail
 refine cd.mono ?_;rintro e w3 ⟨rfl,hb3⟩;clear cd;have HP3:=cB (HP2.out.below hb3);have HB3:=cB (eD HB2.out hb3);replace d1:=(hb3.cell (p:=⟨w.heap.size,0,none⟩) hs2).trans d1;replace d2:=(hb3.cell (p:=⟨w.heap.size,1,none⟩) hs2).trans d2;clear hb3;go_upto_region 18 with fail
 have qa_0:=HP3.out.row.at 6 _ rfl;have qa_f:=HP3.out.row.free 6 bG;have qa_b:=HP3.out.lt;have qa_B:w0.heap.size≤w3.heap.size:=Nat.le_trans HP3.out.base (Nat.le_of_lt qa_b);have qa_n:=cB HP3.out.nk;have qa_o:=cB HP3.out.ok;refine iJ (n:=11) (S:=fun w'=>w'.cell? ⟨b,6,none⟩=some vk∧w'.cell? ⟨w.heap.size,0,none⟩=some (.int .i64 lo)∧w'.cell? ⟨w.heap.size,1,none⟩=some (.int .i64 hi)) (ds:=[10]) _ bB rfl rfl ⟨qa_0,d1,d2⟩ (fun hHeld=>?_);refine sA1 0 (some 125) sB1 ?_
 refine sA1 1 (some 126) sB1 ?_
 refine sA1 2 (some 127) sB1 ?_
 refine sA1 3 (some 128) sB1 ?_
 refine sC1 4 (some 129) sD1 ?_
 refine sC1 5 (some 130) sD1 ?_
 refine sF1 6 (some 131) sG1 (fun K hK=>?_);refine lQ (w1:=?_) (v:=?_) bH rfl ?_ ?_;rotate_left 2
 ·go_simp;constructor
  ·rfl
  rfl
 have aa_h:Below w3.heap.size w3 (w3.drew.alloc (.cells ([.int .i64 lo,.int .i64 hi]:List Value).toArray 92)):=(Below.refl _ _).drew.alloc (Nat.le_refl _) _;refine hK.out _ _ ⟨((aa_h.cell (p:=⟨b,6,none⟩) (World.block_lt_of_cell? w3 ⟨b,6,none⟩ qa_0)).trans qa_0),((aa_h.cell (p:=⟨w.heap.size,0,none⟩) (World.block_lt_of_cell? w3 ⟨w.heap.size,0,none⟩ d1)).trans d1),((aa_h.cell (p:=⟨w.heap.size,1,none⟩) (World.block_lt_of_cell? w3 ⟨w.heap.size,1,none⟩ d2)).trans d2)⟩ (fun hHeld=>?_);clear hK K;refine gM sJ1 ?_
 refine sF1 7 (some 132) sG1 (fun K hK=>?_);refine gN (w0:=w3) (W:=w3.drew) w0.heap.size bH (.tmp 129) (.tmp 131) 90 92 _ 2 16 bH Tryz.underlying90 mV rfl bF bF vk p.known.length (pairs p.known) [.int .i64 lo,.int .i64 hi] bH bH bH bL qa_o.out ((Below.refl _ _).drew) qa_B bA ?_;intro va war oa bba ga ta;obtain ⟨Aa,ca,eva⟩:=fL oa;subst eva;have xa_0:=ga.cell (w:=w3.drew) (a:=⟨b,6,none⟩) qa_0 qa_n.out;have xa_f:=(World.frozen?_of_block (w:=w3.drew) (a:=⟨b,6,none⟩) (ga.block b qa_b qa_n.out)).trans qa_f;have xa_1:=ga.cell (w:=w3.drew) (a:=⟨w.heap.size,0,none⟩) d1 hI.out.2.1
 have xa_2:=ga.cell (w:=w3.drew) (a:=⟨w.heap.size,1,none⟩) d2 hI.out.2.1
 have gga:w3.grownBy war vk.ownBlock:=⟨ga.os,ga.tape,ga.output,ga.size,ga.block⟩
 obtain ⟨hpa,hma⟩:=kV HP3.out (lo,hi) (w':=war) oa gga ta;have HPa:=cB hpa;have HMa:=cB hma;clear hpa hma oa bba ga gga ta;refine hK.out _ _ ⟨xa_0,xa_1,xa_2⟩ (fun hHeld=>?_);clear hK K;refine gM sJ1 ?_
 refine sA1 8 (some 133) sB1 ?_
 refine sA1 9 (some 134) sB1 ?_
 refine sH1 10 none sI1 (fun K hK=>?_);refine iZ (w1:=?_) bH rfl ?_ ?_;rotate_left
 ·go_simp;rfl
 refine hK.out _ _ ?_;clear hK K;refine iV bB ?_;clear d1 d2 xa_0 xa_f xa_1 xa_2 qa_0 qa_f qa_b qa_B qa_n qa_o aa_h
 obtain ⟨Wa,hWa⟩:∃ W,war.setCell ⟨b,6,none⟩ (.slice Aa (p.known.length+1) ca)=W:=⟨_,rfl⟩
 replace HPa:Aside0 (eK Wa w0.heap.size b { p with known:=p.known++[((lo:Int),(hi:Int))] } (.slice Aa (p.known.length+1) ca) vu vl u):=hWa▸HPa;replace HMa:Aside0 (fB w3 Wa b vk vu vl (.slice Aa (p.known.length+1) ca) vu vl):=hWa▸HMa;rw[hWa];clear hWa;have z4:IntKind.i64.wrap (p.known.length:Int)=(p.known.length:Int):=by rw[IntWalk.i64_in _ bA]
 have k6:=HPa.out.row.at 6 _ rfl;have k7:=HPa.out.row.at 17 _ rfl;have k8:=HPa.out.row.free 17 bG;go_wp2_with fail
 obtain ⟨hpc,hmc⟩:=gA HPa.out 17 (.int .i64 p.known.length) { p with known:=p.known++[((lo:Int),(hi:Int))],pfmt:=p.known.length } u rfl rfl rfl rfl bA;go_ret;exact ⟨rfl,_,_,hpc,((fB.of_below HB3.out).trans HMa.out).trans hmc⟩
theorem aCw (S:jC w0 pb st sl sd sf sc mb sb fb) (OS:jF st) (hB:Below w0.heap.size w0 w) (H:eK w w0.heap.size b p vk vu vl u) (osz:p.s.size≤1000000) (okl:p.known.length≤1000000) (oll:p.plangs.length≤1000000) (comp:ByteArray) (lo hi:Nat) (q1:lo≤hi) (q2:hi≤p.s.size) (hasc:asc (p.s.extract lo hi)) (hc:(comp.toList==[108,97,121,111,117,116,115])=true) (hd:mH st.fmts (kD (p.s.extract lo hi)) ⟨#[]⟩=false) :
 Calls Tryz.prog 180 #[.pointer (some ⟨pb,0,none⟩),.string comp,.string ⟨#[111,117,116,112,117,116,102,111,114,109,97,116,95]⟩,.pointer (some ⟨b,0,none⟩),.agg #[.int .i64 lo,.int .i64 hi]] w fun e w' =>
  e = .returned (.bool false)∧Below w.heap.size w w':=by
 have HP:=cB H;have hb:=H.lt;have HS:=cB S;have HB0:=cB hB;have hsz:(p.s.extract lo hi).size≤1000000:=Nat.le_trans (iX _ _ _) osz;have cl:=fun W=>Tryz.strings_ToLower_ascii (p.s.extract lo hi) W bA hasc
 obtain ⟨x,hx⟩:∃ x,kD (p.s.extract lo hi)=x:=⟨_,rfl⟩
 rw[show (⟨(Lib.toLowerA (p.s.extract lo hi).data.toList).toArray⟩:ByteArray)=x from hx] at cl;have hxz:x.size≤1000000:=by rw[← hx,lM];exact hsz
 have HX:=cB hx;have h0:=H.row.at 0 _ rfl;have mne:=nN mb;clear H S hB hasc hx;go_enter Tryz.func180,Tryz.ntmps180;go_upto_region 1 with fail
 have hal:Below w.heap.size w (w.alloc (.cells #[.int .i64 lo,.int .i64 hi] 92)):=(Below.refl _ _).alloc (Nat.le_refl _) _;have hR:=Row.new w [.int .i64 lo,.int .i64 hi] 92;have hs1:w.heap.size < (w.alloc (.cells #[.int .i64 lo,.int .i64 hi] 92)).heap.size:=by simp
 obtain ⟨V0,hV0⟩:∃ V0,w.alloc (.cells #[.int .i64 lo,.int .i64 hi] 92)=V0:=⟨_,rfl⟩
 replace hR:Row V0 w.heap.size [.int .i64 lo,.int .i64 hi]:=hV0▸hR;rw[hV0] at hal hs1 ⊢;clear hV0;refine wp_region_still_tail 9 bB bB ?_;change wpStill _ _ V0.drew (fun a'=>wpList _ _ _ _ a' V0.drew) _ _;replace hal:=hal.drew;replace hR:Row V0.drew w.heap.size [.int .i64 lo,.int .i64 hi]:=hR.step rfl;replace hs1:w.heap.size < V0.drew.heap.size:=hs1
 obtain ⟨V,hV⟩:∃ V,V0.drew=V:=⟨_,rfl⟩
 rw[hV] at hal hR hs1 ⊢;clear hV;have d0:V.cell? ⟨b,0,none⟩=some (.string p.s):=(hal.cell (p:=⟨b,0,none⟩) hb).trans h0;have d1:=hR.at 0 _ rfl;have d2:=hR.at 1 _ rfl;simp only[List.take_succ_cons,List.take_zero,List.drop_succ_cons,List.drop_zero]
 repeat still_step
 refine wpStill_nil ?_;have HB1:=cB hal;have HR1:=cB hR;clear hal hR d0 d1 d2 h0;go_wp2_with fail
 refine (cl V).mono ?_;rintro e w2 ⟨rfl,hb2⟩;have HB2:=cB (eD HB1.out hb2);have HR2:=cB (HR1.out.below hb2 hs1);have hs2:=Nat.lt_of_lt_of_le hs1 hb2.size;have HP2:=cB (HP.out.below HB2.out);have HS2:=cB (HS.out.below (HB0.out.trans (HB2.out.mono HB0.out.size)));have d1:=HR2.out.at 0 _ rfl;have d2:=HR2.out.at 1 _ rfl;have hI:=cB (HP.out.new_ne (Nat.le_refl _));clear hb2 cl;have s2:=HS2.out.row.at 2 _ rfl;have fne:=aBm (.func 76) #[] #[.pointer (some ⟨sb,0,none⟩)];have cd:=pC HS2.out.site OS x ⟨#[]⟩;rw[HX.out] at hd;rw[hd] at cd;clear hd;go_wp2_with fail
 refine cd.mono ?_;rintro e w3 ⟨rfl,hb3⟩;clear cd;have HB3:=cB (eD HB2.out hb3);clear hb3;go_wp2_with fail
 go_ret;exact ⟨rfl,HB3.out⟩
theorem aA0 (S:jC w0 pb st sl sd sf sc mb sb fb) (OS:jF st) (hB:Below w0.heap.size w0 w) (H:eK w w0.heap.size b p vk vu vl u) (osz:p.s.size≤1000000) (okl:p.known.length≤1000000) (oll:p.plangs.length≤1000000) (comp:ByteArray) (lo hi:Nat) (q1:lo≤hi) (q2:hi≤p.s.size) (hasc:asc (p.s.extract lo hi)) (hc:(comp.toList==[108,97,121,111,117,116,115])=false) :
 Calls Tryz.prog 180 #[.pointer (some ⟨pb,0,none⟩),.string comp,.string ⟨#[111,117,116,112,117,116,102,111,114,109,97,116,95]⟩,.pointer (some ⟨b,0,none⟩),.agg #[.int .i64 lo,.int .i64 hi]] w fun e w' =>
  e = .returned (.bool false)∧Below w.heap.size w w':=by
 have HP:=cB H;have hb:=H.lt;have HS:=cB S;have HB0:=cB hB;have hsz:(p.s.extract lo hi).size≤1000000:=Nat.le_trans (iX _ _ _) osz;have cl:=fun W=>Tryz.strings_ToLower_ascii (p.s.extract lo hi) W bA hasc
 obtain ⟨x,hx⟩:∃ x,kD (p.s.extract lo hi)=x:=⟨_,rfl⟩
 rw[show (⟨(Lib.toLowerA (p.s.extract lo hi).data.toList).toArray⟩:ByteArray)=x from hx] at cl;have hxz:x.size≤1000000:=by rw[← hx,lM];exact hsz
 have HX:=cB hx;have h0:=H.row.at 0 _ rfl;have mne:=nN mb;clear H S hB hasc hx;go_enter Tryz.func180,Tryz.ntmps180;go_upto_region 1 with fail
 have hal:Below w.heap.size w (w.alloc (.cells #[.int .i64 lo,.int .i64 hi] 92)):=(Below.refl _ _).alloc (Nat.le_refl _) _;have hR:=Row.new w [.int .i64 lo,.int .i64 hi] 92;have hs1:w.heap.size < (w.alloc (.cells #[.int .i64 lo,.int .i64 hi] 92)).heap.size:=by simp
 obtain ⟨V0,hV0⟩:∃ V0,w.alloc (.cells #[.int .i64 lo,.int .i64 hi] 92)=V0:=⟨_,rfl⟩
 replace hR:Row V0 w.heap.size [.int .i64 lo,.int .i64 hi]:=hV0▸hR;rw[hV0] at hal hs1 ⊢;clear hV0;refine wp_region_still_tail 9 bB bB ?_;change wpStill _ _ V0.drew (fun a'=>wpList _ _ _ _ a' V0.drew) _ _;replace hal:=hal.drew;replace hR:Row V0.drew w.heap.size [.int .i64 lo,.int .i64 hi]:=hR.step rfl;replace hs1:w.heap.size < V0.drew.heap.size:=hs1
 obtain ⟨V,hV⟩:∃ V,V0.drew=V:=⟨_,rfl⟩
 rw[hV] at hal hR hs1 ⊢;clear hV;have d0:V.cell? ⟨b,0,none⟩=some (.string p.s):=(hal.cell (p:=⟨b,0,none⟩) hb).trans h0;have d1:=hR.at 0 _ rfl;have d2:=hR.at 1 _ rfl;simp only[List.take_succ_cons,List.take_zero,List.drop_succ_cons,List.drop_zero]
 repeat still_step
 refine wpStill_nil ?_;have HB1:=cB hal;have HR1:=cB hR;clear hal hR d0 d1 d2 h0;go_wp2_with fail
 refine (cl V).mono ?_;rintro e w2 ⟨rfl,hb2⟩;have HB2:=cB (eD HB1.out hb2);have HR2:=cB (HR1.out.below hb2 hs1);have hs2:=Nat.lt_of_lt_of_le hs1 hb2.size;have HP2:=cB (HP.out.below HB2.out);have HS2:=cB (HS.out.below (HB0.out.trans (HB2.out.mono HB0.out.size)));have d1:=HR2.out.at 0 _ rfl;have d2:=HR2.out.at 1 _ rfl;have hI:=cB (HP.out.new_ne (Nat.le_refl _));clear hb2 cl;go_wp2_with fail
 go_ret;exact ⟨rfl,HB2.out⟩
theorem aGc (S:jC w0 pb st sl sd sf sc mb sb fb) (OS:jF st) (hB:Below w0.heap.size w0 w) (H:eK w w0.heap.size b p vk vu vl u) (osz:p.s.size≤1000000) (okl:p.known.length≤1000000) (oll:p.plangs.length≤1000000) (comp:ByteArray) (lo hi:Nat) (q1:lo≤hi) (q2:hi≤p.s.size) (hasc:asc (p.s.extract lo hi)) (hc:(comp.toList==[108,97,121,111,117,116,115])=true) (hd:pD (Lib.toLowerA (L (kD (p.s.extract lo hi))))=true) :
 Calls Tryz.prog 180 #[.pointer (some ⟨pb,0,none⟩),.string comp,.string ⟨#[107,105,110,100,95]⟩,.pointer (some ⟨b,0,none⟩),.agg #[.int .i64 lo,.int .i64 hi]] w fun e w' =>
  e = .returned (.bool true)∧∃ vk' vl',eK w' w0.heap.size b { p with known:=p.known++[((lo:Int),(hi:Int))],pkind:=p.known.length } vk' vu vl' u∧fB w w' b vk vu vl vk' vu vl':=by
 have HA:=cB hasc;have HP:=cB H;have hb:=H.lt;have HS:=cB S;have HB0:=cB hB;have hsz:(p.s.extract lo hi).size≤1000000:=Nat.le_trans (iX _ _ _) osz;have cl:=fun W=>Tryz.strings_ToLower_ascii (p.s.extract lo hi) W bA hasc
 obtain ⟨x,hx⟩:∃ x,kD (p.s.extract lo hi)=x:=⟨_,rfl⟩
 rw[show (⟨(Lib.toLowerA (p.s.extract lo hi).data.toList).toArray⟩:ByteArray)=x from hx] at cl;have hxz:x.size≤1000000:=by rw[← hx,lM];exact hsz
 have HX:=cB hx;have h0:=H.row.at 0 _ rfl;have mne:=nN mb;clear H S hB hasc hx;go_enter Tryz.func180,Tryz.ntmps180;go_upto_region 1 with fail
 have hal:Below w.heap.size w (w.alloc (.cells #[.int .i64 lo,.int .i64 hi] 92)):=(Below.refl _ _).alloc (Nat.le_refl _) _;have hR:=Row.new w [.int .i64 lo,.int .i64 hi] 92;have hs1:w.heap.size < (w.alloc (.cells #[.int .i64 lo,.int .i64 hi] 92)).heap.size:=by simp
 obtain ⟨V0,hV0⟩:∃ V0,w.alloc (.cells #[.int .i64 lo,.int .i64 hi] 92)=V0:=⟨_,rfl⟩
 replace hR:Row V0 w.heap.size [.int .i64 lo,.int .i64 hi]:=hV0▸hR;rw[hV0] at hal hs1 ⊢;clear hV0;refine wp_region_still_tail 9 bB bB ?_;change wpStill _ _ V0.drew (fun a'=>wpList _ _ _ _ a' V0.drew) _ _;replace hal:=hal.drew;replace hR:Row V0.drew w.heap.size [.int .i64 lo,.int .i64 hi]:=hR.step rfl;replace hs1:w.heap.size < V0.drew.heap.size:=hs1
 obtain ⟨V,hV⟩:∃ V,V0.drew=V:=⟨_,rfl⟩
 rw[hV] at hal hR hs1 ⊢;clear hV;have d0:V.cell? ⟨b,0,none⟩=some (.string p.s):=(hal.cell (p:=⟨b,0,none⟩) hb).trans h0;have d1:=hR.at 0 _ rfl;have d2:=hR.at 1 _ rfl;simp only[List.take_succ_cons,List.take_zero,List.drop_succ_cons,List.drop_zero]
 repeat still_step
 refine wpStill_nil ?_;have HB1:=cB hal;have HR1:=cB hR;clear hal hR d0 d1 d2 h0;go_wp2_with fail
 refine (cl V).mono ?_;rintro e w2 ⟨rfl,hb2⟩;have HB2:=cB (eD HB1.out hb2);have HR2:=cB (HR1.out.below hb2 hs1);have hs2:=Nat.lt_of_lt_of_le hs1 hb2.size;have HP2:=cB (HP.out.below HB2.out);have HS2:=cB (HS.out.below (HB0.out.trans (HB2.out.mono HB0.out.size)));have d1:=HR2.out.at 0 _ rfl;have d2:=HR2.out.at 1 _ rfl;have hI:=cB (HP.out.new_ne (Nat.le_refl _));clear hb2 cl;have hax:∀ (j:Nat) (b:UInt8),x.data.toList[j]? = some b→b.toNat < 128:=by rw[← HX.out];exact aDr _ HA.out
 have cd:=pK x w2 hxz hax;rw[HX.out] at hd;go_wp2_with fail
 refine cd.mono ?_;rintro e w3 ⟨r,rfl,hr,hb3⟩;rw[hd] at hr;have hr2:(r.toList==[])=false:=hr;clear cd hd hr;have HP3:=cB (HP2.out.below hb3);have HB3:=cB (eD HB2.out hb3);replace d1:=(hb3.cell (p:=⟨w.heap.size,0,none⟩) hs2).trans d1;replace d2:=(hb3.cell (p:=⟨w.heap.size,1,none⟩) hs2).trans d2;clear hb3;go_upto_region 24 with fail
 have qa_0:=HP3.out.row.at 6 _ rfl;have qa_f:=HP3.out.row.free 6 bG;have qa_b:=HP3.out.lt;have qa_B:w0.heap.size≤w3.heap.size:=Nat.le_trans HP3.out.base (Nat.le_of_lt qa_b);have qa_n:=cB HP3.out.nk;have qa_o:=cB HP3.out.ok;refine iJ (n:=11) (S:=fun w'=>w'.cell? ⟨b,6,none⟩=some vk∧w'.cell? ⟨w.heap.size,0,none⟩=some (.int .i64 lo)∧w'.cell? ⟨w.heap.size,1,none⟩=some (.int .i64 hi)) (ds:=[10]) _ bB rfl rfl ⟨qa_0,d1,d2⟩ (fun hHeld=>?_);refine sA1 0 (some 151) sB1 ?_
 refine sA1 1 (some 152) sB1 ?_
 refine sA1 2 (some 153) sB1 ?_
 refine sA1 3 (some 154) sB1 ?_
 refine sC1 4 (some 155) sD1 ?_
 refine sC1 5 (some 156) sD1 ?_
 refine sF1 6 (some 157) sG1 (fun K hK=>?_);refine lQ (w1:=?_) (v:=?_) bH rfl ?_ ?_;rotate_left 2
 ·go_simp;constructor
  ·rfl
  rfl
 have aa_h:Below w3.heap.size w3 (w3.drew.alloc (.cells ([.int .i64 lo,.int .i64 hi]:List Value).toArray 92)):=(Below.refl _ _).drew.alloc (Nat.le_refl _) _;refine hK.out _ _ ⟨((aa_h.cell (p:=⟨b,6,none⟩) (World.block_lt_of_cell? w3 ⟨b,6,none⟩ qa_0)).trans qa_0),((aa_h.cell (p:=⟨w.heap.size,0,none⟩) (World.block_lt_of_cell? w3 ⟨w.heap.size,0,none⟩ d1)).trans d1),((aa_h.cell (p:=⟨w.heap.size,1,none⟩) (World.block_lt_of_cell? w3 ⟨w.heap.size,1,none⟩ d2)).trans d2)⟩ (fun hHeld=>?_);clear hK K;refine gM sJ1 ?_
 refine sF1 7 (some 158) sG1 (fun K hK=>?_);refine gN (w0:=w3) (W:=w3.drew) w0.heap.size bH (.tmp 155) (.tmp 157) 90 92 _ 2 16 bH Tryz.underlying90 mV rfl bF bF vk p.known.length (pairs p.known) [.int .i64 lo,.int .i64 hi] bH bH bH bL qa_o.out ((Below.refl _ _).drew) qa_B bA ?_;intro va war oa bba ga ta;obtain ⟨Aa,ca,eva⟩:=fL oa;subst eva;have xa_0:=ga.cell (w:=w3.drew) (a:=⟨b,6,none⟩) qa_0 qa_n.out;have xa_f:=(World.frozen?_of_block (w:=w3.drew) (a:=⟨b,6,none⟩) (ga.block b qa_b qa_n.out)).trans qa_f;have xa_1:=ga.cell (w:=w3.drew) (a:=⟨w.heap.size,0,none⟩) d1 hI.out.2.1
 have xa_2:=ga.cell (w:=w3.drew) (a:=⟨w.heap.size,1,none⟩) d2 hI.out.2.1
 have gga:w3.grownBy war vk.ownBlock:=⟨ga.os,ga.tape,ga.output,ga.size,ga.block⟩
 obtain ⟨hpa,hma⟩:=kV HP3.out (lo,hi) (w':=war) oa gga ta;have HPa:=cB hpa;have HMa:=cB hma;clear hpa hma oa bba ga gga ta;refine hK.out _ _ ⟨xa_0,xa_1,xa_2⟩ (fun hHeld=>?_);clear hK K;refine gM sJ1 ?_
 refine sA1 8 (some 159) sB1 ?_
 refine sA1 9 (some 160) sB1 ?_
 refine sH1 10 none sI1 (fun K hK=>?_);refine iZ (w1:=?_) bH rfl ?_ ?_;rotate_left
 ·go_simp;rfl
 refine hK.out _ _ ?_;clear hK K;refine iV bB ?_;clear d1 d2 xa_0 xa_f xa_1 xa_2 qa_0 qa_f qa_b qa_B qa_n qa_o aa_h
 obtain ⟨Wa,hWa⟩:∃ W,war.setCell ⟨b,6,none⟩ (.slice Aa (p.known.length+1) ca)=W:=⟨_,rfl⟩
 replace HPa:Aside0 (eK Wa w0.heap.size b { p with known:=p.known++[((lo:Int),(hi:Int))] } (.slice Aa (p.known.length+1) ca) vu vl u):=hWa▸HPa;replace HMa:Aside0 (fB w3 Wa b vk vu vl (.slice Aa (p.known.length+1) ca) vu vl):=hWa▸HMa;rw[hWa];clear hWa;have z4:IntKind.i64.wrap (p.known.length:Int)=(p.known.length:Int):=by rw[IntWalk.i64_in _ bA]
 have k6:=HPa.out.row.at 6 _ rfl;have k7:=HPa.out.row.at 18 _ rfl;have k8:=HPa.out.row.free 18 bG;go_wp2_with fail
 obtain ⟨hpc,hmc⟩:=gA HPa.out 18 (.int .i64 p.known.length) { p with known:=p.known++[((lo:Int),(hi:Int))],pkind:=p.known.length } u rfl rfl rfl rfl bA;go_ret;exact ⟨rfl,_,_,hpc,((fB.of_below HB3.out).trans HMa.out).trans hmc⟩
theorem aB8 (S:jC w0 pb st sl sd sf sc mb sb fb) (OS:jF st) (hB:Below w0.heap.size w0 w) (H:eK w w0.heap.size b p vk vu vl u) (osz:p.s.size≤1000000) (okl:p.known.length≤1000000) (oll:p.plangs.length≤1000000) (comp:ByteArray) (lo hi:Nat) (q1:lo≤hi) (q2:hi≤p.s.size) (hasc:asc (p.s.extract lo hi)) (hc:(comp.toList==[108,97,121,111,117,116,115])=true) (hd:pD (Lib.toLowerA (L (kD (p.s.extract lo hi))))=false) :
 Calls Tryz.prog 180 #[.pointer (some ⟨pb,0,none⟩),.string comp,.string ⟨#[107,105,110,100,95]⟩,.pointer (some ⟨b,0,none⟩),.agg #[.int .i64 lo,.int .i64 hi]] w fun e w' =>
  e = .returned (.bool false)∧Below w.heap.size w w':=by
 have HA:=cB hasc;have HP:=cB H;have hb:=H.lt;have HS:=cB S;have HB0:=cB hB;have hsz:(p.s.extract lo hi).size≤1000000:=Nat.le_trans (iX _ _ _) osz;have cl:=fun W=>Tryz.strings_ToLower_ascii (p.s.extract lo hi) W bA hasc
 obtain ⟨x,hx⟩:∃ x,kD (p.s.extract lo hi)=x:=⟨_,rfl⟩
 rw[show (⟨(Lib.toLowerA (p.s.extract lo hi).data.toList).toArray⟩:ByteArray)=x from hx] at cl;have hxz:x.size≤1000000:=by rw[← hx,lM];exact hsz
 have HX:=cB hx;have h0:=H.row.at 0 _ rfl;have mne:=nN mb;clear H S hB hasc hx;go_enter Tryz.func180,Tryz.ntmps180;go_upto_region 1 with fail
 have hal:Below w.heap.size w (w.alloc (.cells #[.int .i64 lo,.int .i64 hi] 92)):=(Below.refl _ _).alloc (Nat.le_refl _) _;have hR:=Row.new w [.int .i64 lo,.int .i64 hi] 92;have hs1:w.heap.size < (w.alloc (.cells #[.int .i64 lo,.int .i64 hi] 92)).heap.size:=by simp
 obtain ⟨V0,hV0⟩:∃ V0,w.alloc (.cells #[.int .i64 lo,.int .i64 hi] 92)=V0:=⟨_,rfl⟩
 replace hR:Row V0 w.heap.size [.int .i64 lo,.int .i64 hi]:=hV0▸hR;rw[hV0] at hal hs1 ⊢;clear hV0;refine wp_region_still_tail 9 bB bB ?_;change wpStill _ _ V0.drew (fun a'=>wpList _ _ _ _ a' V0.drew) _ _;replace hal:=hal.drew;replace hR:Row V0.drew w.heap.size [.int .i64 lo,.int .i64 hi]:=hR.step rfl;replace hs1:w.heap.size < V0.drew.heap.size:=hs1
 obtain ⟨V,hV⟩:∃ V,V0.drew=V:=⟨_,rfl⟩
 rw[hV] at hal hR hs1 ⊢;clear hV;have d0:V.cell? ⟨b,0,none⟩=some (.string p.s):=(hal.cell (p:=⟨b,0,none⟩) hb).trans h0;have d1:=hR.at 0 _ rfl;have d2:=hR.at 1 _ rfl;simp only[List.take_succ_cons,List.take_zero,List.drop_succ_cons,List.drop_zero]
 repeat still_step
 refine wpStill_nil ?_;have HB1:=cB hal;have HR1:=cB hR;clear hal hR d0 d1 d2 h0;go_wp2_with fail
 refine (cl V).mono ?_;rintro e w2 ⟨rfl,hb2⟩;have HB2:=cB (eD HB1.out hb2);have HR2:=cB (HR1.out.below hb2 hs1);have hs2:=Nat.lt_of_lt_of_le hs1 hb2.size;have HP2:=cB (HP.out.below HB2.out);have HS2:=cB (HS.out.below (HB0.out.trans (HB2.out.mono HB0.out.size)));have d1:=HR2.out.at 0 _ rfl;have d2:=HR2.out.at 1 _ rfl;have hI:=cB (HP.out.new_ne (Nat.le_refl _));clear hb2 cl;have hax:∀ (j:Nat) (b:UInt8),x.data.toList[j]? = some b→b.toNat < 128:=by rw[← HX.out];exact aDr _ HA.out
 have cd:=pK x w2 hxz hax;rw[HX.out] at hd;go_wp2_with fail
 refine cd.mono ?_;rintro e w3 ⟨r,rfl,hr,hb3⟩;rw[hd] at hr;have hr2:(r.toList==[])=true:=hr;clear cd hd hr;have HB3:=cB (eD HB2.out hb3);clear hb3;go_wp2_with fail
 go_ret;exact ⟨rfl,HB3.out⟩
theorem zU (S:jC w0 pb st sl sd sf sc mb sb fb) (OS:jF st) (hB:Below w0.heap.size w0 w) (H:eK w w0.heap.size b p vk vu vl u) (osz:p.s.size≤1000000) (okl:p.known.length≤1000000) (oll:p.plangs.length≤1000000) (comp:ByteArray) (lo hi:Nat) (q1:lo≤hi) (q2:hi≤p.s.size) (hasc:asc (p.s.extract lo hi)) (hc:(comp.toList==[108,97,121,111,117,116,115])=false) :
 Calls Tryz.prog 180 #[.pointer (some ⟨pb,0,none⟩),.string comp,.string ⟨#[107,105,110,100,95]⟩,.pointer (some ⟨b,0,none⟩),.agg #[.int .i64 lo,.int .i64 hi]] w fun e w' =>
  e = .returned (.bool false)∧Below w.heap.size w w':=by
 have HP:=cB H;have hb:=H.lt;have HS:=cB S;have HB0:=cB hB;have hsz:(p.s.extract lo hi).size≤1000000:=Nat.le_trans (iX _ _ _) osz;have cl:=fun W=>Tryz.strings_ToLower_ascii (p.s.extract lo hi) W bA hasc
 obtain ⟨x,hx⟩:∃ x,kD (p.s.extract lo hi)=x:=⟨_,rfl⟩
 rw[show (⟨(Lib.toLowerA (p.s.extract lo hi).data.toList).toArray⟩:ByteArray)=x from hx] at cl;have hxz:x.size≤1000000:=by rw[← hx,lM];exact hsz
 have HX:=cB hx;have h0:=H.row.at 0 _ rfl;have mne:=nN mb;clear H S hB hasc hx;go_enter Tryz.func180,Tryz.ntmps180;go_upto_region 1 with fail
 have hal:Below w.heap.size w (w.alloc (.cells #[.int .i64 lo,.int .i64 hi] 92)):=(Below.refl _ _).alloc (Nat.le_refl _) _;have hR:=Row.new w [.int .i64 lo,.int .i64 hi] 92;have hs1:w.heap.size < (w.alloc (.cells #[.int .i64 lo,.int .i64 hi] 92)).heap.size:=by simp
 obtain ⟨V0,hV0⟩:∃ V0,w.alloc (.cells #[.int .i64 lo,.int .i64 hi] 92)=V0:=⟨_,rfl⟩
 replace hR:Row V0 w.heap.size [.int .i64 lo,.int .i64 hi]:=hV0▸hR;rw[hV0] at hal hs1 ⊢;clear hV0;refine wp_region_still_tail 9 bB bB ?_;change wpStill _ _ V0.drew (fun a'=>wpList _ _ _ _ a' V0.drew) _ _;replace hal:=hal.drew;replace hR:Row V0.drew w.heap.size [.int .i64 lo,.int .i64 hi]:=hR.step rfl;replace hs1:w.heap.size < V0.drew.heap.size:=hs1
 obtain ⟨V,hV⟩:∃ V,V0.drew=V:=⟨_,rfl⟩
 rw[hV] at hal hR hs1 ⊢;clear hV;have d0:V.cell? ⟨b,0,none⟩=some (.string p.s):=(hal.cell (p:=⟨b,0,none⟩) hb).trans h0;have d1:=hR.at 0 _ rfl;have d2:=hR.at 1 _ rfl;simp only[List.take_succ_cons,List.take_zero,List.drop_succ_cons,List.drop_zero]
 repeat still_step
 refine wpStill_nil ?_;have HB1:=cB hal;have HR1:=cB hR;clear hal hR d0 d1 d2 h0;go_wp2_with fail
 refine (cl V).mono ?_;rintro e w2 ⟨rfl,hb2⟩;have HB2:=cB (eD HB1.out hb2);have HR2:=cB (HR1.out.below hb2 hs1);have hs2:=Nat.lt_of_lt_of_le hs1 hb2.size;have HP2:=cB (HP.out.below HB2.out);have HS2:=cB (HS.out.below (HB0.out.trans (HB2.out.mono HB0.out.size)));have d1:=HR2.out.at 0 _ rfl;have d2:=HR2.out.at 1 _ rfl;have hI:=cB (HP.out.new_ne (Nat.le_refl _));clear hb2 cl;go_wp2_with fail
 go_ret;exact ⟨rfl,HB2.out⟩
end
section
variable {w0 w:World} {b:Nat} {p:eH} {vk vu vl u:Value} {pb mb sb fb:Nat} {st:eW} {sl sd sf sc:Value}
theorem aCx (S:jC w0 pb st sl sd sf sc mb sb fb) (OS:jF st) (hB:Below w0.heap.size w0 w) (H:eK w w0.heap.size b p vk vu vl u) (osz:p.s.size≤1000000) (okl:p.known.length≤1000000) (oll:p.plangs.length≤1000000) (comp:ByteArray) (lo hi:Nat) (q1:lo≤hi) (q2:hi≤p.s.size) (hasc:asc (p.s.extract lo hi)) (hc:(comp.toList==[108,97,121,111,117,116,115])=true) :
 Calls Tryz.prog 180 #[.pointer (some ⟨pb,0,none⟩),.string comp,.string ⟨#[108,97,121,111,117,116,95]⟩,.pointer (some ⟨b,0,none⟩),.agg #[.int .i64 lo,.int .i64 hi]] w fun e w' =>
  e = .returned (.bool true)∧∃ vk' vl',eK w' w0.heap.size b { p with known:=p.known++[((lo:Int),(hi:Int))],play:=p.known.length } vk' vu vl' u∧fB w w' b vk vu vl vk' vu vl':=by
 have HP:=cB H;have hb:=H.lt;have HS:=cB S;have HB0:=cB hB;have hsz:(p.s.extract lo hi).size≤1000000:=Nat.le_trans (iX _ _ _) osz;have cl:=fun W=>Tryz.strings_ToLower_ascii (p.s.extract lo hi) W bA hasc
 obtain ⟨x,hx⟩:∃ x,kD (p.s.extract lo hi)=x:=⟨_,rfl⟩
 rw[show (⟨(Lib.toLowerA (p.s.extract lo hi).data.toList).toArray⟩:ByteArray)=x from hx] at cl;have hxz:x.size≤1000000:=by rw[← hx,lM];exact hsz
 have HX:=cB hx;have h0:=H.row.at 0 _ rfl;have mne:=nN mb;clear H S hB hasc hx;go_enter Tryz.func180,Tryz.ntmps180;go_upto_region 1 with fail
 have hal:Below w.heap.size w (w.alloc (.cells #[.int .i64 lo,.int .i64 hi] 92)):=(Below.refl _ _).alloc (Nat.le_refl _) _;have hR:=Row.new w [.int .i64 lo,.int .i64 hi] 92;have hs1:w.heap.size < (w.alloc (.cells #[.int .i64 lo,.int .i64 hi] 92)).heap.size:=by simp
 obtain ⟨V0,hV0⟩:∃ V0,w.alloc (.cells #[.int .i64 lo,.int .i64 hi] 92)=V0:=⟨_,rfl⟩
 replace hR:Row V0 w.heap.size [.int .i64 lo,.int .i64 hi]:=hV0▸hR;rw[hV0] at hal hs1 ⊢;clear hV0;refine wp_region_still_tail 9 bB bB ?_;change wpStill _ _ V0.drew (fun a'=>wpList _ _ _ _ a' V0.drew) _ _;replace hal:=hal.drew;replace hR:Row V0.drew w.heap.size [.int .i64 lo,.int .i64 hi]:=hR.step rfl;replace hs1:w.heap.size < V0.drew.heap.size:=hs1
 obtain ⟨V,hV⟩:∃ V,V0.drew=V:=⟨_,rfl⟩
 rw[hV] at hal hR hs1 ⊢;clear hV;have d0:V.cell? ⟨b,0,none⟩=some (.string p.s):=(hal.cell (p:=⟨b,0,none⟩) hb).trans h0;have d1:=hR.at 0 _ rfl;have d2:=hR.at 1 _ rfl;simp only[List.take_succ_cons,List.take_zero,List.drop_succ_cons,List.drop_zero]
 repeat still_step
 refine wpStill_nil ?_;have HB1:=cB hal;have HR1:=cB hR;clear hal hR d0 d1 d2 h0;go_wp2_with fail
 refine (cl V).mono ?_;rintro e w2 ⟨rfl,hb2⟩;have HB2:=cB (eD HB1.out hb2);have HR2:=cB (HR1.out.below hb2 hs1);have hs2:=Nat.lt_of_lt_of_le hs1 hb2.size;have HP2:=cB (HP.out.below HB2.out);have HS2:=cB (HS.out.below (HB0.out.trans (HB2.out.mono HB0.out.size)));have d1:=HR2.out.at 0 _ rfl;have d2:=HR2.out.at 1 _ rfl;have hI:=cB (HP.out.new_ne (Nat.le_refl _));clear hb2 cl;go_upto_region 29 with fail
 have qa_0:=HP2.out.row.at 6 _ rfl;have qa_f:=HP2.out.row.free 6 bG;have qa_b:=HP2.out.lt;have qa_B:w0.heap.size≤w2.heap.size:=Nat.le_trans HP2.out.base (Nat.le_of_lt qa_b);have qa_n:=cB HP2.out.nk;have qa_o:=cB HP2.out.ok;refine iJ (n:=11) (S:=fun w'=>w'.cell? ⟨b,6,none⟩=some vk∧w'.cell? ⟨w.heap.size,0,none⟩=some (.int .i64 lo)∧w'.cell? ⟨w.heap.size,1,none⟩=some (.int .i64 hi)) (ds:=[10]) _ bB rfl rfl ⟨qa_0,d1,d2⟩ (fun hHeld=>?_);refine sA1 0 (some 174) sB1 ?_
 refine sA1 1 (some 175) sB1 ?_
 refine sA1 2 (some 176) sB1 ?_
 refine sA1 3 (some 177) sB1 ?_
 refine sC1 4 (some 178) sD1 ?_
 refine sC1 5 (some 179) sD1 ?_
 refine sF1 6 (some 180) sG1 (fun K hK=>?_);refine lQ (w1:=?_) (v:=?_) bH rfl ?_ ?_;rotate_left 2
 ·go_simp;constructor
  ·rfl
  rfl
 have aa_h:Below w2.heap.size w2 (w2.drew.alloc (.cells ([.int .i64 lo,.int .i64 hi]:List Value).toArray 92)):=(Below.refl _ _).drew.alloc (Nat.le_refl _) _;refine hK.out _ _ ⟨((aa_h.cell (p:=⟨b,6,none⟩) (World.block_lt_of_cell? w2 ⟨b,6,none⟩ qa_0)).trans qa_0),((aa_h.cell (p:=⟨w.heap.size,0,none⟩) (World.block_lt_of_cell? w2 ⟨w.heap.size,0,none⟩ d1)).trans d1),((aa_h.cell (p:=⟨w.heap.size,1,none⟩) (World.block_lt_of_cell? w2 ⟨w.heap.size,1,none⟩ d2)).trans d2)⟩ (fun hHeld=>?_);clear hK K;refine gM sJ1 ?_
 refine sF1 7 (some 181) sG1 (fun K hK=>?_);refine gN (w0:=w2) (W:=w2.drew) w0.heap.size bH (.tmp 178) (.tmp 180) 90 92 _ 2 16 bH Tryz.underlying90 mV rfl bF bF vk p.known.length (pairs p.known) [.int .i64 lo,.int .i64 hi] bH bH bH bL qa_o.out ((Below.refl _ _).drew) qa_B bA ?_;intro va war oa bba ga ta;obtain ⟨Aa,ca,eva⟩:=fL oa;subst eva;have xa_0:=ga.cell (w:=w2.drew) (a:=⟨b,6,none⟩) qa_0 qa_n.out;have xa_f:=(World.frozen?_of_block (w:=w2.drew) (a:=⟨b,6,none⟩) (ga.block b qa_b qa_n.out)).trans qa_f;have xa_1:=ga.cell (w:=w2.drew) (a:=⟨w.heap.size,0,none⟩) d1 hI.out.2.1
 have xa_2:=ga.cell (w:=w2.drew) (a:=⟨w.heap.size,1,none⟩) d2 hI.out.2.1
 have gga:w2.grownBy war vk.ownBlock:=⟨ga.os,ga.tape,ga.output,ga.size,ga.block⟩
 obtain ⟨hpa,hma⟩:=kV HP2.out (lo,hi) (w':=war) oa gga ta;have HPa:=cB hpa;have HMa:=cB hma;clear hpa hma oa bba ga gga ta;refine hK.out _ _ ⟨xa_0,xa_1,xa_2⟩ (fun hHeld=>?_);clear hK K;refine gM sJ1 ?_
 refine sA1 8 (some 182) sB1 ?_
 refine sA1 9 (some 183) sB1 ?_
 refine sH1 10 none sI1 (fun K hK=>?_);refine iZ (w1:=?_) bH rfl ?_ ?_;rotate_left
 ·go_simp;rfl
 refine hK.out _ _ ?_;clear hK K;refine iV bB ?_;clear d1 d2 xa_0 xa_f xa_1 xa_2 qa_0 qa_f qa_b qa_B qa_n qa_o aa_h
 obtain ⟨Wa,hWa⟩:∃ W,war.setCell ⟨b,6,none⟩ (.slice Aa (p.known.length+1) ca)=W:=⟨_,rfl⟩
 replace HPa:Aside0 (eK Wa w0.heap.size b { p with known:=p.known++[((lo:Int),(hi:Int))] } (.slice Aa (p.known.length+1) ca) vu vl u):=hWa▸HPa;replace HMa:Aside0 (fB w2 Wa b vk vu vl (.slice Aa (p.known.length+1) ca) vu vl):=hWa▸HMa;rw[hWa];clear hWa;have z4:IntKind.i64.wrap (p.known.length:Int)=(p.known.length:Int):=by rw[IntWalk.i64_in _ bA]
 have k6:=HPa.out.row.at 6 _ rfl;have k7:=HPa.out.row.at 19 _ rfl;have k8:=HPa.out.row.free 19 bG;go_wp2_with fail
 obtain ⟨hpc,hmc⟩:=gA HPa.out 19 (.int .i64 p.known.length) { p with known:=p.known++[((lo:Int),(hi:Int))],play:=p.known.length } u rfl rfl rfl rfl bA;go_ret;exact ⟨rfl,_,_,hpc,((fB.of_below HB2.out).trans HMa.out).trans hmc⟩
theorem yF (S:jC w0 pb st sl sd sf sc mb sb fb) (OS:jF st) (hB:Below w0.heap.size w0 w) (H:eK w w0.heap.size b p vk vu vl u) (osz:p.s.size≤1000000) (okl:p.known.length≤1000000) (oll:p.plangs.length≤1000000) (comp:ByteArray) (lo hi:Nat) (q1:lo≤hi) (q2:hi≤p.s.size) (hasc:asc (p.s.extract lo hi)) (hc:(comp.toList==[108,97,121,111,117,116,115])=false) :
 Calls Tryz.prog 180 #[.pointer (some ⟨pb,0,none⟩),.string comp,.string ⟨#[108,97,121,111,117,116,95]⟩,.pointer (some ⟨b,0,none⟩),.agg #[.int .i64 lo,.int .i64 hi]] w fun e w' =>
  e = .returned (.bool false)∧Below w.heap.size w w':=by
 have HP:=cB H;have hb:=H.lt;have HS:=cB S;have HB0:=cB hB;have hsz:(p.s.extract lo hi).size≤1000000:=Nat.le_trans (iX _ _ _) osz;have cl:=fun W=>Tryz.strings_ToLower_ascii (p.s.extract lo hi) W bA hasc
 obtain ⟨x,hx⟩:∃ x,kD (p.s.extract lo hi)=x:=⟨_,rfl⟩
 rw[show (⟨(Lib.toLowerA (p.s.extract lo hi).data.toList).toArray⟩:ByteArray)=x from hx] at cl;have hxz:x.size≤1000000:=by rw[← hx,lM];exact hsz
 have HX:=cB hx;have h0:=H.row.at 0 _ rfl;have mne:=nN mb;clear H S hB hasc hx;go_enter Tryz.func180,Tryz.ntmps180;go_upto_region 1 with fail
 have hal:Below w.heap.size w (w.alloc (.cells #[.int .i64 lo,.int .i64 hi] 92)):=(Below.refl _ _).alloc (Nat.le_refl _) _;have hR:=Row.new w [.int .i64 lo,.int .i64 hi] 92;have hs1:w.heap.size < (w.alloc (.cells #[.int .i64 lo,.int .i64 hi] 92)).heap.size:=by simp
 obtain ⟨V0,hV0⟩:∃ V0,w.alloc (.cells #[.int .i64 lo,.int .i64 hi] 92)=V0:=⟨_,rfl⟩
 replace hR:Row V0 w.heap.size [.int .i64 lo,.int .i64 hi]:=hV0▸hR;rw[hV0] at hal hs1 ⊢;clear hV0;refine wp_region_still_tail 9 bB bB ?_;change wpStill _ _ V0.drew (fun a'=>wpList _ _ _ _ a' V0.drew) _ _;replace hal:=hal.drew;replace hR:Row V0.drew w.heap.size [.int .i64 lo,.int .i64 hi]:=hR.step rfl;replace hs1:w.heap.size < V0.drew.heap.size:=hs1
 obtain ⟨V,hV⟩:∃ V,V0.drew=V:=⟨_,rfl⟩
 rw[hV] at hal hR hs1 ⊢;clear hV;have d0:V.cell? ⟨b,0,none⟩=some (.string p.s):=(hal.cell (p:=⟨b,0,none⟩) hb).trans h0;have d1:=hR.at 0 _ rfl;have d2:=hR.at 1 _ rfl;simp only[List.take_succ_cons,List.take_zero,List.drop_succ_cons,List.drop_zero]
 repeat still_step
 refine wpStill_nil ?_;have HB1:=cB hal;have HR1:=cB hR;clear hal hR d0 d1 d2 h0;go_wp2_with fail
 refine (cl V).mono ?_;rintro e w2 ⟨rfl,hb2⟩;have HB2:=cB (eD HB1.out hb2);have HR2:=cB (HR1.out.below hb2 hs1);have hs2:=Nat.lt_of_lt_of_le hs1 hb2.size;have HP2:=cB (HP.out.below HB2.out);have HS2:=cB (HS.out.below (HB0.out.trans (HB2.out.mono HB0.out.size)));have d1:=HR2.out.at 0 _ rfl;have d2:=HR2.out.at 1 _ rfl;have hI:=cB (HP.out.new_ne (Nat.le_refl _));clear hb2 cl;go_wp2_with fail
 go_ret;exact ⟨rfl,HB2.out⟩
theorem aCa (S:jC w0 pb st sl sd sf sc mb sb fb) (OS:jF st) (hB:Below w0.heap.size w0 w) (H:eK w w0.heap.size b p vk vu vl u) (osz:p.s.size≤1000000) (okl:p.known.length≤1000000) (oll:p.plangs.length≤1000000) (comp:ByteArray) (lo hi:Nat) (q1:lo≤hi) (q2:hi≤p.s.size) (hasc:asc (p.s.extract lo hi))  :
 Calls Tryz.prog 180 #[.pointer (some ⟨pb,0,none⟩),.string comp,.string ⟨#[118,101,114,115,105,111,110,95]⟩,.pointer (some ⟨b,0,none⟩),.agg #[.int .i64 lo,.int .i64 hi]] w fun e w' =>
  e = .returned (.bool false)∧Below w.heap.size w w':=by
 have HP:=cB H;have hb:=H.lt;have HS:=cB S;have HB0:=cB hB;have hsz:(p.s.extract lo hi).size≤1000000:=Nat.le_trans (iX _ _ _) osz;have cl:=fun W=>Tryz.strings_ToLower_ascii (p.s.extract lo hi) W bA hasc
 obtain ⟨x,hx⟩:∃ x,kD (p.s.extract lo hi)=x:=⟨_,rfl⟩
 rw[show (⟨(Lib.toLowerA (p.s.extract lo hi).data.toList).toArray⟩:ByteArray)=x from hx] at cl;have hxz:x.size≤1000000:=by rw[← hx,lM];exact hsz
 have HX:=cB hx;have h0:=H.row.at 0 _ rfl;have mne:=nN mb;clear H S hB hasc hx;go_enter Tryz.func180,Tryz.ntmps180;go_upto_region 1 with fail
 have hal:Below w.heap.size w (w.alloc (.cells #[.int .i64 lo,.int .i64 hi] 92)):=(Below.refl _ _).alloc (Nat.le_refl _) _;have hR:=Row.new w [.int .i64 lo,.int .i64 hi] 92;have hs1:w.heap.size < (w.alloc (.cells #[.int .i64 lo,.int .i64 hi] 92)).heap.size:=by simp
 obtain ⟨V0,hV0⟩:∃ V0,w.alloc (.cells #[.int .i64 lo,.int .i64 hi] 92)=V0:=⟨_,rfl⟩
 replace hR:Row V0 w.heap.size [.int .i64 lo,.int .i64 hi]:=hV0▸hR;rw[hV0] at hal hs1 ⊢;clear hV0;refine wp_region_still_tail 9 bB bB ?_;change wpStill _ _ V0.drew (fun a'=>wpList _ _ _ _ a' V0.drew) _ _;replace hal:=hal.drew;replace hR:Row V0.drew w.heap.size [.int .i64 lo,.int .i64 hi]:=hR.step rfl;replace hs1:w.heap.size < V0.drew.heap.size:=hs1
 obtain ⟨V,hV⟩:∃ V,V0.drew=V:=⟨_,rfl⟩
 rw[hV] at hal hR hs1 ⊢;clear hV;have d0:V.cell? ⟨b,0,none⟩=some (.string p.s):=(hal.cell (p:=⟨b,0,none⟩) hb).trans h0;have d1:=hR.at 0 _ rfl;have d2:=hR.at 1 _ rfl;simp only[List.take_succ_cons,List.take_zero,List.drop_succ_cons,List.drop_zero]
 repeat still_step
 refine wpStill_nil ?_;have HB1:=cB hal;have HR1:=cB hR;clear hal hR d0 d1 d2 h0;go_wp2_with fail
 refine (cl V).mono ?_;rintro e w2 ⟨rfl,hb2⟩;have HB2:=cB (eD HB1.out hb2);have HR2:=cB (HR1.out.below hb2 hs1);have hs2:=Nat.lt_of_lt_of_le hs1 hb2.size;have HP2:=cB (HP.out.below HB2.out);have HS2:=cB (HS.out.below (HB0.out.trans (HB2.out.mono HB0.out.size)));have d1:=HR2.out.at 0 _ rfl;have d2:=HR2.out.at 1 _ rfl;have hI:=cB (HP.out.new_ne (Nat.le_refl _));clear hb2 cl;go_wp2_with fail
 go_ret;exact ⟨rfl,HB2.out⟩
theorem aGd (S:jC w0 pb st sl sd sf sc mb sb fb) (OS:jF st) (hB:Below w0.heap.size w0 w) (H:eK w w0.heap.size b p vk vu vl u) (osz:p.s.size≤1000000) (okl:p.known.length≤1000000) (oll:p.plangs.length≤1000000) (comp:ByteArray) (lo hi:Nat) (q1:lo≤hi) (q2:hi≤p.s.size) (hasc:asc (p.s.extract lo hi))  :
 Calls Tryz.prog 180 #[.pointer (some ⟨pb,0,none⟩),.string comp,.string ⟨#[114,111,108,101,95]⟩,.pointer (some ⟨b,0,none⟩),.agg #[.int .i64 lo,.int .i64 hi]] w fun e w' =>
  e = .returned (.bool false)∧Below w.heap.size w w':=by
 have HP:=cB H;have hb:=H.lt;have HS:=cB S;have HB0:=cB hB;have hsz:(p.s.extract lo hi).size≤1000000:=Nat.le_trans (iX _ _ _) osz;have cl:=fun W=>Tryz.strings_ToLower_ascii (p.s.extract lo hi) W bA hasc
 obtain ⟨x,hx⟩:∃ x,kD (p.s.extract lo hi)=x:=⟨_,rfl⟩
 rw[show (⟨(Lib.toLowerA (p.s.extract lo hi).data.toList).toArray⟩:ByteArray)=x from hx] at cl;have hxz:x.size≤1000000:=by rw[← hx,lM];exact hsz
 have HX:=cB hx;have h0:=H.row.at 0 _ rfl;have mne:=nN mb;clear H S hB hasc hx;go_enter Tryz.func180,Tryz.ntmps180;go_upto_region 1 with fail
 have hal:Below w.heap.size w (w.alloc (.cells #[.int .i64 lo,.int .i64 hi] 92)):=(Below.refl _ _).alloc (Nat.le_refl _) _;have hR:=Row.new w [.int .i64 lo,.int .i64 hi] 92;have hs1:w.heap.size < (w.alloc (.cells #[.int .i64 lo,.int .i64 hi] 92)).heap.size:=by simp
 obtain ⟨V0,hV0⟩:∃ V0,w.alloc (.cells #[.int .i64 lo,.int .i64 hi] 92)=V0:=⟨_,rfl⟩
 replace hR:Row V0 w.heap.size [.int .i64 lo,.int .i64 hi]:=hV0▸hR;rw[hV0] at hal hs1 ⊢;clear hV0;refine wp_region_still_tail 9 bB bB ?_;change wpStill _ _ V0.drew (fun a'=>wpList _ _ _ _ a' V0.drew) _ _;replace hal:=hal.drew;replace hR:Row V0.drew w.heap.size [.int .i64 lo,.int .i64 hi]:=hR.step rfl;replace hs1:w.heap.size < V0.drew.heap.size:=hs1
 obtain ⟨V,hV⟩:∃ V,V0.drew=V:=⟨_,rfl⟩
 rw[hV] at hal hR hs1 ⊢;clear hV;have d0:V.cell? ⟨b,0,none⟩=some (.string p.s):=(hal.cell (p:=⟨b,0,none⟩) hb).trans h0;have d1:=hR.at 0 _ rfl;have d2:=hR.at 1 _ rfl;simp only[List.take_succ_cons,List.take_zero,List.drop_succ_cons,List.drop_zero]
 repeat still_step
 refine wpStill_nil ?_;have HB1:=cB hal;have HR1:=cB hR;clear hal hR d0 d1 d2 h0;go_wp2_with fail
 refine (cl V).mono ?_;rintro e w2 ⟨rfl,hb2⟩;have HB2:=cB (eD HB1.out hb2);have HR2:=cB (HR1.out.below hb2 hs1);have hs2:=Nat.lt_of_lt_of_le hs1 hb2.size;have HP2:=cB (HP.out.below HB2.out);have HS2:=cB (HS.out.below (HB0.out.trans (HB2.out.mono HB0.out.size)));have d1:=HR2.out.at 0 _ rfl;have d2:=HR2.out.at 1 _ rfl;have hI:=cB (HP.out.new_ne (Nat.le_refl _));clear hb2 cl;go_wp2_with fail
 go_ret;exact ⟨rfl,HB2.out⟩
end
open Go.RowKit Go.WideMaps Go.ZW.PrintWords Go.Proofs.YtcdgldnphhidlaaGreatDoor.Base
structure Env where
 lang:ByteArray→Bool
 dis:ByteArray→Bool
 fmt:ByteArray→ByteArray→Bool
 cont:ByteArray→Bool
def eJ (st:eW):Env:=⟨listed st.langs,listed st.dis,mH st.fmts,listed st.cont⟩
def eR (comp:ByteArray):Bool:=comp.toList==[108,97,121,111,117,116,115]
def isKind (s:ByteArray):Bool:=pD (Lib.toLowerA (L s))
def fJ:ByteArray:=⟨#[108,97,110,103,117,97,103,101,95]⟩
def nT:ByteArray:=⟨#[118,101,114,115,105,111,110,95]⟩
def pV:ByteArray:=⟨#[114,111,108,101,95]⟩
def gR:ByteArray:=⟨#[111,117,116,112,117,116,102,111,114,109,97,116,95]⟩
def gE:ByteArray:=⟨#[107,105,110,100,95]⟩
def fS:ByteArray:=⟨#[108,97,121,111,117,116,95]⟩
def jI (E:Env) (lay:Bool) (p:eH) (pre:ByteArray) (x:Int×Int) (v:ByteArray):Option eH :=
 if pre=fJ then
  if E.lang v then some { p with known:=p.known++[x],plangs:=p.plangs++[(p.known.length:Int)] }
  else if E.dis v then some { p with known:=p.known++[x],plangs:=p.plangs++[(p.known.length:Int)],dis:=true } else none
 else if pre=gR then if lay && E.fmt v ⟨#[]⟩ then some { p with known:=p.known++[x],pfmt:=p.known.length } else none
 else if pre=gE then if lay && isKind v then some { p with known:=p.known++[x],pkind:=p.known.length } else none
 else if pre=fS then if lay then some { p with known:=p.known++[x],play:=p.known.length } else none
 else none
theorem prefOf_cases (s:ByteArray):iQ s=⟨#[]⟩∨iQ s=fJ∨iQ s=nT∨iQ s=pV∨iQ s=gR∨iQ s=gE∨iQ s=fS:=by
 unfold iQ lT;simp only[mK]
 repeat' split
 all_goals simp[fJ,nT,pV,gR,gE,fS]
section
variable {w0 w:World} {b:Nat} {p:eH} {vk vu vl u:Value} {pb mb sb fb:Nat} {st:eW} {sl sd sf sc:Value}
theorem aEp (S:jC w0 pb st sl sd sf sc mb sb fb) (OS:jF st) (hB:Below w0.heap.size w0 w) (H:eK w w0.heap.size b p vk vu vl u) (osz:p.s.size≤1000000) (okl:p.known.length≤1000000) (oll:p.plangs.length≤1000000) (comp:ByteArray) (lo hi:Nat) (q1:lo≤hi) (q2:hi≤p.s.size) (hasc:asc (p.s.extract lo hi))
 (pre:ByteArray) (hpre:pre=fJ∨pre=nT∨pre=pV∨pre=gR∨pre=gE∨pre=fS) :
 Calls Tryz.prog 180 #[.pointer (some ⟨pb,0,none⟩),.string comp,.string pre,.pointer (some ⟨b,0,none⟩),.agg #[.int .i64 lo,.int .i64 hi]] w fun e w' =>
  match jI (eJ st) (eR comp) p pre ((lo:Int),(hi:Int)) (kD (p.s.extract lo hi)) with
  | some p'=>e = .returned (.bool true)∧∃ vk' vl',eK w' w0.heap.size b p' vk' vu vl' u∧fB w w' b vk vu vl vk' vu vl'
  | none=>e = .returned (.bool false)∧Below w.heap.size w w':=by
 rcases hpre with rfl | rfl | rfl | rfl | rfl | rfl
 ·rw[jI,if_pos rfl]
  cases h1:(eJ st).lang (kD (p.s.extract lo hi)) with
  | true=>exact aA2 S OS hB H osz okl oll comp lo hi q1 q2 hasc h1
  | false =>
   cases h2:(eJ st).dis (kD (p.s.extract lo hi)) with
   | true=>exact aA1 S OS hB H osz okl oll comp lo hi q1 q2 hasc h1 h2
   | false=>exact aB9 S OS hB H osz okl oll comp lo hi q1 q2 hasc h1 h2
 ·exact aCa S OS hB H osz okl oll comp lo hi q1 q2 hasc
 ·exact aGd S OS hB H osz okl oll comp lo hi q1 q2 hasc
 ·rw[jI,if_neg bF,if_pos rfl]
  cases h0:eR comp with
  | false=>exact aA0 S OS hB H osz okl oll comp lo hi q1 q2 hasc h0
  | true =>
   cases h1:(eJ st).fmt (kD (p.s.extract lo hi)) ⟨#[]⟩ with
   | true=>exact aHj S OS hB H osz okl oll comp lo hi q1 q2 hasc h0 h1
   | false=>exact aCw S OS hB H osz okl oll comp lo hi q1 q2 hasc h0 h1
 ·rw[jI,if_neg bF,if_neg bF,if_pos rfl]
  cases h0:eR comp with
  | false=>exact zU S OS hB H osz okl oll comp lo hi q1 q2 hasc h0
  | true =>
   cases h1:isKind (kD (p.s.extract lo hi)) with
   | true=>exact aGc S OS hB H osz okl oll comp lo hi q1 q2 hasc h0 h1
   | false=>exact aB8 S OS hB H osz okl oll comp lo hi q1 q2 hasc h0 h1
 rw[jI,if_neg bF,if_neg bF,if_neg bF,if_pos rfl]
 cases h0:eR comp with
 | false=>exact yF S OS hB H osz okl oll comp lo hi q1 q2 hasc h0
 | true=>exact aCx S OS hB H osz okl oll comp lo hi q1 q2 hasc h0
end
open Go.RowKit Go.ZW.PrintWords Go.Proofs.YtcdgldnphhidlaaGreatDoor.Base
section
variable {w:World} {B b:Nat} {p:eH} {vk vu vl u:Value}
def mA (p:eH) (bun:Bool):Int:=if (if bun then p.cHigh - 1 else p.nHigh)=0 then 1 else (if bun then p.cHigh - 1 else p.nHigh)
def jV (p:eH) (pres bun:Bool):ByteArray :=
 match p.known with
 | []=>nrm p.trim p.s
 | k0::rest=>if pres=true∧rest=[] then nrm p.trim p.s else
  if pres then nrm p.trim (sub p.s 0 (mA p bun)++sub p.s (k0.1 - 1) k0.2) else nrm p.trim (sub p.s 0 (mA p bun))
theorem zZ (H:eK w B b p vk vu vl u) (pres bun:Bool) (hk:p.known=[]∨(pres=true∧p.known.length=1)) :
 Calls Tryz.prog 137 #[.pointer (some ⟨b,0,none⟩),.bool pres,.bool bun] w fun e w'=>e = .returned (.string (nrm p.trim p.s))∧Below w.heap.size w w':=by
 have h0:=H.row.at 0 _ rfl;have h6:=H.row.at 6 _ rfl;obtain ⟨A,c,hv⟩:=fL H.ok;rw[hv] at h6;have cn:=jK H p.s;rcases hk with hk | ⟨rfl,hk⟩
 ·rw[hk] at h6;have h6' : w.cell? ⟨b,6,none⟩=some (.slice A 0 c):=h6;clear hv H hk h6;go_enter Tryz.func137,Tryz.ntmps137;go_wp2_with fail
  (with_reducible refine cn.mono ?_)
  rintro e w' ⟨rfl,rfl⟩;go_wp2_with fail
  go_ret;exact ⟨rfl,Below.refl _ _⟩
 rw[hk] at h6;clear hv H hk;go_enter Tryz.func137,Tryz.ntmps137;go_wp2_with fail
 (with_reducible refine cn.mono ?_)
 rintro e w' ⟨rfl,rfl⟩;go_wp2_with fail
 go_ret;exact ⟨rfl,Below.refl _ _⟩
theorem aDi (O:iN p) (bun:Bool):∃ h:Nat,mA p bun=h∧h≤p.s.size:=by
 obtain ⟨o2,o3⟩:=O.ch;obtain ⟨o4,o5,o6⟩:=O.na;cases bun
 ·by_cases c:p.nHigh=0
  ·exact ⟨1,by unfold mA;simp[c],aM⟩
  exact ⟨p.nHigh.toNat,by unfold mA;simp[c];omega,aM⟩
 by_cases c:p.cHigh - 1=0
 ·exact ⟨1,by unfold mA;simp[c],aM⟩
 exact ⟨(p.cHigh - 1).toNat,by unfold mA;simp[c];omega,aM⟩
theorem aIp (H:eK w B b p vk vu vl u) (O:iN p) (bun:Bool) (hk:p.known≠[]) :
 Calls Tryz.prog 137 #[.pointer (some ⟨b,0,none⟩),.bool false,.bool bun] w fun e w'=>e = .returned (.string (nrm p.trim (sub p.s 0 (mA p bun))))∧Below w.heap.size w w':=by
 have h0:=H.row.at 0 _ rfl;have h2:=H.row.at 2 _ rfl;have h6:=H.row.at 6 _ rfl;obtain ⟨A,c,hv⟩:=fL H.ok;rw[hv] at h6;obtain ⟨h,hh,hle⟩:=aDi O bun;have HE:=cB (show sub p.s 0 (mA p bun)=p.s.extract 0 h by rw[hh];rfl);have hlen:((p.known.length:Int)==0)=false:=beq_eq_false_iff_ne.2 (by have:=List.length_pos_iff.2 hk;omega);obtain ⟨o2,o3⟩:=O.ch;obtain ⟨o4,o5,o6⟩:=O.na;have o1:=O.sz;have HH:=cB H;have cl:=pL H;have hf:∀ (m n:Int) (W:World),(Instr.field 92 (.agg #[.int .i64 m,.int .i64 n]) 1).run Tryz.prog W = .ok (.int .i64 n) W:=fun _ _ _=>by kernel_rfl
 cases bun
 ·have hhn:(if p.nHigh=0 then 1 else p.nHigh)=(h:Int):=by rw[← hh];unfold mA;simp
  clear hh hv H O h2
  by_cases z:p.nHigh=0
  ·rw[if_pos z] at hhn;have h1:h=1:=by omega
   subst h1;rw[z] at cl;clear z hhn;have hle2:(1:Int)≤p.s.size:=by omega
   go_enter Tryz.func137,Tryz.ntmps137;go_wp2_with fail
   (with_reducible refine cl.mono ?_)
   rintro e w1 ⟨rfl,hd⟩;have HD:=cB hd;have h0:=(HH.out.below hd).row.at 0 _ rfl;clear hd;go_wp2_with fail
   (with_reducible refine (jK (HH.out.below HD.out) _).mono ?_)
   rintro e w' ⟨rfl,rfl⟩;go_wp2_with fail
   go_ret;exact ⟨by rw[HE.out];rfl,HD.out⟩
  rw[if_neg z] at hhn;rw[hhn] at cl z;clear hhn;have z2:((h:Int)==0)=false:=beq_eq_false_iff_ne.2 z;have hle2:(h:Int)≤p.s.size:=by omega
  clear z;go_enter Tryz.func137,Tryz.ntmps137;go_wp2_with fail
  (with_reducible refine cl.mono ?_)
  rintro e w1 ⟨rfl,hd⟩;have HD:=cB hd;have h0:=(HH.out.below hd).row.at 0 _ rfl;clear hd;go_wp2_with fail
  (with_reducible refine (jK (HH.out.below HD.out) _).mono ?_)
  rintro e w' ⟨rfl,rfl⟩;go_wp2_with fail
  go_ret;exact ⟨by rw[HE.out];rfl,HD.out⟩
 have hhn:(if p.cHigh - 1=0 then 1 else p.cHigh - 1)=(h:Int):=by rw[← hh];unfold mA;simp
 clear hh hv H O cl
 by_cases z:p.cHigh - 1=0
 ·rw[if_pos z] at hhn;have h1:h=1:=by omega
  subst h1;have z1:p.cHigh=1:=by omega
  rw[z1] at h2;clear z hhn z1;have hle2:(1:Int)≤p.s.size:=by omega
  go_enter Tryz.func137,Tryz.ntmps137;go_wp2_with fail
  (with_reducible refine (jK HH.out _).mono ?_)
  rintro e w' ⟨rfl,rfl⟩;go_wp2_with fail
  go_ret;exact ⟨by rw[HE.out];rfl,Below.refl _ _⟩
 rw[if_neg z] at hhn;have z1:p.cHigh=(h:Int)+1:=by omega
 rw[z1] at h2;have z2:((h:Int)==0)=false:=beq_eq_false_iff_ne.2 bA;have hle2:(h:Int)≤p.s.size:=by omega
 clear z hhn z1;go_enter Tryz.func137,Tryz.ntmps137;go_wp2_with fail
 (with_reducible refine (jK HH.out _).mono ?_)
 rintro e w' ⟨rfl,rfl⟩;go_wp2_with fail
 go_ret;exact ⟨by rw[HE.out];rfl,Below.refl _ _⟩
theorem aIq (H:eK w B b p vk vu vl u) (O:iN p) (bun:Bool) (k0:Int×Int) (hk0:p.known[0]? = some k0) (hk:2≤p.known.length) :
 Calls Tryz.prog 137 #[.pointer (some ⟨b,0,none⟩),.bool true,.bool bun] w fun e w'=>e = .returned (.string (nrm p.trim (sub p.s 0 (mA p bun)++sub p.s (k0.1 - 1) k0.2)))∧Below w.heap.size w w':=by
 have h0:=H.row.at 0 _ rfl;have h2:=H.row.at 2 _ rfl;have h6:=H.row.at 6 _ rfl;obtain ⟨q1,q2,q3⟩:=O.kn k0 (List.mem_of_getElem? hk0);obtain ⟨lo,hlo⟩:=Int.eq_ofNat_of_zero_le (show 0≤k0.1 by omega);obtain ⟨hi,hhi⟩:=Int.eq_ofNat_of_zero_le (show 0≤k0.2 by omega);obtain ⟨g,cp,hv,k1,k2⟩:=H.knownAt 0 k0 hk0;rw[hv] at h6;rw[hlo] at k1 q1 q2;rw[hhi] at k2 q2 q3;have hb:=H.lt;have hg:g < w.heap.size:=World.block_lt_of_cell? w ⟨g,0 * 2,none⟩ k1;have k1' : w.cell? ⟨g,0,none⟩=some (.int .i64 lo):=k1;have k2' : w.cell? ⟨g,1,none⟩=some (.int .i64 hi):=k2;obtain ⟨h,hh,hle⟩:=aDi O bun;have o1:=O.sz;have hlow:((lo - 1:Nat):Int)=(lo:Int) - 1:=by omega
 have HE:=cB (show sub p.s 0 (mA p bun)++sub p.s (k0.1 - 1) k0.2=p.s.extract 0 h++p.s.extract (lo - 1) hi by rw[hh,hlo,hhi,← hlow];rfl);have hlen:((p.known.length:Int)==0)=false:=beq_eq_false_iff_ne.2 bA;have hlen1:((p.known.length:Int)==1)=false:=beq_eq_false_iff_ne.2 bA;have hlen0:0 < p.known.length:=by omega
 have hyc:IntKind.i64.wrap ((lo:Int) - 1)=((lo - 1:Nat):Int):=by rw[IntWalk.i64_in _ bA];omega
 have r1:((lo - 1:Nat):Int)≤(hi:Int):=by omega
 have hsum:(p.s.extract 0 h).size+(p.s.extract (lo - 1) hi).size≤9223372036854775807:=by
  have l1:=iX p.s 0 h;have l2:=iX p.s (lo - 1) hi;omega
 obtain ⟨o2,o3⟩:=O.ch;obtain ⟨o4,o5,o6⟩:=O.na;have hf:∀ (m n:Int) (W:World),(Instr.field 92 (.agg #[.int .i64 m,.int .i64 n]) 1).run Tryz.prog W = .ok (.int .i64 n) W:=fun _ _ _=>by kernel_rfl
 have HH:=cB H;have cl:=pL H;cases bun
 ·have hhn:(if p.nHigh=0 then 1 else p.nHigh)=(h:Int):=by rw[← hh];unfold mA;simp
  clear hh hv H O h2 hlow k1 k2 hk0
  by_cases z:p.nHigh=0
  ·rw[if_pos z] at hhn;have h1:h=1:=by omega
   subst h1;rw[z] at cl;clear z hhn;have hle2:(1:Int)≤p.s.size:=by omega
   go_enter Tryz.func137,Tryz.ntmps137;go_wp2_with fail
   (with_reducible refine cl.mono ?_)
   rintro e w1 ⟨rfl,hd⟩;have HD:=cB hd;have h0:=(HH.out.below hd).row.at 0 _ rfl;have h6:=(hd.cell (p:=⟨b,6,none⟩) hb).trans h6;have k1:=(hd.cell (p:=⟨g,0,none⟩) hg).trans k1';have k2:=(hd.cell (p:=⟨g,1,none⟩) hg).trans k2';have hb1:=(HH.out.below hd).lt;have hg1:g < w1.heap.size:=Nat.lt_of_lt_of_le hg hd.size;clear hd;go_wp2_with fail
   go_quiet ((go_at_call 141;exact Calls.quiet_of_same (jK (((HH.out.below HD.out).alloc _).drewN _) _)))
   go_wp2_with fail
   go_ret;exact ⟨by rw[HE.out];rfl,eD (HD.out.alloc HD.out.size _) (fA.below ⟨⟨_,rfl⟩⟩)⟩
  rw[if_neg z] at hhn;rw[hhn] at cl z;clear hhn;have z2:((h:Int)==0)=false:=beq_eq_false_iff_ne.2 z;have hle2:(h:Int)≤p.s.size:=by omega
  clear z;go_enter Tryz.func137,Tryz.ntmps137;go_wp2_with fail
  (with_reducible refine cl.mono ?_)
  rintro e w1 ⟨rfl,hd⟩;have HD:=cB hd;have h0:=(HH.out.below hd).row.at 0 _ rfl;have h6:=(hd.cell (p:=⟨b,6,none⟩) hb).trans h6;have k1:=(hd.cell (p:=⟨g,0,none⟩) hg).trans k1';have k2:=(hd.cell (p:=⟨g,1,none⟩) hg).trans k2';have hb1:=(HH.out.below hd).lt;have hg1:g < w1.heap.size:=Nat.lt_of_lt_of_le hg hd.size;clear hd;go_wp2_with fail
  go_quiet ((go_at_call 141;exact Calls.quiet_of_same (jK (((HH.out.below HD.out).alloc _).drewN _) _)))
  go_wp2_with fail
  go_ret;exact ⟨by rw[HE.out];rfl,eD (HD.out.alloc HD.out.size _) (fA.below ⟨⟨_,rfl⟩⟩)⟩
 have hhn:(if p.cHigh - 1=0 then 1 else p.cHigh - 1)=(h:Int):=by rw[← hh];unfold mA;simp
 clear hh hv H O cl hlow k1 k2 hk0
 by_cases z:p.cHigh - 1=0
 ·rw[if_pos z] at hhn;have h1:h=1:=by omega
  subst h1;have z1:p.cHigh=1:=by omega
  rw[z1] at h2;clear z hhn z1;have hle2:(1:Int)≤p.s.size:=by omega
  go_enter Tryz.func137,Tryz.ntmps137;go_wp2_with fail
  go_quiet ((go_at_call 141;exact Calls.quiet_of_same (jK ((HH.out.alloc _).drewN _) _)))
  go_wp2_with fail
  go_ret;exact ⟨by rw[HE.out];rfl,eD ((Below.refl _ _).alloc (Nat.le_refl _) _) (fA.below ⟨⟨_,rfl⟩⟩)⟩
 rw[if_neg z] at hhn;have z1:p.cHigh=(h:Int)+1:=by omega
 rw[z1] at h2;have z2:((h:Int)==0)=false:=beq_eq_false_iff_ne.2 bA;have hle2:(h:Int)≤p.s.size:=by omega
 clear z hhn z1;go_enter Tryz.func137,Tryz.ntmps137;go_wp2_with fail
 go_quiet ((go_at_call 141;exact Calls.quiet_of_same (jK ((HH.out.alloc _).drewN _) _)))
 go_wp2_with fail
 go_ret;exact ⟨by rw[HE.out];rfl,eD ((Below.refl _ _).alloc (Nat.le_refl _) _) (fA.below ⟨⟨_,rfl⟩⟩)⟩
theorem uS (H:eK w B b p vk vu vl u) (O:iN p) (pres bun:Bool) :
 Calls Tryz.prog 137 #[.pointer (some ⟨b,0,none⟩),.bool pres,.bool bun] w fun e w'=>e = .returned (.string (jV p pres bun))∧Below w.heap.size w w':=by
 cases hk:p.known with
 | nil =>
  have e:jV p pres bun=nrm p.trim p.s:=by unfold jV;rw[hk]
  rw[e];exact zZ H pres bun (.inl hk)
 | cons k0 r =>
  by_cases c:pres=true∧r=[]
  ·have e:jV p pres bun=nrm p.trim p.s:=by unfold jV;rw[hk];simp only[if_pos c]
   rw[e];exact zZ H pres bun (.inr ⟨c.1,by rw[hk,c.2];rfl⟩)
  cases pres with
  | false =>
   have e:jV p false bun=nrm p.trim (sub p.s 0 (mA p bun)):=by unfold jV;rw[hk];simp
   rw[e];exact aIp H O bun (by rw[hk];simp)
  | true =>
   have hr:r≠[]:=fun h=>c ⟨rfl,h⟩;have e:jV p true bun=nrm p.trim (sub p.s 0 (mA p bun)++sub p.s (k0.1 - 1) k0.2):=by unfold jV;rw[hk];simp[hr]
   rw[e];exact aIq H O bun k0 (by rw[hk];rfl) (by rw[hk];have:=List.length_pos_iff.2 hr;simp;omega)
def vB (p:eH):ByteArray :=
 if (jV p (!decide (2≤p.typ∧p.typ≤5)) (decide (3≤p.typ∧p.typ≤5))).toList=[47]∧(2≤p.typ∧p.typ≤5) then ByteArray.empty else jV p (!decide (2≤p.typ∧p.typ≤5)) (decide (3≤p.typ∧p.typ≤5))
theorem zP (H:eK w B b p vk vu vl u) (O:iN p):Calls Tryz.prog 79 #[.pointer (some ⟨b,0,none⟩)] w fun e w'=>e = .returned (.string (vB p))∧Below w.heap.size w w':=by
 have c1:=mC H;have c2:=oZ H;unfold vB
 obtain ⟨pg,hpg⟩:∃ x,decide (2≤p.typ∧p.typ≤5)=x:=⟨_,rfl⟩
 obtain ⟨bn,hbn⟩:∃ x,decide (3≤p.typ∧p.typ≤5)=x:=⟨_,rfl⟩
 rw[hpg,hbn];rw[hpg] at c1;rw[hbn] at c2;have c3:=uS H O (!pg) bn
 obtain ⟨s,hs⟩:∃ s,jV p (!pg) bn=s:=⟨_,rfl⟩
 rw[hs] at c3 ⊢;have HH:=cB H;clear hs hbn H O;have hpg':=hpg
 by_cases q:s.toList=[47]
 ·have qb:(s.toList==[47])=true:=beq_iff_eq.2 q
  cases pg with
  | true =>
   simp only[Bool.not_true] at c3;rw[if_pos ⟨q,of_decide_eq_true hpg⟩];clear q hpg;go_enter Tryz.func79,Tryz.ntmps79;go_wp2_with fail
   (with_reducible refine c1.mono ?_)
   rintro e w' ⟨rfl,rfl⟩;go_wp2_with fail
   (with_reducible refine c2.mono ?_)
   rintro e w' ⟨rfl,rfl⟩;go_wp2_with fail
   (with_reducible refine c3.mono ?_)
   rintro e w' ⟨rfl,hd⟩;have c4:=mC (HH.out.below hd);rw[hpg'] at c4;have HD:=cB hd;clear hd hpg';go_wp2_with fail
   (with_reducible refine c4.mono ?_)
   rintro e w' ⟨rfl,rfl⟩;go_wp2_with fail
   go_ret;exact ⟨rfl,HD.out⟩
  | false =>
   simp only[Bool.not_false] at c3;rw[if_neg (fun h=>of_decide_eq_false hpg h.2)];clear q hpg;go_enter Tryz.func79,Tryz.ntmps79;go_wp2_with fail
   (with_reducible refine c1.mono ?_)
   rintro e w' ⟨rfl,rfl⟩;go_wp2_with fail
   (with_reducible refine c2.mono ?_)
   rintro e w' ⟨rfl,rfl⟩;go_wp2_with fail
   (with_reducible refine c3.mono ?_)
   rintro e w' ⟨rfl,hd⟩;have c4:=mC (HH.out.below hd);rw[hpg'] at c4;have HD:=cB hd;clear hd hpg';go_wp2_with fail
   (with_reducible refine c4.mono ?_)
   rintro e w' ⟨rfl,rfl⟩;go_wp2_with fail
   go_ret;exact ⟨rfl,HD.out⟩
 have qb:(s.toList==[47])=false:=beq_eq_false_iff_ne.2 q;rw[if_neg (fun h=>q h.1)]
 cases pg with
 | true =>
  simp only[Bool.not_true] at c3;clear q hpg;go_enter Tryz.func79,Tryz.ntmps79;go_wp2_with fail
  (with_reducible refine c1.mono ?_)
  rintro e w' ⟨rfl,rfl⟩;go_wp2_with fail
  (with_reducible refine c2.mono ?_)
  rintro e w' ⟨rfl,rfl⟩;go_wp2_with fail
  (with_reducible refine c3.mono ?_)
  rintro e w' ⟨rfl,hd⟩;have c4:=mC (HH.out.below hd);rw[hpg'] at c4;have HD:=cB hd;clear hd hpg';go_wp2_with fail
  go_ret;exact ⟨rfl,HD.out⟩
 | false =>
  simp only[Bool.not_false] at c3;clear q hpg;go_enter Tryz.func79,Tryz.ntmps79;go_wp2_with fail
  (with_reducible refine c1.mono ?_)
  rintro e w' ⟨rfl,rfl⟩;go_wp2_with fail
  (with_reducible refine c2.mono ?_)
  rintro e w' ⟨rfl,rfl⟩;go_wp2_with fail
  (with_reducible refine c3.mono ?_)
  rintro e w' ⟨rfl,hd⟩;have c4:=mC (HH.out.below hd);rw[hpg'] at c4;have HD:=cB hd;clear hd hpg';go_wp2_with fail
  go_ret;exact ⟨rfl,HD.out⟩
end
section
variable {w:World} {B b:Nat} {p:eH} {vk vu vl u:Value}
theorem zR (H:eK w B b p vk vu vl u) (O:PathIn p):Calls Tryz.prog 103 #[.pointer (some ⟨b,0,none⟩)] w fun e w'=>e = .returned (.string (fD p 0))∧Below w.heap.size w w':=by
 have c:=gU H O 0;clear H O;go_enter Tryz.func103,Tryz.ntmps103;go_wp2_with fail
 (with_reducible refine c.mono ?_)
 rintro e w' ⟨rfl,hd⟩;have HD:=cB hd;clear hd;go_wp2_with fail
 go_ret;exact ⟨rfl,HD.out⟩
def nL (p:eH):ByteArray:=match p.plangs with | []=>fD p p.lang | i::_=>fD p i
def qQ (p:eH):ByteArray:=⟨(Lib.trimSuffix (Lib.trimPrefix (L (fD p p.cust)) [95]) [95]).toArray⟩
def qA (p:eH):ByteArray:=if p.plangs≠[]∨mX p p.lang≠-1 then jV p true false else nrm p.trim p.s
def sJ (p:eH):ByteArray:=if p.comp.toList=[108,97,121,111,117,116,115] then nrm p.trim p.s else vB p
end
def kA (comp:ByteArray):Bool:=comp.toList==[99,111,110,116,101,110,116]
def qT (p:eH) (comp:ByteArray) (nd:Int):Bool:=(decide (1 < nd) && p.lang == -1) && (kA comp || eR comp)
def qB (p:eH) (comp:ByteArray):Bool:=p.kind == -1 && eR comp
def lY (p:eH) (comp:ByteArray) (last:Bool):Bool:=if p.typ==7 then !last && eR comp else eR comp
def idHigh (p:eH) (ld:Nat):Nat:=if p.known=[] then p.s.size else ld
def eH.add (p:eH) (x:Int×Int):eH:={ p with known:=p.known++[x] }
def pE (p:eH) (x:Int×Int):eH:={ p with known:=p.known++[x],cust:=p.known.length }
def nM (E:Env) (lay:Bool) (p:eH) (lo hi:Nat) (sid:ByteArray):eH :=
 let pre:=iQ (sid.extract 1 (sid.size - 1))
 if pre.toList=[] then pE p ((lo:Int),(hi:Int))
 else match jI E lay p pre (((lo+1+pre.size:Nat):Int),((hi - 1:Nat):Int)) (kD (p.s.extract (lo+1+pre.size) (hi - 1))) with
  | some p'=>p'
  | none=>pE p ((lo:Int),(hi:Int))
def sU (E:Env) (lay:Bool) (p:eH) (x:Int×Int) (sid:ByteArray):eH :=
 { p with known:=p.known++[x],fmt:=if lay && E.fmt sid ⟨#[]⟩ then 0 else p.fmt }
def jS (E:Env) (p:eH) (comp:ByteArray) (nd:Int) (last:Bool) (x:Int×Int) (sid:ByteArray):eH×Bool :=
 if qT p comp nd && (E.lang sid || E.dis sid) then ({ p with known:=p.known++[x],lang:=p.known.length,dis:=p.dis || !E.lang sid },true)
 else if eR comp && E.fmt sid (fD p 0) then ({ p with known:=p.known++[x],fmt:=p.known.length },true)
 else if qB p comp && isKind sid then ({ p with known:=p.known++[x],kind:=p.known.length },true)
 else if sid.toList==[98,97,115,101,111,102] then ({ p with known:=p.known++[x],base:=p.known.length },true)
 else if lY p comp last then
  if p.lay != -1 then ({ p with known:=p.known.set p.lay.toNat x,unknown:=p.unknown++[p.known.getD p.lay.toNat (0,0)] },true)
  else ({ p with known:=p.known++[x],lay:=p.known.length },true)
 else ({ p with unknown:=p.unknown++[x] },false)
def jJ (E:Env) (p:eH) (comp:ByteArray) (lo ld:Nat) (nd:Int) (last:Bool):eH×Bool :=
 let hi:=idHigh p ld
 let sid:=p.s.extract lo hi
 if mW sid then (nM E (eR comp) p lo hi sid,true)
 else if p.known=[] then (sU E (eR comp) p ((lo:Int),(hi:Int)) sid,true)
 else jS E p comp nd last ((lo:Int),(hi:Int)) sid
def mY (r:eH×Bool) (i ld:Nat) (last:Bool):eH :=
 if r.2 then (if last then (if r.1.nEnd≤0 then { r.1 with nEnd:=ld } else r.1) else { r.1 with nEnd:=i }) else r.1
def mId (E:Env) (p:eH) (comp:ByteArray) (i ld:Nat) (nd:Int) (last:Bool):eH :=
 if p.cHigh != -1 then p else mY (jJ E p comp (i+1) ld nd last) i ld last
section
variable {E:Env} {p:eH} {comp sid:ByteArray} {nd:Int} {last:Bool} {x:Int×Int}
def NL (E:Env) (p:eH) (comp:ByteArray) (nd:Int) (sid:ByteArray):Prop:=(qT p comp nd && (E.lang sid || E.dis sid))=false
def NF (E:Env) (p:eH) (comp:ByteArray) (sid:ByteArray):Prop:=(eR comp && E.fmt sid (fD p 0))=false
def NK (p:eH) (comp:ByteArray) (sid:ByteArray):Prop:=(qB p comp && isKind sid)=false
def NB (sid:ByteArray):Prop:=(sid.toList==[98,97,115,101,111,102])=false
theorem yM (h:(qT p comp nd && (E.lang sid || E.dis sid))=true):(({ p with known:=p.known++[x],lang:=p.known.length,dis:=p.dis || !E.lang sid }:eH),true)=jS E p comp nd last x sid:=by
 unfold jS;rw[if_pos h]
theorem aGt (h1:NL E p comp nd sid) (h:(eR comp && E.fmt sid (fD p 0))=true):(({ p with known:=p.known++[x],fmt:=p.known.length }:eH),true)=jS E p comp nd last x sid:=by
 unfold jS;rw[if_neg (by rw[show _=false from h1];simp),if_pos h]
theorem aFd (h1:NL E p comp nd sid) (h2:NF E p comp sid) (h:(qB p comp && isKind sid)=true):(({ p with known:=p.known++[x],kind:=p.known.length }:eH),true)=jS E p comp nd last x sid:=by
 unfold jS;rw[if_neg (by rw[show _=false from h1];simp),if_neg (by rw[show _=false from h2];simp),if_pos h]
theorem aFc (h1:NL E p comp nd sid) (h2:NF E p comp sid) (h3:NK p comp sid) (h:(sid.toList==[98,97,115,101,111,102])=true):(({ p with known:=p.known++[x],base:=p.known.length }:eH),true)=jS E p comp nd last x sid:=by
 unfold jS;rw[if_neg (by rw[show _=false from h1];simp),if_neg (by rw[show _=false from h2];simp),if_neg (by rw[show _=false from h3];simp),if_pos h]
theorem aCe (h1:NL E p comp nd sid) (h2:NF E p comp sid) (h3:NK p comp sid) (h4:NB sid) (h:lY p comp last=true) (hl:(p.lay != -1)=false):(({ p with known:=p.known++[x],lay:=p.known.length }:eH),true)=jS E p comp nd last x sid:=by
 unfold jS;rw[if_neg (by rw[show _=false from h1];simp),if_neg (by rw[show _=false from h2];simp),if_neg (by rw[show _=false from h3];simp),if_neg (by rw[show _=false from h4];simp),if_pos h,if_neg (by rw[hl];simp)]
theorem aCf (h1:NL E p comp nd sid) (h2:NF E p comp sid) (h3:NK p comp sid) (h4:NB sid) (h:lY p comp last=true) (hl:(p.lay != -1)=true):(({ p with known:=p.known.set p.lay.toNat x,unknown:=p.unknown++[p.known.getD p.lay.toNat (0,0)] }:eH),true)=jS E p comp nd last x sid:=by
 unfold jS;rw[if_neg (by rw[show _=false from h1];simp),if_neg (by rw[show _=false from h2];simp),if_neg (by rw[show _=false from h3];simp),if_neg (by rw[show _=false from h4];simp),if_pos h,if_pos hl]
theorem aFe (h1:NL E p comp nd sid) (h2:NF E p comp sid) (h3:NK p comp sid) (h4:NB sid) (h:lY p comp last=false):(({ p with unknown:=p.unknown++[x] }:eH),false)=jS E p comp nd last x sid:=by
 unfold jS;rw[if_neg (by rw[show _=false from h1];simp),if_neg (by rw[show _=false from h2];simp),if_neg (by rw[show _=false from h3];simp),if_neg (by rw[show _=false from h4];simp),if_neg (by rw[h];simp)]
theorem yS {lo hi ld:Nat} (h1:idHigh p ld=hi) (h2:p.s.extract lo hi=sid) (hw:mW sid=false) (hk:p.known≠[]):jJ E p comp lo ld nd last=jS E p comp nd last ((lo:Int),(hi:Int)) sid:=by
 unfold jJ;rw[h1];simp only[h2,hw,if_false,hk,Bool.false_eq_true]
end
open Go.RowKit Go.ZW.PrintLast
section
variable {P:Program} {ops:Array Oper} {Q:Exit→Act→World→Prop}
theorem aHx {oi:Oper} {N:Option Tmp} {a:Act} {w:World} {K:Act→World→Prop} {f:FuncId} {fn:Func} {x:Operand} {asx:Array Operand} {ts:Array TypeId} (caps:Array Value) (hf:P.funcs[f]? = some fn) (hname:(fn.name == "runtime.NumGoroutine")=false) (hb:fn.body.isSome=true) (args:Array Value)
 (hw:Region.wanted oi (yielded ops a.tmps)=true) (hN:oi.dst=N) (hop:oi.op = .call { callee:=.value x,args:=asx,argTypes:=ts }) (hx:a.eval x = .func (.func f) #[] caps) (hargs:asx.map a.eval=args)
 (h:Calls P f (args++caps) w fun e w'=>∃ v,e = .returned v∧K (a.put N v) w'):if Region.wanted oi (yielded ops a.tmps)=true then Oper.wp P oi a w K Q else K (a.put N undef) w:=by
 refine aJs f (args++caps) hw hN ?_ h;have he:=aA6 hf hname hb (args++caps) w;unfold execOp
 simp[hop,resolve,Deferred.ofValue,invoke,hx,hargs,he]
end
theorem aBx (x:Int×Int):∀ (l:List (Int×Int)) (j:Nat),((pairs l).set (j * 2) (.int .i64 x.1)).set (j * 2+1) (.int .i64 x.2)=pairs (l.set j x)
 | [],_=>by simp[pairs]
 | _::_,0=>by simp[pairs]
 | a::r,j+1=>by
  have e:(j+1) * 2=(j * 2+1)+1:=by omega
  have e2:(j+1) * 2+1=(j * 2+1+1)+1:=by omega
  rw[e2,e];simp only[pairs,List.set_cons_succ];rw[aBx x r j]
section
variable {w:World} {B b:Nat} {p:eH} {vu vl u:Value} {g n c:Nat}
theorem aJf (H:eK w B b p (.slice (some ⟨g,0,none⟩) n c) vu vl u) (j:Nat) (x:Int×Int) :
 eK ((w.setCell ⟨g,j * 2,none⟩ (.int .i64 x.1)).setCell ⟨g,j * 2+1,none⟩ (.int .i64 x.2)) B b { p with known:=p.known.set j x } (.slice (some ⟨g,0,none⟩) n c) vu vl u ∧
  fB w ((w.setCell ⟨g,j * 2,none⟩ (.int .i64 x.1)).setCell ⟨g,j * 2+1,none⟩ (.int .i64 x.2)) b (.slice (some ⟨g,0,none⟩) n c) vu vl (.slice (some ⟨g,0,none⟩) n c) vu vl:=by
 have hn:n=p.known.length:=by obtain ⟨A,c',e⟩:=fL H.ok;injection e
 have ho:(Value.slice (some ⟨g,0,none⟩) n c).ownBlock=some g:=rfl;have hgb:g≠b:=fun e=>H.nk (by rw[ho,e]);have hok:=H.ok;rw[← hn] at hok;obtain ⟨a1,a2⟩:=hok.stored (j * 2) (.int .i64 x.1);obtain ⟨a3,a4⟩:=a1.stored (j * 2+1) (.int .i64 x.2);rw[aBx] at a3
 have hug:vu.ownBlock≠some g:=by
  rcases H.ku with h | h
  ·rw[ho] at h;cases h
  exact fun e=>h (by rw[ho,e])
 have hlg:vl.ownBlock≠some g:=by
  rcases own_type_ne H.ol H.ok bF with h | h
  ·rw[h];intro e;cases e
  rw[ho] at h;exact h
 have hl:n=(p.known.set j x).length:=by rw[List.length_set];exact hn
 refine ⟨⟨H.base,(H.row.other (a:=⟨g,j * 2,none⟩) hgb _).other (a:=⟨g,j * 2+1,none⟩) hgb _,?_,?_,?_,H.nk,H.nu,H.nl,H.ku⟩,⟨rfl,rfl,rfl,dX,?_,.inl rfl,.inl rfl,.inl rfl⟩⟩
 ·rw[hl] at a3;rw[← hl] at a3 ⊢;exact a3
 ·exact ownsRow_setCell_other (ownsRow_setCell_other H.ou (a:=⟨g,j * 2,none⟩) hug _) (a:=⟨g,j * 2+1,none⟩) hug _
 ·exact ownsRow_setCell_other (ownsRow_setCell_other H.ol (a:=⟨g,j * 2,none⟩) hlg _) (a:=⟨g,j * 2+1,none⟩) hlg _
 intro k hk _ h1 _ _;have hkg:k≠g:=fun e=>h1 (by rw[ho,e]);exact (Below.heap_setCell _ _ _ _ (by simpa using hkg)).trans (Below.heap_setCell _ _ _ _ (by simpa using hkg))
end
end Go.Proofs.YtcdgldnphhidlaaGreatDoor.Path
