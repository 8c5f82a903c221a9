/- Texts that the law leans on: Apply2, Apply3, Apply, Acc3, Acc4, Id0. Condition: as told at each. -/
import Derived.StillTailTactics
import Derived.Deep.OwnRows
import Derived.Test.YtlkoeeccebmjmaaGreatDoorUa
import Derived.Test.YtlkoeeccebmjmaaGreatDoorU3
set_option linter.unusedVariables false
set_option linter.unusedSimpArgs false
set_option maxRecDepth 100000
set_option maxHeartbeats 16000000
namespace Go.Proofs.YtlkoeeccebmjmaaGreatDoor.Path
open Go.RowKit Go.WideMaps Go.ZW.PrintWords Go.ZW.PrintLast Go.Proofs.YtlkoeeccebmjmaaGreatDoor.Base
section
variable {w0 w:World} {b:Nat} {p:eG} {vk vu vl u:Value} {pb mb sb fb:Nat} {st:fM} {sl sd sf sc:Value}
theorem aFv (S:iU w0 pb st sl sd sf sc mb sb fb) (OS:jN st) (hB:Below w0.heap.size w0 w) (H:eH w w0.heap.size b p vk vu vl u) (osz:p.s.size≤1000000) (okl:p.known.length≤1000000) (oll:p.plangs.length≤1000000) (comp:ByteArray) (lo hi:Nat) (q1:lo≤hi) (q2:hi≤p.s.size) (hasc:asc (p.s.extract lo hi)) (hc:(comp.toList==[108,97,121,111,117,116,115])=true) (hd:lS st.fmts (jO (p.s.extract lo hi)) ⟨#[]⟩=true) :
 Calls Tryz.prog 165 #[.pointer (some ⟨pb,0,none⟩),.string comp,.string ⟨#[111,117,116,112,117,116,102,111,114,109,97,116,95]⟩,.pointer (some ⟨b,0,none⟩),.agg #[.int .i64 lo,.int .i64 hi]] w fun e w' =>
  e = .returned (.bool true)∧∃ vk' vl',eH w' w0.heap.size b { p with known:=p.known++[((lo:Int),(hi:Int))],pfmt:=p.known.length } vk' vu vl' u∧eZ w w' b vk vu vl vk' vu vl':=by
 have HP:=bX H;have hb:=H.lt;have HS:=bX S;have HB0:=bX hB;have hsz:(p.s.extract lo hi).size≤1000000:=Nat.le_trans (iP _ _ _) osz;have cl:=fun W=>Tryz.strings_ToLower_ascii (p.s.extract lo hi) W bA hasc
 obtain ⟨x,hx⟩:∃ x,jO (p.s.extract lo hi)=x:=⟨_,rfl⟩
 rw[show (⟨(Lib.toLowerA (p.s.extract lo hi).data.toList).toArray⟩:ByteArray)=x from hx] at cl;have hxz:x.size≤1000000:=by rw[← hx,kY];exact hsz
 have HX:=bX hx;have h0:=H.row.at 0 _ rfl;have mne:=nA mb;clear H S hB hasc hx;go_enter Tryz.func165,Tryz.ntmps165;go_upto_region 1 with fail
 have hal:Below w.heap.size w (w.alloc (.cells #[.int .i64 lo,.int .i64 hi] 78)):=(Below.refl _ _).alloc (Nat.le_refl _) _;have hR:=Row.new w [.int .i64 lo,.int .i64 hi] 78;have hs1:w.heap.size < (w.alloc (.cells #[.int .i64 lo,.int .i64 hi] 78)).heap.size:=by simp
 obtain ⟨V0,hV0⟩:∃ V0,w.alloc (.cells #[.int .i64 lo,.int .i64 hi] 78)=V0:=⟨_,rfl⟩
 replace hR:Row V0 w.heap.size [.int .i64 lo,.int .i64 hi]:=hV0▸hR;rw[hV0] at hal hs1 ⊢;clear hV0;refine wp_region_still_tail 9 bB bB ?_;change wpStill _ _ V0.drew (fun a'=>wpList _ _ _ _ a' V0.drew) _ _;replace hal:=hal.drew;replace hR:Row V0.drew w.heap.size [.int .i64 lo,.int .i64 hi]:=hR.step rfl;replace hs1:w.heap.size < V0.drew.heap.size:=hs1
 obtain ⟨V,hV⟩:∃ V,V0.drew=V:=⟨_,rfl⟩
 rw[hV] at hal hR hs1 ⊢;clear hV;have d0:V.cell? ⟨b,0,none⟩=some (.string p.s):=(hal.cell (p:=⟨b,0,none⟩) hb).trans h0;have d1:=hR.at 0 _ rfl;have d2:=hR.at 1 _ rfl;simp only[List.take_succ_cons,List.take_zero,List.drop_succ_cons,List.drop_zero]
 repeat still_step
 refine wpStill_nil ?_;have HB1:=bX hal;have HR1:=bX hR;clear hal hR d0 d1 d2 h0;go_wp2_with fail
 refine (cl V).mono ?_;rintro e w2 ⟨rfl,hb2⟩;have HB2:=bX (eB HB1.out hb2);have HR2:=bX (HR1.out.below hb2 hs1);have hs2:=Nat.lt_of_lt_of_le hs1 hb2.size;have HP2:=bX (HP.out.below HB2.out);have HS2:=bX (HS.out.below (HB0.out.trans (HB2.out.mono HB0.out.size)));have d1:=HR2.out.at 0 _ rfl;have d2:=HR2.out.at 1 _ rfl;have hI:=bX (HP.out.new_ne (Nat.le_refl _));clear hb2 cl;have s2:=HS2.out.row.at 2 _ rfl;have fne:=aAa (.func 64) #[] #[.pointer (some ⟨sb,0,none⟩)];have cd:=oL HS2.out.site OS x ⟨#[]⟩;rw[HX.out] at hd;rw[hd] at cd;clear hd;go_wp2_with fail
 refine cd.mono ?_;rintro e w3 ⟨rfl,hb3⟩;clear cd;have HP3:=bX (HP2.out.below hb3);have HB3:=bX (eB HB2.out hb3);replace d1:=(hb3.cell (p:=⟨w.heap.size,0,none⟩) hs2).trans d1;replace d2:=(hb3.cell (p:=⟨w.heap.size,1,none⟩) hs2).trans d2;clear hb3;go_upto_region 18 with fail
 have qa_0:=HP3.out.row.at 6 _ rfl;have qa_f:=HP3.out.row.free 6 bI;have qa_b:=HP3.out.lt;have qa_B:w0.heap.size≤w3.heap.size:=Nat.le_trans HP3.out.base (Nat.le_of_lt qa_b);have qa_n:=bX HP3.out.nk;have qa_o:=bX HP3.out.ok;refine hZ (n:=11) (S:=fun w'=>w'.cell? ⟨b,6,none⟩=some vk∧w'.cell? ⟨w.heap.size,0,none⟩=some (.int .i64 lo)∧w'.cell? ⟨w.heap.size,1,none⟩=some (.int .i64 hi)) (ds:=[10]) _ bB rfl rfl ⟨qa_0,d1,d2⟩ (fun hHeld=>?_);refine sA1 0 (some 125) sB1 ?_
 refine sA1 1 (some 126) sB1 ?_
 refine sA1 2 (some 127) sB1 ?_
 refine sA1 3 (some 128) sB1 ?_
 refine sC1 4 (some 129) sD1 ?_
 refine sC1 5 (some 130) sD1 ?_
 refine sF1 6 (some 131) sG1 (fun K hK=>?_);refine gV (w1:=?_) (v:=?_) bJ rfl ?_ ?_;rotate_left 2
 ·go_simp;constructor
  ·rfl
  rfl
 have aa_h:Below w3.heap.size w3 (w3.drew.alloc (.cells ([.int .i64 lo,.int .i64 hi]:List Value).toArray 78)):=(Below.refl _ _).drew.alloc (Nat.le_refl _) _;refine hK.out _ _ ⟨((aa_h.cell (p:=⟨b,6,none⟩) (World.block_lt_of_cell? w3 ⟨b,6,none⟩ qa_0)).trans qa_0),((aa_h.cell (p:=⟨w.heap.size,0,none⟩) (World.block_lt_of_cell? w3 ⟨w.heap.size,0,none⟩ d1)).trans d1),((aa_h.cell (p:=⟨w.heap.size,1,none⟩) (World.block_lt_of_cell? w3 ⟨w.heap.size,1,none⟩ d2)).trans d2)⟩ (fun hHeld=>?_);clear hK K;refine eM sJ1 ?_
 refine sF1 7 (some 132) sG1 (fun K hK=>?_);refine gH (w0:=w3) (W:=w3.drew) w0.heap.size bJ (.tmp 129) (.tmp 131) 75 78 _ 2 16 bJ Tryz.underlying75 mH rfl bG bG vk p.known.length (pairs p.known) [.int .i64 lo,.int .i64 hi] bJ bJ bJ bM qa_o.out ((Below.refl _ _).drew) qa_B bA ?_;intro va war oa bba ga ta;obtain ⟨Aa,ca,eva⟩:=fP oa;subst eva;have xa_0:=ga.cell (w:=w3.drew) (a:=⟨b,6,none⟩) qa_0 qa_n.out;have xa_f:=(World.frozen?_of_block (w:=w3.drew) (a:=⟨b,6,none⟩) (ga.block b qa_b qa_n.out)).trans qa_f;have xa_1:=ga.cell (w:=w3.drew) (a:=⟨w.heap.size,0,none⟩) d1 hI.out.2.1
 have xa_2:=ga.cell (w:=w3.drew) (a:=⟨w.heap.size,1,none⟩) d2 hI.out.2.1
 have gga:w3.grownBy war vk.ownBlock:=⟨ga.os,ga.tape,ga.output,ga.size,ga.block⟩
 obtain ⟨hpa,hma⟩:=kG HP3.out (lo,hi) (w':=war) oa gga ta;have HPa:=bX hpa;have HMa:=bX hma;clear hpa hma oa bba ga gga ta;refine hK.out _ _ ⟨xa_0,xa_1,xa_2⟩ (fun hHeld=>?_);clear hK K;refine eM sJ1 ?_
 refine sA1 8 (some 133) sB1 ?_
 refine sA1 9 (some 134) sB1 ?_
 refine sH1 10 none sI1 (fun K hK=>?_);refine iQ (w1:=?_) bJ rfl ?_ ?_;rotate_left
 ·go_simp;rfl
 refine hK.out _ _ ?_;clear hK K;refine iL bB ?_;clear d1 d2 xa_0 xa_f xa_1 xa_2 qa_0 qa_f qa_b qa_B qa_n qa_o aa_h
 obtain ⟨Wa,hWa⟩:∃ W,war.setCell ⟨b,6,none⟩ (.slice Aa (p.known.length+1) ca)=W:=⟨_,rfl⟩
 replace HPa:Aside0 (eH Wa w0.heap.size b { p with known:=p.known++[((lo:Int),(hi:Int))] } (.slice Aa (p.known.length+1) ca) vu vl u):=hWa▸HPa;replace HMa:Aside0 (eZ w3 Wa b vk vu vl (.slice Aa (p.known.length+1) ca) vu vl):=hWa▸HMa;rw[hWa];clear hWa;have z4:IntKind.i64.wrap (p.known.length:Int)=(p.known.length:Int):=by rw[IntWalk.i64_in _ bA]
 have k6:=HPa.out.row.at 6 _ rfl;have k7:=HPa.out.row.at 17 _ rfl;have k8:=HPa.out.row.free 17 bI;go_wp2_with fail
 obtain ⟨hpc,hmc⟩:=fZ HPa.out 17 (.int .i64 p.known.length) { p with known:=p.known++[((lo:Int),(hi:Int))],pfmt:=p.known.length } u rfl rfl rfl rfl bA;go_ret;exact ⟨rfl,_,_,hpc,((eZ.of_below HB3.out).trans HMa.out).trans hmc⟩
theorem aBj (S:iU w0 pb st sl sd sf sc mb sb fb) (OS:jN st) (hB:Below w0.heap.size w0 w) (H:eH w w0.heap.size b p vk vu vl u) (osz:p.s.size≤1000000) (okl:p.known.length≤1000000) (oll:p.plangs.length≤1000000) (comp:ByteArray) (lo hi:Nat) (q1:lo≤hi) (q2:hi≤p.s.size) (hasc:asc (p.s.extract lo hi)) (hc:(comp.toList==[108,97,121,111,117,116,115])=true) (hd:lS st.fmts (jO (p.s.extract lo hi)) ⟨#[]⟩=false) :
 Calls Tryz.prog 165 #[.pointer (some ⟨pb,0,none⟩),.string comp,.string ⟨#[111,117,116,112,117,116,102,111,114,109,97,116,95]⟩,.pointer (some ⟨b,0,none⟩),.agg #[.int .i64 lo,.int .i64 hi]] w fun e w' =>
  e = .returned (.bool false)∧Below w.heap.size w w':=by
 have HP:=bX H;have hb:=H.lt;have HS:=bX S;have HB0:=bX hB;have hsz:(p.s.extract lo hi).size≤1000000:=Nat.le_trans (iP _ _ _) osz;have cl:=fun W=>Tryz.strings_ToLower_ascii (p.s.extract lo hi) W bA hasc
 obtain ⟨x,hx⟩:∃ x,jO (p.s.extract lo hi)=x:=⟨_,rfl⟩
 rw[show (⟨(Lib.toLowerA (p.s.extract lo hi).data.toList).toArray⟩:ByteArray)=x from hx] at cl;have hxz:x.size≤1000000:=by rw[← hx,kY];exact hsz
 have HX:=bX hx;have h0:=H.row.at 0 _ rfl;have mne:=nA mb;clear H S hB hasc hx;go_enter Tryz.func165,Tryz.ntmps165;go_upto_region 1 with fail
 have hal:Below w.heap.size w (w.alloc (.cells #[.int .i64 lo,.int .i64 hi] 78)):=(Below.refl _ _).alloc (Nat.le_refl _) _;have hR:=Row.new w [.int .i64 lo,.int .i64 hi] 78;have hs1:w.heap.size < (w.alloc (.cells #[.int .i64 lo,.int .i64 hi] 78)).heap.size:=by simp
 obtain ⟨V0,hV0⟩:∃ V0,w.alloc (.cells #[.int .i64 lo,.int .i64 hi] 78)=V0:=⟨_,rfl⟩
 replace hR:Row V0 w.heap.size [.int .i64 lo,.int .i64 hi]:=hV0▸hR;rw[hV0] at hal hs1 ⊢;clear hV0;refine wp_region_still_tail 9 bB bB ?_;change wpStill _ _ V0.drew (fun a'=>wpList _ _ _ _ a' V0.drew) _ _;replace hal:=hal.drew;replace hR:Row V0.drew w.heap.size [.int .i64 lo,.int .i64 hi]:=hR.step rfl;replace hs1:w.heap.size < V0.drew.heap.size:=hs1
 obtain ⟨V,hV⟩:∃ V,V0.drew=V:=⟨_,rfl⟩
 rw[hV] at hal hR hs1 ⊢;clear hV;have d0:V.cell? ⟨b,0,none⟩=some (.string p.s):=(hal.cell (p:=⟨b,0,none⟩) hb).trans h0;have d1:=hR.at 0 _ rfl;have d2:=hR.at 1 _ rfl;simp only[List.take_succ_cons,List.take_zero,List.drop_succ_cons,List.drop_zero]
 repeat still_step
 refine wpStill_nil ?_;have HB1:=bX hal;have HR1:=bX hR;clear hal hR d0 d1 d2 h0;go_wp2_with fail
 refine (cl V).mono ?_;rintro e w2 ⟨rfl,hb2⟩;have HB2:=bX (eB HB1.out hb2);have HR2:=bX (HR1.out.below hb2 hs1);have hs2:=Nat.lt_of_lt_of_le hs1 hb2.size;have HP2:=bX (HP.out.below HB2.out);have HS2:=bX (HS.out.below (HB0.out.trans (HB2.out.mono HB0.out.size)));have d1:=HR2.out.at 0 _ rfl;have d2:=HR2.out.at 1 _ rfl;have hI:=bX (HP.out.new_ne (Nat.le_refl _));clear hb2 cl;have s2:=HS2.out.row.at 2 _ rfl;have fne:=aAa (.func 64) #[] #[.pointer (some ⟨sb,0,none⟩)];have cd:=oL HS2.out.site OS x ⟨#[]⟩;rw[HX.out] at hd;rw[hd] at cd;clear hd;go_wp2_with fail
 refine cd.mono ?_;rintro e w3 ⟨rfl,hb3⟩;clear cd;have HB3:=bX (eB HB2.out hb3);clear hb3;go_wp2_with fail
 go_ret;exact ⟨rfl,HB3.out⟩
theorem zD (S:iU w0 pb st sl sd sf sc mb sb fb) (OS:jN st) (hB:Below w0.heap.size w0 w) (H:eH w w0.heap.size b p vk vu vl u) (osz:p.s.size≤1000000) (okl:p.known.length≤1000000) (oll:p.plangs.length≤1000000) (comp:ByteArray) (lo hi:Nat) (q1:lo≤hi) (q2:hi≤p.s.size) (hasc:asc (p.s.extract lo hi)) (hc:(comp.toList==[108,97,121,111,117,116,115])=false) :
 Calls Tryz.prog 165 #[.pointer (some ⟨pb,0,none⟩),.string comp,.string ⟨#[111,117,116,112,117,116,102,111,114,109,97,116,95]⟩,.pointer (some ⟨b,0,none⟩),.agg #[.int .i64 lo,.int .i64 hi]] w fun e w' =>
  e = .returned (.bool false)∧Below w.heap.size w w':=by
 have HP:=bX H;have hb:=H.lt;have HS:=bX S;have HB0:=bX hB;have hsz:(p.s.extract lo hi).size≤1000000:=Nat.le_trans (iP _ _ _) osz;have cl:=fun W=>Tryz.strings_ToLower_ascii (p.s.extract lo hi) W bA hasc
 obtain ⟨x,hx⟩:∃ x,jO (p.s.extract lo hi)=x:=⟨_,rfl⟩
 rw[show (⟨(Lib.toLowerA (p.s.extract lo hi).data.toList).toArray⟩:ByteArray)=x from hx] at cl;have hxz:x.size≤1000000:=by rw[← hx,kY];exact hsz
 have HX:=bX hx;have h0:=H.row.at 0 _ rfl;have mne:=nA mb;clear H S hB hasc hx;go_enter Tryz.func165,Tryz.ntmps165;go_upto_region 1 with fail
 have hal:Below w.heap.size w (w.alloc (.cells #[.int .i64 lo,.int .i64 hi] 78)):=(Below.refl _ _).alloc (Nat.le_refl _) _;have hR:=Row.new w [.int .i64 lo,.int .i64 hi] 78;have hs1:w.heap.size < (w.alloc (.cells #[.int .i64 lo,.int .i64 hi] 78)).heap.size:=by simp
 obtain ⟨V0,hV0⟩:∃ V0,w.alloc (.cells #[.int .i64 lo,.int .i64 hi] 78)=V0:=⟨_,rfl⟩
 replace hR:Row V0 w.heap.size [.int .i64 lo,.int .i64 hi]:=hV0▸hR;rw[hV0] at hal hs1 ⊢;clear hV0;refine wp_region_still_tail 9 bB bB ?_;change wpStill _ _ V0.drew (fun a'=>wpList _ _ _ _ a' V0.drew) _ _;replace hal:=hal.drew;replace hR:Row V0.drew w.heap.size [.int .i64 lo,.int .i64 hi]:=hR.step rfl;replace hs1:w.heap.size < V0.drew.heap.size:=hs1
 obtain ⟨V,hV⟩:∃ V,V0.drew=V:=⟨_,rfl⟩
 rw[hV] at hal hR hs1 ⊢;clear hV;have d0:V.cell? ⟨b,0,none⟩=some (.string p.s):=(hal.cell (p:=⟨b,0,none⟩) hb).trans h0;have d1:=hR.at 0 _ rfl;have d2:=hR.at 1 _ rfl;simp only[List.take_succ_cons,List.take_zero,List.drop_succ_cons,List.drop_zero]
 repeat still_step
 refine wpStill_nil ?_;have HB1:=bX hal;have HR1:=bX hR;clear hal hR d0 d1 d2 h0;go_wp2_with fail
 refine (cl V).mono ?_;rintro e w2 ⟨rfl,hb2⟩;have HB2:=bX (eB HB1.out hb2);have HR2:=bX (HR1.out.below hb2 hs1);have hs2:=Nat.lt_of_lt_of_le hs1 hb2.size;have HP2:=bX (HP.out.below HB2.out);have HS2:=bX (HS.out.below (HB0.out.trans (HB2.out.mono HB0.out.size)));have d1:=HR2.out.at 0 _ rfl;have d2:=HR2.out.at 1 _ rfl;have hI:=bX (HP.out.new_ne (Nat.le_refl _));clear hb2 cl;go_wp2_with fail
 go_ret;exact ⟨rfl,HB2.out⟩
theorem aEr (S:iU w0 pb st sl sd sf sc mb sb fb) (OS:jN st) (hB:Below w0.heap.size w0 w) (H:eH w w0.heap.size b p vk vu vl u) (osz:p.s.size≤1000000) (okl:p.known.length≤1000000) (oll:p.plangs.length≤1000000) (comp:ByteArray) (lo hi:Nat) (q1:lo≤hi) (q2:hi≤p.s.size) (hasc:asc (p.s.extract lo hi)) (hc:(comp.toList==[108,97,121,111,117,116,115])=true) (hd:oM (Lib.toLowerA (L (jO (p.s.extract lo hi))))=true) :
 Calls Tryz.prog 165 #[.pointer (some ⟨pb,0,none⟩),.string comp,.string ⟨#[107,105,110,100,95]⟩,.pointer (some ⟨b,0,none⟩),.agg #[.int .i64 lo,.int .i64 hi]] w fun e w' =>
  e = .returned (.bool true)∧∃ vk' vl',eH w' w0.heap.size b { p with known:=p.known++[((lo:Int),(hi:Int))],pkind:=p.known.length } vk' vu vl' u∧eZ w w' b vk vu vl vk' vu vl':=by
 have HA:=bX hasc;have HP:=bX H;have hb:=H.lt;have HS:=bX S;have HB0:=bX hB;have hsz:(p.s.extract lo hi).size≤1000000:=Nat.le_trans (iP _ _ _) osz;have cl:=fun W=>Tryz.strings_ToLower_ascii (p.s.extract lo hi) W bA hasc
 obtain ⟨x,hx⟩:∃ x,jO (p.s.extract lo hi)=x:=⟨_,rfl⟩
 rw[show (⟨(Lib.toLowerA (p.s.extract lo hi).data.toList).toArray⟩:ByteArray)=x from hx] at cl;have hxz:x.size≤1000000:=by rw[← hx,kY];exact hsz
 have HX:=bX hx;have h0:=H.row.at 0 _ rfl;have mne:=nA mb;clear H S hB hasc hx;go_enter Tryz.func165,Tryz.ntmps165;go_upto_region 1 with fail
 have hal:Below w.heap.size w (w.alloc (.cells #[.int .i64 lo,.int .i64 hi] 78)):=(Below.refl _ _).alloc (Nat.le_refl _) _;have hR:=Row.new w [.int .i64 lo,.int .i64 hi] 78;have hs1:w.heap.size < (w.alloc (.cells #[.int .i64 lo,.int .i64 hi] 78)).heap.size:=by simp
 obtain ⟨V0,hV0⟩:∃ V0,w.alloc (.cells #[.int .i64 lo,.int .i64 hi] 78)=V0:=⟨_,rfl⟩
 replace hR:Row V0 w.heap.size [.int .i64 lo,.int .i64 hi]:=hV0▸hR;rw[hV0] at hal hs1 ⊢;clear hV0;refine wp_region_still_tail 9 bB bB ?_;change wpStill _ _ V0.drew (fun a'=>wpList _ _ _ _ a' V0.drew) _ _;replace hal:=hal.drew;replace hR:Row V0.drew w.heap.size [.int .i64 lo,.int .i64 hi]:=hR.step rfl;replace hs1:w.heap.size < V0.drew.heap.size:=hs1
 obtain ⟨V,hV⟩:∃ V,V0.drew=V:=⟨_,rfl⟩
 rw[hV] at hal hR hs1 ⊢;clear hV;have d0:V.cell? ⟨b,0,none⟩=some (.string p.s):=(hal.cell (p:=⟨b,0,none⟩) hb).trans h0;have d1:=hR.at 0 _ rfl;have d2:=hR.at 1 _ rfl;simp only[List.take_succ_cons,List.take_zero,List.drop_succ_cons,List.drop_zero]
 repeat still_step
 refine wpStill_nil ?_;have HB1:=bX hal;have HR1:=bX hR;clear hal hR d0 d1 d2 h0;go_wp2_with fail
 refine (cl V).mono ?_;rintro e w2 ⟨rfl,hb2⟩;have HB2:=bX (eB HB1.out hb2);have HR2:=bX (HR1.out.below hb2 hs1);have hs2:=Nat.lt_of_lt_of_le hs1 hb2.size;have HP2:=bX (HP.out.below HB2.out);have HS2:=bX (HS.out.below (HB0.out.trans (HB2.out.mono HB0.out.size)));have d1:=HR2.out.at 0 _ rfl;have d2:=HR2.out.at 1 _ rfl;have hI:=bX (HP.out.new_ne (Nat.le_refl _));clear hb2 cl;have hax:∀ (j:Nat) (b:UInt8),x.data.toList[j]? = some b→b.toNat < 128:=by rw[← HX.out];exact aCd _ HA.out
 have cd:=oT x w2 hxz hax;rw[HX.out] at hd;go_wp2_with fail
 refine cd.mono ?_;rintro e w3 ⟨r,rfl,hr,hb3⟩;rw[hd] at hr;have hr2:(r.toList==[])=false:=hr;clear cd hd hr;have HP3:=bX (HP2.out.below hb3);have HB3:=bX (eB HB2.out hb3);replace d1:=(hb3.cell (p:=⟨w.heap.size,0,none⟩) hs2).trans d1;replace d2:=(hb3.cell (p:=⟨w.heap.size,1,none⟩) hs2).trans d2;clear hb3;go_upto_region 24 with fail
 have qa_0:=HP3.out.row.at 6 _ rfl;have qa_f:=HP3.out.row.free 6 bI;have qa_b:=HP3.out.lt;have qa_B:w0.heap.size≤w3.heap.size:=Nat.le_trans HP3.out.base (Nat.le_of_lt qa_b);have qa_n:=bX HP3.out.nk;have qa_o:=bX HP3.out.ok;refine hZ (n:=11) (S:=fun w'=>w'.cell? ⟨b,6,none⟩=some vk∧w'.cell? ⟨w.heap.size,0,none⟩=some (.int .i64 lo)∧w'.cell? ⟨w.heap.size,1,none⟩=some (.int .i64 hi)) (ds:=[10]) _ bB rfl rfl ⟨qa_0,d1,d2⟩ (fun hHeld=>?_);refine sA1 0 (some 151) sB1 ?_
 refine sA1 1 (some 152) sB1 ?_
 refine sA1 2 (some 153) sB1 ?_
 refine sA1 3 (some 154) sB1 ?_
 refine sC1 4 (some 155) sD1 ?_
 refine sC1 5 (some 156) sD1 ?_
 refine sF1 6 (some 157) sG1 (fun K hK=>?_);refine gV (w1:=?_) (v:=?_) bJ rfl ?_ ?_;rotate_left 2
 ·go_simp;constructor
  ·rfl
  rfl
 have aa_h:Below w3.heap.size w3 (w3.drew.alloc (.cells ([.int .i64 lo,.int .i64 hi]:List Value).toArray 78)):=(Below.refl _ _).drew.alloc (Nat.le_refl _) _;refine hK.out _ _ ⟨((aa_h.cell (p:=⟨b,6,none⟩) (World.block_lt_of_cell? w3 ⟨b,6,none⟩ qa_0)).trans qa_0),((aa_h.cell (p:=⟨w.heap.size,0,none⟩) (World.block_lt_of_cell? w3 ⟨w.heap.size,0,none⟩ d1)).trans d1),((aa_h.cell (p:=⟨w.heap.size,1,none⟩) (World.block_lt_of_cell? w3 ⟨w.heap.size,1,none⟩ d2)).trans d2)⟩ (fun hHeld=>?_);clear hK K;refine eM sJ1 ?_
 refine sF1 7 (some 158) sG1 (fun K hK=>?_);refine gH (w0:=w3) (W:=w3.drew) w0.heap.size bJ (.tmp 155) (.tmp 157) 75 78 _ 2 16 bJ Tryz.underlying75 mH rfl bG bG vk p.known.length (pairs p.known) [.int .i64 lo,.int .i64 hi] bJ bJ bJ bM qa_o.out ((Below.refl _ _).drew) qa_B bA ?_;intro va war oa bba ga ta;obtain ⟨Aa,ca,eva⟩:=fP oa;subst eva;have xa_0:=ga.cell (w:=w3.drew) (a:=⟨b,6,none⟩) qa_0 qa_n.out;have xa_f:=(World.frozen?_of_block (w:=w3.drew) (a:=⟨b,6,none⟩) (ga.block b qa_b qa_n.out)).trans qa_f;have xa_1:=ga.cell (w:=w3.drew) (a:=⟨w.heap.size,0,none⟩) d1 hI.out.2.1
 have xa_2:=ga.cell (w:=w3.drew) (a:=⟨w.heap.size,1,none⟩) d2 hI.out.2.1
 have gga:w3.grownBy war vk.ownBlock:=⟨ga.os,ga.tape,ga.output,ga.size,ga.block⟩
 obtain ⟨hpa,hma⟩:=kG HP3.out (lo,hi) (w':=war) oa gga ta;have HPa:=bX hpa;have HMa:=bX hma;clear hpa hma oa bba ga gga ta;refine hK.out _ _ ⟨xa_0,xa_1,xa_2⟩ (fun hHeld=>?_);clear hK K;refine eM sJ1 ?_
 refine sA1 8 (some 159) sB1 ?_
 refine sA1 9 (some 160) sB1 ?_
 refine sH1 10 none sI1 (fun K hK=>?_);refine iQ (w1:=?_) bJ rfl ?_ ?_;rotate_left
 ·go_simp;rfl
 refine hK.out _ _ ?_;clear hK K;refine iL bB ?_;clear d1 d2 xa_0 xa_f xa_1 xa_2 qa_0 qa_f qa_b qa_B qa_n qa_o aa_h
 obtain ⟨Wa,hWa⟩:∃ W,war.setCell ⟨b,6,none⟩ (.slice Aa (p.known.length+1) ca)=W:=⟨_,rfl⟩
 replace HPa:Aside0 (eH Wa w0.heap.size b { p with known:=p.known++[((lo:Int),(hi:Int))] } (.slice Aa (p.known.length+1) ca) vu vl u):=hWa▸HPa;replace HMa:Aside0 (eZ w3 Wa b vk vu vl (.slice Aa (p.known.length+1) ca) vu vl):=hWa▸HMa;rw[hWa];clear hWa;have z4:IntKind.i64.wrap (p.known.length:Int)=(p.known.length:Int):=by rw[IntWalk.i64_in _ bA]
 have k6:=HPa.out.row.at 6 _ rfl;have k7:=HPa.out.row.at 18 _ rfl;have k8:=HPa.out.row.free 18 bI;go_wp2_with fail
 obtain ⟨hpc,hmc⟩:=fZ HPa.out 18 (.int .i64 p.known.length) { p with known:=p.known++[((lo:Int),(hi:Int))],pkind:=p.known.length } u rfl rfl rfl rfl bA;go_ret;exact ⟨rfl,_,_,hpc,((eZ.of_below HB3.out).trans HMa.out).trans hmc⟩
theorem aAx (S:iU w0 pb st sl sd sf sc mb sb fb) (OS:jN st) (hB:Below w0.heap.size w0 w) (H:eH w w0.heap.size b p vk vu vl u) (osz:p.s.size≤1000000) (okl:p.known.length≤1000000) (oll:p.plangs.length≤1000000) (comp:ByteArray) (lo hi:Nat) (q1:lo≤hi) (q2:hi≤p.s.size) (hasc:asc (p.s.extract lo hi)) (hc:(comp.toList==[108,97,121,111,117,116,115])=true) (hd:oM (Lib.toLowerA (L (jO (p.s.extract lo hi))))=false) :
 Calls Tryz.prog 165 #[.pointer (some ⟨pb,0,none⟩),.string comp,.string ⟨#[107,105,110,100,95]⟩,.pointer (some ⟨b,0,none⟩),.agg #[.int .i64 lo,.int .i64 hi]] w fun e w' =>
  e = .returned (.bool false)∧Below w.heap.size w w':=by
 have HA:=bX hasc;have HP:=bX H;have hb:=H.lt;have HS:=bX S;have HB0:=bX hB;have hsz:(p.s.extract lo hi).size≤1000000:=Nat.le_trans (iP _ _ _) osz;have cl:=fun W=>Tryz.strings_ToLower_ascii (p.s.extract lo hi) W bA hasc
 obtain ⟨x,hx⟩:∃ x,jO (p.s.extract lo hi)=x:=⟨_,rfl⟩
 rw[show (⟨(Lib.toLowerA (p.s.extract lo hi).data.toList).toArray⟩:ByteArray)=x from hx] at cl;have hxz:x.size≤1000000:=by rw[← hx,kY];exact hsz
 have HX:=bX hx;have h0:=H.row.at 0 _ rfl;have mne:=nA mb;clear H S hB hasc hx;go_enter Tryz.func165,Tryz.ntmps165;go_upto_region 1 with fail
 have hal:Below w.heap.size w (w.alloc (.cells #[.int .i64 lo,.int .i64 hi] 78)):=(Below.refl _ _).alloc (Nat.le_refl _) _;have hR:=Row.new w [.int .i64 lo,.int .i64 hi] 78;have hs1:w.heap.size < (w.alloc (.cells #[.int .i64 lo,.int .i64 hi] 78)).heap.size:=by simp
 obtain ⟨V0,hV0⟩:∃ V0,w.alloc (.cells #[.int .i64 lo,.int .i64 hi] 78)=V0:=⟨_,rfl⟩
 replace hR:Row V0 w.heap.size [.int .i64 lo,.int .i64 hi]:=hV0▸hR;rw[hV0] at hal hs1 ⊢;clear hV0;refine wp_region_still_tail 9 bB bB ?_;change wpStill _ _ V0.drew (fun a'=>wpList _ _ _ _ a' V0.drew) _ _;replace hal:=hal.drew;replace hR:Row V0.drew w.heap.size [.int .i64 lo,.int .i64 hi]:=hR.step rfl;replace hs1:w.heap.size < V0.drew.heap.size:=hs1
 obtain ⟨V,hV⟩:∃ V,V0.drew=V:=⟨_,rfl⟩
 rw[hV] at hal hR hs1 ⊢;clear hV;have d0:V.cell? ⟨b,0,none⟩=some (.string p.s):=(hal.cell (p:=⟨b,0,none⟩) hb).trans h0;have d1:=hR.at 0 _ rfl;have d2:=hR.at 1 _ rfl;simp only[List.take_succ_cons,List.take_zero,List.drop_succ_cons,List.drop_zero]
 repeat still_step
 refine wpStill_nil ?_;have HB1:=bX hal;have HR1:=bX hR;clear hal hR d0 d1 d2 h0;go_wp2_with fail
 refine (cl V).mono ?_;rintro e w2 ⟨rfl,hb2⟩;have HB2:=bX (eB HB1.out hb2);have HR2:=bX (HR1.out.below hb2 hs1);have hs2:=Nat.lt_of_lt_of_le hs1 hb2.size;have HP2:=bX (HP.out.below HB2.out);have HS2:=bX (HS.out.below (HB0.out.trans (HB2.out.mono HB0.out.size)));have d1:=HR2.out.at 0 _ rfl;have d2:=HR2.out.at 1 _ rfl;have hI:=bX (HP.out.new_ne (Nat.le_refl _));clear hb2 cl;have hax:∀ (j:Nat) (b:UInt8),x.data.toList[j]? = some b→b.toNat < 128:=by rw[← HX.out];exact aCd _ HA.out
 have cd:=oT x w2 hxz hax;rw[HX.out] at hd;go_wp2_with fail
 refine cd.mono ?_;rintro e w3 ⟨r,rfl,hr,hb3⟩;rw[hd] at hr;have hr2:(r.toList==[])=true:=hr;clear cd hd hr;have HB3:=bX (eB HB2.out hb3);clear hb3;go_wp2_with fail
 go_ret;exact ⟨rfl,HB3.out⟩
theorem xY (S:iU w0 pb st sl sd sf sc mb sb fb) (OS:jN st) (hB:Below w0.heap.size w0 w) (H:eH w w0.heap.size b p vk vu vl u) (osz:p.s.size≤1000000) (okl:p.known.length≤1000000) (oll:p.plangs.length≤1000000) (comp:ByteArray) (lo hi:Nat) (q1:lo≤hi) (q2:hi≤p.s.size) (hasc:asc (p.s.extract lo hi)) (hc:(comp.toList==[108,97,121,111,117,116,115])=false) :
 Calls Tryz.prog 165 #[.pointer (some ⟨pb,0,none⟩),.string comp,.string ⟨#[107,105,110,100,95]⟩,.pointer (some ⟨b,0,none⟩),.agg #[.int .i64 lo,.int .i64 hi]] w fun e w' =>
  e = .returned (.bool false)∧Below w.heap.size w w':=by
 have HP:=bX H;have hb:=H.lt;have HS:=bX S;have HB0:=bX hB;have hsz:(p.s.extract lo hi).size≤1000000:=Nat.le_trans (iP _ _ _) osz;have cl:=fun W=>Tryz.strings_ToLower_ascii (p.s.extract lo hi) W bA hasc
 obtain ⟨x,hx⟩:∃ x,jO (p.s.extract lo hi)=x:=⟨_,rfl⟩
 rw[show (⟨(Lib.toLowerA (p.s.extract lo hi).data.toList).toArray⟩:ByteArray)=x from hx] at cl;have hxz:x.size≤1000000:=by rw[← hx,kY];exact hsz
 have HX:=bX hx;have h0:=H.row.at 0 _ rfl;have mne:=nA mb;clear H S hB hasc hx;go_enter Tryz.func165,Tryz.ntmps165;go_upto_region 1 with fail
 have hal:Below w.heap.size w (w.alloc (.cells #[.int .i64 lo,.int .i64 hi] 78)):=(Below.refl _ _).alloc (Nat.le_refl _) _;have hR:=Row.new w [.int .i64 lo,.int .i64 hi] 78;have hs1:w.heap.size < (w.alloc (.cells #[.int .i64 lo,.int .i64 hi] 78)).heap.size:=by simp
 obtain ⟨V0,hV0⟩:∃ V0,w.alloc (.cells #[.int .i64 lo,.int .i64 hi] 78)=V0:=⟨_,rfl⟩
 replace hR:Row V0 w.heap.size [.int .i64 lo,.int .i64 hi]:=hV0▸hR;rw[hV0] at hal hs1 ⊢;clear hV0;refine wp_region_still_tail 9 bB bB ?_;change wpStill _ _ V0.drew (fun a'=>wpList _ _ _ _ a' V0.drew) _ _;replace hal:=hal.drew;replace hR:Row V0.drew w.heap.size [.int .i64 lo,.int .i64 hi]:=hR.step rfl;replace hs1:w.heap.size < V0.drew.heap.size:=hs1
 obtain ⟨V,hV⟩:∃ V,V0.drew=V:=⟨_,rfl⟩
 rw[hV] at hal hR hs1 ⊢;clear hV;have d0:V.cell? ⟨b,0,none⟩=some (.string p.s):=(hal.cell (p:=⟨b,0,none⟩) hb).trans h0;have d1:=hR.at 0 _ rfl;have d2:=hR.at 1 _ rfl;simp only[List.take_succ_cons,List.take_zero,List.drop_succ_cons,List.drop_zero]
 repeat still_step
 refine wpStill_nil ?_;have HB1:=bX hal;have HR1:=bX hR;clear hal hR d0 d1 d2 h0;go_wp2_with fail
 refine (cl V).mono ?_;rintro e w2 ⟨rfl,hb2⟩;have HB2:=bX (eB HB1.out hb2);have HR2:=bX (HR1.out.below hb2 hs1);have hs2:=Nat.lt_of_lt_of_le hs1 hb2.size;have HP2:=bX (HP.out.below HB2.out);have HS2:=bX (HS.out.below (HB0.out.trans (HB2.out.mono HB0.out.size)));have d1:=HR2.out.at 0 _ rfl;have d2:=HR2.out.at 1 _ rfl;have hI:=bX (HP.out.new_ne (Nat.le_refl _));clear hb2 cl;go_wp2_with fail
 go_ret;exact ⟨rfl,HB2.out⟩
end
section
variable {w0 w:World} {b:Nat} {p:eG} {vk vu vl u:Value} {pb mb sb fb:Nat} {st:fM} {sl sd sf sc:Value}
theorem aBk (S:iU w0 pb st sl sd sf sc mb sb fb) (OS:jN st) (hB:Below w0.heap.size w0 w) (H:eH w w0.heap.size b p vk vu vl u) (osz:p.s.size≤1000000) (okl:p.known.length≤1000000) (oll:p.plangs.length≤1000000) (comp:ByteArray) (lo hi:Nat) (q1:lo≤hi) (q2:hi≤p.s.size) (hasc:asc (p.s.extract lo hi)) (hc:(comp.toList==[108,97,121,111,117,116,115])=true) :
 Calls Tryz.prog 165 #[.pointer (some ⟨pb,0,none⟩),.string comp,.string ⟨#[108,97,121,111,117,116,95]⟩,.pointer (some ⟨b,0,none⟩),.agg #[.int .i64 lo,.int .i64 hi]] w fun e w' =>
  e = .returned (.bool true)∧∃ vk' vl',eH w' w0.heap.size b { p with known:=p.known++[((lo:Int),(hi:Int))],play:=p.known.length } vk' vu vl' u∧eZ w w' b vk vu vl vk' vu vl':=by
 have HP:=bX H;have hb:=H.lt;have HS:=bX S;have HB0:=bX hB;have hsz:(p.s.extract lo hi).size≤1000000:=Nat.le_trans (iP _ _ _) osz;have cl:=fun W=>Tryz.strings_ToLower_ascii (p.s.extract lo hi) W bA hasc
 obtain ⟨x,hx⟩:∃ x,jO (p.s.extract lo hi)=x:=⟨_,rfl⟩
 rw[show (⟨(Lib.toLowerA (p.s.extract lo hi).data.toList).toArray⟩:ByteArray)=x from hx] at cl;have hxz:x.size≤1000000:=by rw[← hx,kY];exact hsz
 have HX:=bX hx;have h0:=H.row.at 0 _ rfl;have mne:=nA mb;clear H S hB hasc hx;go_enter Tryz.func165,Tryz.ntmps165;go_upto_region 1 with fail
 have hal:Below w.heap.size w (w.alloc (.cells #[.int .i64 lo,.int .i64 hi] 78)):=(Below.refl _ _).alloc (Nat.le_refl _) _;have hR:=Row.new w [.int .i64 lo,.int .i64 hi] 78;have hs1:w.heap.size < (w.alloc (.cells #[.int .i64 lo,.int .i64 hi] 78)).heap.size:=by simp
 obtain ⟨V0,hV0⟩:∃ V0,w.alloc (.cells #[.int .i64 lo,.int .i64 hi] 78)=V0:=⟨_,rfl⟩
 replace hR:Row V0 w.heap.size [.int .i64 lo,.int .i64 hi]:=hV0▸hR;rw[hV0] at hal hs1 ⊢;clear hV0;refine wp_region_still_tail 9 bB bB ?_;change wpStill _ _ V0.drew (fun a'=>wpList _ _ _ _ a' V0.drew) _ _;replace hal:=hal.drew;replace hR:Row V0.drew w.heap.size [.int .i64 lo,.int .i64 hi]:=hR.step rfl;replace hs1:w.heap.size < V0.drew.heap.size:=hs1
 obtain ⟨V,hV⟩:∃ V,V0.drew=V:=⟨_,rfl⟩
 rw[hV] at hal hR hs1 ⊢;clear hV;have d0:V.cell? ⟨b,0,none⟩=some (.string p.s):=(hal.cell (p:=⟨b,0,none⟩) hb).trans h0;have d1:=hR.at 0 _ rfl;have d2:=hR.at 1 _ rfl;simp only[List.take_succ_cons,List.take_zero,List.drop_succ_cons,List.drop_zero]
 repeat still_step
 refine wpStill_nil ?_;have HB1:=bX hal;have HR1:=bX hR;clear hal hR d0 d1 d2 h0;go_wp2_with fail
 refine (cl V).mono ?_;rintro e w2 ⟨rfl,hb2⟩;have HB2:=bX (eB HB1.out hb2);have HR2:=bX (HR1.out.below hb2 hs1);have hs2:=Nat.lt_of_lt_of_le hs1 hb2.size;have HP2:=bX (HP.out.below HB2.out);have HS2:=bX (HS.out.below (HB0.out.trans (HB2.out.mono HB0.out.size)));have d1:=HR2.out.at 0 _ rfl;have d2:=HR2.out.at 1 _ rfl;have hI:=bX (HP.out.new_ne (Nat.le_refl _));clear hb2 cl;go_upto_region 29 with fail
 have qa_0:=HP2.out.row.at 6 _ rfl;have qa_f:=HP2.out.row.free 6 bI;have qa_b:=HP2.out.lt;have qa_B:w0.heap.size≤w2.heap.size:=Nat.le_trans HP2.out.base (Nat.le_of_lt qa_b);have qa_n:=bX HP2.out.nk;have qa_o:=bX HP2.out.ok;refine hZ (n:=11) (S:=fun w'=>w'.cell? ⟨b,6,none⟩=some vk∧w'.cell? ⟨w.heap.size,0,none⟩=some (.int .i64 lo)∧w'.cell? ⟨w.heap.size,1,none⟩=some (.int .i64 hi)) (ds:=[10]) _ bB rfl rfl ⟨qa_0,d1,d2⟩ (fun hHeld=>?_);refine sA1 0 (some 174) sB1 ?_
 refine sA1 1 (some 175) sB1 ?_
 refine sA1 2 (some 176) sB1 ?_
 refine sA1 3 (some 177) sB1 ?_
 refine sC1 4 (some 178) sD1 ?_
 refine sC1 5 (some 179) sD1 ?_
 refine sF1 6 (some 180) sG1 (fun K hK=>?_);refine gV (w1:=?_) (v:=?_) bJ rfl ?_ ?_;rotate_left 2
 ·go_simp;constructor
  ·rfl
  rfl
 have aa_h:Below w2.heap.size w2 (w2.drew.alloc (.cells ([.int .i64 lo,.int .i64 hi]:List Value).toArray 78)):=(Below.refl _ _).drew.alloc (Nat.le_refl _) _;refine hK.out _ _ ⟨((aa_h.cell (p:=⟨b,6,none⟩) (World.block_lt_of_cell? w2 ⟨b,6,none⟩ qa_0)).trans qa_0),((aa_h.cell (p:=⟨w.heap.size,0,none⟩) (World.block_lt_of_cell? w2 ⟨w.heap.size,0,none⟩ d1)).trans d1),((aa_h.cell (p:=⟨w.heap.size,1,none⟩) (World.block_lt_of_cell? w2 ⟨w.heap.size,1,none⟩ d2)).trans d2)⟩ (fun hHeld=>?_);clear hK K;refine eM sJ1 ?_
 refine sF1 7 (some 181) sG1 (fun K hK=>?_);refine gH (w0:=w2) (W:=w2.drew) w0.heap.size bJ (.tmp 178) (.tmp 180) 75 78 _ 2 16 bJ Tryz.underlying75 mH rfl bG bG vk p.known.length (pairs p.known) [.int .i64 lo,.int .i64 hi] bJ bJ bJ bM qa_o.out ((Below.refl _ _).drew) qa_B bA ?_;intro va war oa bba ga ta;obtain ⟨Aa,ca,eva⟩:=fP oa;subst eva;have xa_0:=ga.cell (w:=w2.drew) (a:=⟨b,6,none⟩) qa_0 qa_n.out;have xa_f:=(World.frozen?_of_block (w:=w2.drew) (a:=⟨b,6,none⟩) (ga.block b qa_b qa_n.out)).trans qa_f;have xa_1:=ga.cell (w:=w2.drew) (a:=⟨w.heap.size,0,none⟩) d1 hI.out.2.1
 have xa_2:=ga.cell (w:=w2.drew) (a:=⟨w.heap.size,1,none⟩) d2 hI.out.2.1
 have gga:w2.grownBy war vk.ownBlock:=⟨ga.os,ga.tape,ga.output,ga.size,ga.block⟩
 obtain ⟨hpa,hma⟩:=kG HP2.out (lo,hi) (w':=war) oa gga ta;have HPa:=bX hpa;have HMa:=bX hma;clear hpa hma oa bba ga gga ta;refine hK.out _ _ ⟨xa_0,xa_1,xa_2⟩ (fun hHeld=>?_);clear hK K;refine eM sJ1 ?_
 refine sA1 8 (some 182) sB1 ?_
 refine sA1 9 (some 183) sB1 ?_
 refine sH1 10 none sI1 (fun K hK=>?_);refine iQ (w1:=?_) bJ rfl ?_ ?_;rotate_left
 ·go_simp;rfl
 refine hK.out _ _ ?_;clear hK K;refine iL bB ?_;clear d1 d2 xa_0 xa_f xa_1 xa_2 qa_0 qa_f qa_b qa_B qa_n qa_o aa_h
 obtain ⟨Wa,hWa⟩:∃ W,war.setCell ⟨b,6,none⟩ (.slice Aa (p.known.length+1) ca)=W:=⟨_,rfl⟩
 replace HPa:Aside0 (eH Wa w0.heap.size b { p with known:=p.known++[((lo:Int),(hi:Int))] } (.slice Aa (p.known.length+1) ca) vu vl u):=hWa▸HPa;replace HMa:Aside0 (eZ w2 Wa b vk vu vl (.slice Aa (p.known.length+1) ca) vu vl):=hWa▸HMa;rw[hWa];clear hWa;have z4:IntKind.i64.wrap (p.known.length:Int)=(p.known.length:Int):=by rw[IntWalk.i64_in _ bA]
 have k6:=HPa.out.row.at 6 _ rfl;have k7:=HPa.out.row.at 19 _ rfl;have k8:=HPa.out.row.free 19 bI;go_wp2_with fail
 obtain ⟨hpc,hmc⟩:=fZ HPa.out 19 (.int .i64 p.known.length) { p with known:=p.known++[((lo:Int),(hi:Int))],play:=p.known.length } u rfl rfl rfl rfl bA;go_ret;exact ⟨rfl,_,_,hpc,((eZ.of_below HB2.out).trans HMa.out).trans hmc⟩
theorem wI (S:iU w0 pb st sl sd sf sc mb sb fb) (OS:jN st) (hB:Below w0.heap.size w0 w) (H:eH w w0.heap.size b p vk vu vl u) (osz:p.s.size≤1000000) (okl:p.known.length≤1000000) (oll:p.plangs.length≤1000000) (comp:ByteArray) (lo hi:Nat) (q1:lo≤hi) (q2:hi≤p.s.size) (hasc:asc (p.s.extract lo hi)) (hc:(comp.toList==[108,97,121,111,117,116,115])=false) :
 Calls Tryz.prog 165 #[.pointer (some ⟨pb,0,none⟩),.string comp,.string ⟨#[108,97,121,111,117,116,95]⟩,.pointer (some ⟨b,0,none⟩),.agg #[.int .i64 lo,.int .i64 hi]] w fun e w' =>
  e = .returned (.bool false)∧Below w.heap.size w w':=by
 have HP:=bX H;have hb:=H.lt;have HS:=bX S;have HB0:=bX hB;have hsz:(p.s.extract lo hi).size≤1000000:=Nat.le_trans (iP _ _ _) osz;have cl:=fun W=>Tryz.strings_ToLower_ascii (p.s.extract lo hi) W bA hasc
 obtain ⟨x,hx⟩:∃ x,jO (p.s.extract lo hi)=x:=⟨_,rfl⟩
 rw[show (⟨(Lib.toLowerA (p.s.extract lo hi).data.toList).toArray⟩:ByteArray)=x from hx] at cl;have hxz:x.size≤1000000:=by rw[← hx,kY];exact hsz
 have HX:=bX hx;have h0:=H.row.at 0 _ rfl;have mne:=nA mb;clear H S hB hasc hx;go_enter Tryz.func165,Tryz.ntmps165;go_upto_region 1 with fail
 have hal:Below w.heap.size w (w.alloc (.cells #[.int .i64 lo,.int .i64 hi] 78)):=(Below.refl _ _).alloc (Nat.le_refl _) _;have hR:=Row.new w [.int .i64 lo,.int .i64 hi] 78;have hs1:w.heap.size < (w.alloc (.cells #[.int .i64 lo,.int .i64 hi] 78)).heap.size:=by simp
 obtain ⟨V0,hV0⟩:∃ V0,w.alloc (.cells #[.int .i64 lo,.int .i64 hi] 78)=V0:=⟨_,rfl⟩
 replace hR:Row V0 w.heap.size [.int .i64 lo,.int .i64 hi]:=hV0▸hR;rw[hV0] at hal hs1 ⊢;clear hV0;refine wp_region_still_tail 9 bB bB ?_;change wpStill _ _ V0.drew (fun a'=>wpList _ _ _ _ a' V0.drew) _ _;replace hal:=hal.drew;replace hR:Row V0.drew w.heap.size [.int .i64 lo,.int .i64 hi]:=hR.step rfl;replace hs1:w.heap.size < V0.drew.heap.size:=hs1
 obtain ⟨V,hV⟩:∃ V,V0.drew=V:=⟨_,rfl⟩
 rw[hV] at hal hR hs1 ⊢;clear hV;have d0:V.cell? ⟨b,0,none⟩=some (.string p.s):=(hal.cell (p:=⟨b,0,none⟩) hb).trans h0;have d1:=hR.at 0 _ rfl;have d2:=hR.at 1 _ rfl;simp only[List.take_succ_cons,List.take_zero,List.drop_succ_cons,List.drop_zero]
 repeat still_step
 refine wpStill_nil ?_;have HB1:=bX hal;have HR1:=bX hR;clear hal hR d0 d1 d2 h0;go_wp2_with fail
 refine (cl V).mono ?_;rintro e w2 ⟨rfl,hb2⟩;have HB2:=bX (eB HB1.out hb2);have HR2:=bX (HR1.out.below hb2 hs1);have hs2:=Nat.lt_of_lt_of_le hs1 hb2.size;have HP2:=bX (HP.out.below HB2.out);have HS2:=bX (HS.out.below (HB0.out.trans (HB2.out.mono HB0.out.size)));have d1:=HR2.out.at 0 _ rfl;have d2:=HR2.out.at 1 _ rfl;have hI:=bX (HP.out.new_ne (Nat.le_refl _));clear hb2 cl;go_wp2_with fail
 go_ret;exact ⟨rfl,HB2.out⟩
theorem aAz (S:iU w0 pb st sl sd sf sc mb sb fb) (OS:jN st) (hB:Below w0.heap.size w0 w) (H:eH w w0.heap.size b p vk vu vl u) (osz:p.s.size≤1000000) (okl:p.known.length≤1000000) (oll:p.plangs.length≤1000000) (comp:ByteArray) (lo hi:Nat) (q1:lo≤hi) (q2:hi≤p.s.size) (hasc:asc (p.s.extract lo hi))  :
 Calls Tryz.prog 165 #[.pointer (some ⟨pb,0,none⟩),.string comp,.string ⟨#[118,101,114,115,105,111,110,95]⟩,.pointer (some ⟨b,0,none⟩),.agg #[.int .i64 lo,.int .i64 hi]] w fun e w' =>
  e = .returned (.bool false)∧Below w.heap.size w w':=by
 have HP:=bX H;have hb:=H.lt;have HS:=bX S;have HB0:=bX hB;have hsz:(p.s.extract lo hi).size≤1000000:=Nat.le_trans (iP _ _ _) osz;have cl:=fun W=>Tryz.strings_ToLower_ascii (p.s.extract lo hi) W bA hasc
 obtain ⟨x,hx⟩:∃ x,jO (p.s.extract lo hi)=x:=⟨_,rfl⟩
 rw[show (⟨(Lib.toLowerA (p.s.extract lo hi).data.toList).toArray⟩:ByteArray)=x from hx] at cl;have hxz:x.size≤1000000:=by rw[← hx,kY];exact hsz
 have HX:=bX hx;have h0:=H.row.at 0 _ rfl;have mne:=nA mb;clear H S hB hasc hx;go_enter Tryz.func165,Tryz.ntmps165;go_upto_region 1 with fail
 have hal:Below w.heap.size w (w.alloc (.cells #[.int .i64 lo,.int .i64 hi] 78)):=(Below.refl _ _).alloc (Nat.le_refl _) _;have hR:=Row.new w [.int .i64 lo,.int .i64 hi] 78;have hs1:w.heap.size < (w.alloc (.cells #[.int .i64 lo,.int .i64 hi] 78)).heap.size:=by simp
 obtain ⟨V0,hV0⟩:∃ V0,w.alloc (.cells #[.int .i64 lo,.int .i64 hi] 78)=V0:=⟨_,rfl⟩
 replace hR:Row V0 w.heap.size [.int .i64 lo,.int .i64 hi]:=hV0▸hR;rw[hV0] at hal hs1 ⊢;clear hV0;refine wp_region_still_tail 9 bB bB ?_;change wpStill _ _ V0.drew (fun a'=>wpList _ _ _ _ a' V0.drew) _ _;replace hal:=hal.drew;replace hR:Row V0.drew w.heap.size [.int .i64 lo,.int .i64 hi]:=hR.step rfl;replace hs1:w.heap.size < V0.drew.heap.size:=hs1
 obtain ⟨V,hV⟩:∃ V,V0.drew=V:=⟨_,rfl⟩
 rw[hV] at hal hR hs1 ⊢;clear hV;have d0:V.cell? ⟨b,0,none⟩=some (.string p.s):=(hal.cell (p:=⟨b,0,none⟩) hb).trans h0;have d1:=hR.at 0 _ rfl;have d2:=hR.at 1 _ rfl;simp only[List.take_succ_cons,List.take_zero,List.drop_succ_cons,List.drop_zero]
 repeat still_step
 refine wpStill_nil ?_;have HB1:=bX hal;have HR1:=bX hR;clear hal hR d0 d1 d2 h0;go_wp2_with fail
 refine (cl V).mono ?_;rintro e w2 ⟨rfl,hb2⟩;have HB2:=bX (eB HB1.out hb2);have HR2:=bX (HR1.out.below hb2 hs1);have hs2:=Nat.lt_of_lt_of_le hs1 hb2.size;have HP2:=bX (HP.out.below HB2.out);have HS2:=bX (HS.out.below (HB0.out.trans (HB2.out.mono HB0.out.size)));have d1:=HR2.out.at 0 _ rfl;have d2:=HR2.out.at 1 _ rfl;have hI:=bX (HP.out.new_ne (Nat.le_refl _));clear hb2 cl;go_wp2_with fail
 go_ret;exact ⟨rfl,HB2.out⟩
theorem aEs (S:iU w0 pb st sl sd sf sc mb sb fb) (OS:jN st) (hB:Below w0.heap.size w0 w) (H:eH w w0.heap.size b p vk vu vl u) (osz:p.s.size≤1000000) (okl:p.known.length≤1000000) (oll:p.plangs.length≤1000000) (comp:ByteArray) (lo hi:Nat) (q1:lo≤hi) (q2:hi≤p.s.size) (hasc:asc (p.s.extract lo hi))  :
 Calls Tryz.prog 165 #[.pointer (some ⟨pb,0,none⟩),.string comp,.string ⟨#[114,111,108,101,95]⟩,.pointer (some ⟨b,0,none⟩),.agg #[.int .i64 lo,.int .i64 hi]] w fun e w' =>
  e = .returned (.bool false)∧Below w.heap.size w w':=by
 have HP:=bX H;have hb:=H.lt;have HS:=bX S;have HB0:=bX hB;have hsz:(p.s.extract lo hi).size≤1000000:=Nat.le_trans (iP _ _ _) osz;have cl:=fun W=>Tryz.strings_ToLower_ascii (p.s.extract lo hi) W bA hasc
 obtain ⟨x,hx⟩:∃ x,jO (p.s.extract lo hi)=x:=⟨_,rfl⟩
 rw[show (⟨(Lib.toLowerA (p.s.extract lo hi).data.toList).toArray⟩:ByteArray)=x from hx] at cl;have hxz:x.size≤1000000:=by rw[← hx,kY];exact hsz
 have HX:=bX hx;have h0:=H.row.at 0 _ rfl;have mne:=nA mb;clear H S hB hasc hx;go_enter Tryz.func165,Tryz.ntmps165;go_upto_region 1 with fail
 have hal:Below w.heap.size w (w.alloc (.cells #[.int .i64 lo,.int .i64 hi] 78)):=(Below.refl _ _).alloc (Nat.le_refl _) _;have hR:=Row.new w [.int .i64 lo,.int .i64 hi] 78;have hs1:w.heap.size < (w.alloc (.cells #[.int .i64 lo,.int .i64 hi] 78)).heap.size:=by simp
 obtain ⟨V0,hV0⟩:∃ V0,w.alloc (.cells #[.int .i64 lo,.int .i64 hi] 78)=V0:=⟨_,rfl⟩
 replace hR:Row V0 w.heap.size [.int .i64 lo,.int .i64 hi]:=hV0▸hR;rw[hV0] at hal hs1 ⊢;clear hV0;refine wp_region_still_tail 9 bB bB ?_;change wpStill _ _ V0.drew (fun a'=>wpList _ _ _ _ a' V0.drew) _ _;replace hal:=hal.drew;replace hR:Row V0.drew w.heap.size [.int .i64 lo,.int .i64 hi]:=hR.step rfl;replace hs1:w.heap.size < V0.drew.heap.size:=hs1
 obtain ⟨V,hV⟩:∃ V,V0.drew=V:=⟨_,rfl⟩
 rw[hV] at hal hR hs1 ⊢;clear hV;have d0:V.cell? ⟨b,0,none⟩=some (.string p.s):=(hal.cell (p:=⟨b,0,none⟩) hb).trans h0;have d1:=hR.at 0 _ rfl;have d2:=hR.at 1 _ rfl;simp only[List.take_succ_cons,List.take_zero,List.drop_succ_cons,List.drop_zero]
 repeat still_step
 refine wpStill_nil ?_;have HB1:=bX hal;have HR1:=bX hR;clear hal hR d0 d1 d2 h0;go_wp2_with fail
 refine (cl V).mono ?_;rintro e w2 ⟨rfl,hb2⟩;have HB2:=bX (eB HB1.out hb2);have HR2:=bX (HR1.out.below hb2 hs1);have hs2:=Nat.lt_of_lt_of_le hs1 hb2.size;have HP2:=bX (HP.out.below HB2.out);have HS2:=bX (HS.out.below (HB0.out.trans (HB2.out.mono HB0.out.size)));have d1:=HR2.out.at 0 _ rfl;have d2:=HR2.out.at 1 _ rfl;have hI:=bX (HP.out.new_ne (Nat.le_refl _));clear hb2 cl;go_wp2_with fail
 go_ret;exact ⟨rfl,HB2.out⟩
end
open Go.RowKit Go.WideMaps Go.ZW.PrintWords Go.Proofs.YtlkoeeccebmjmaaGreatDoor.Base
structure Env where
 lang:ByteArray→Bool
 dis:ByteArray→Bool
 fmt:ByteArray→ByteArray→Bool
 cont:ByteArray→Bool
def eJ (st:fM):Env:=⟨listed st.langs,listed st.dis,lS st.fmts,listed st.cont⟩
def eQ (comp:ByteArray):Bool:=comp.toList==[108,97,121,111,117,116,115]
def isKind (s:ByteArray):Bool:=oM (Lib.toLowerA (L s))
def fJ:ByteArray:=⟨#[108,97,110,103,117,97,103,101,95]⟩
def nE:ByteArray:=⟨#[118,101,114,115,105,111,110,95]⟩
def pE:ByteArray:=⟨#[114,111,108,101,95]⟩
def gK:ByteArray:=⟨#[111,117,116,112,117,116,102,111,114,109,97,116,95]⟩
def gD:ByteArray:=⟨#[107,105,110,100,95]⟩
def fS:ByteArray:=⟨#[108,97,121,111,117,116,95]⟩
def iY (E:Env) (lay:Bool) (p:eG) (pre:ByteArray) (x:Int×Int) (v:ByteArray):Option eG :=
 if pre=fJ then
  if E.lang v then some { p with known:=p.known++[x],plangs:=p.plangs++[(p.known.length:Int)] }
  else if E.dis v then some { p with known:=p.known++[x],plangs:=p.plangs++[(p.known.length:Int)],dis:=true } else none
 else if pre=gK then if lay && E.fmt v ⟨#[]⟩ then some { p with known:=p.known++[x],pfmt:=p.known.length } else none
 else if pre=gD then if lay && isKind v then some { p with known:=p.known++[x],pkind:=p.known.length } else none
 else if pre=fS then if lay then some { p with known:=p.known++[x],play:=p.known.length } else none
 else none
theorem prefOf_cases (s:ByteArray):iJ s=⟨#[]⟩∨iJ s=fJ∨iJ s=nE∨iJ s=pE∨iJ s=gK∨iJ s=gD∨iJ s=fS:=by
 unfold iJ kZ;simp only[lV]
 repeat' split
 all_goals simp[fJ,nE,pE,gK,gD,fS]
section
variable {w0 w:World} {b:Nat} {p:eG} {vk vu vl u:Value} {pb mb sb fb:Nat} {st:fM} {sl sd sf sc:Value}
theorem aC6 (S:iU w0 pb st sl sd sf sc mb sb fb) (OS:jN st) (hB:Below w0.heap.size w0 w) (H:eH w w0.heap.size b p vk vu vl u) (osz:p.s.size≤1000000) (okl:p.known.length≤1000000) (oll:p.plangs.length≤1000000) (comp:ByteArray) (lo hi:Nat) (q1:lo≤hi) (q2:hi≤p.s.size) (hasc:asc (p.s.extract lo hi))
 (pre:ByteArray) (hpre:pre=fJ∨pre=nE∨pre=pE∨pre=gK∨pre=gD∨pre=fS) :
 Calls Tryz.prog 165 #[.pointer (some ⟨pb,0,none⟩),.string comp,.string pre,.pointer (some ⟨b,0,none⟩),.agg #[.int .i64 lo,.int .i64 hi]] w fun e w' =>
  match iY (eJ st) (eQ comp) p pre ((lo:Int),(hi:Int)) (jO (p.s.extract lo hi)) with
  | some p'=>e = .returned (.bool true)∧∃ vk' vl',eH w' w0.heap.size b p' vk' vu vl' u∧eZ w w' b vk vu vl vk' vu vl'
  | none=>e = .returned (.bool false)∧Below w.heap.size w w':=by
 rcases hpre with rfl | rfl | rfl | rfl | rfl | rfl
 ·rw[iY,if_pos rfl]
  cases h1:(eJ st).lang (jO (p.s.extract lo hi)) with
  | true=>exact zF S OS hB H osz okl oll comp lo hi q1 q2 hasc h1
  | false =>
   cases h2:(eJ st).dis (jO (p.s.extract lo hi)) with
   | true=>exact zE S OS hB H osz okl oll comp lo hi q1 q2 hasc h1 h2
   | false=>exact aAy S OS hB H osz okl oll comp lo hi q1 q2 hasc h1 h2
 ·exact aAz S OS hB H osz okl oll comp lo hi q1 q2 hasc
 ·exact aEs S OS hB H osz okl oll comp lo hi q1 q2 hasc
 ·rw[iY,if_neg bG,if_pos rfl]
  cases h0:eQ comp with
  | false=>exact zD S OS hB H osz okl oll comp lo hi q1 q2 hasc h0
  | true =>
   cases h1:(eJ st).fmt (jO (p.s.extract lo hi)) ⟨#[]⟩ with
   | true=>exact aFv S OS hB H osz okl oll comp lo hi q1 q2 hasc h0 h1
   | false=>exact aBj S OS hB H osz okl oll comp lo hi q1 q2 hasc h0 h1
 ·rw[iY,if_neg bG,if_neg bG,if_pos rfl]
  cases h0:eQ comp with
  | false=>exact xY S OS hB H osz okl oll comp lo hi q1 q2 hasc h0
  | true =>
   cases h1:isKind (jO (p.s.extract lo hi)) with
   | true=>exact aEr S OS hB H osz okl oll comp lo hi q1 q2 hasc h0 h1
   | false=>exact aAx S OS hB H osz okl oll comp lo hi q1 q2 hasc h0 h1
 rw[iY,if_neg bG,if_neg bG,if_neg bG,if_pos rfl]
 cases h0:eQ comp with
 | false=>exact wI S OS hB H osz okl oll comp lo hi q1 q2 hasc h0
 | true=>exact aBk S OS hB H osz okl oll comp lo hi q1 q2 hasc h0
end
open Go.RowKit Go.ZW.PrintWords Go.Proofs.YtlkoeeccebmjmaaGreatDoor.Base
section
variable {w:World} {B b:Nat} {p:eG} {vk vu vl u:Value}
def lK (p:eG) (bun:Bool):Int:=if (if bun then p.cHigh - 1 else p.nHigh)=0 then 1 else (if bun then p.cHigh - 1 else p.nHigh)
def jJ (p:eG) (pres bun:Bool):ByteArray :=
 match p.known with
 | []=>nrm p.trim p.s
 | k0::rest=>if pres=true∧rest=[] then nrm p.trim p.s else
  if pres then nrm p.trim (sub p.s 0 (lK p bun)++sub p.s (k0.1 - 1) k0.2) else nrm p.trim (sub p.s 0 (lK p bun))
theorem yC (H:eH w B b p vk vu vl u) (pres bun:Bool) (hk:p.known=[]∨(pres=true∧p.known.length=1)) :
 Calls Tryz.prog 127 #[.pointer (some ⟨b,0,none⟩),.bool pres,.bool bun] w fun e w'=>e = .returned (.string (nrm p.trim p.s))∧Below w.heap.size w w':=by
 have h0:=H.row.at 0 _ rfl;have h6:=H.row.at 6 _ rfl;obtain ⟨A,c,hv⟩:=fP H.ok;rw[hv] at h6;have cn:=jA H p.s;rcases hk with hk | ⟨rfl,hk⟩
 ·rw[hk] at h6;have h6' : w.cell? ⟨b,6,none⟩=some (.slice A 0 c):=h6;clear hv H hk h6;go_enter Tryz.func127,Tryz.ntmps127;go_wp2_with fail
  (with_reducible refine cn.mono ?_)
  rintro e w' ⟨rfl,rfl⟩;go_wp2_with fail
  go_ret;exact ⟨rfl,Below.refl _ _⟩
 rw[hk] at h6;clear hv H hk;go_enter Tryz.func127,Tryz.ntmps127;go_wp2_with fail
 (with_reducible refine cn.mono ?_)
 rintro e w' ⟨rfl,rfl⟩;go_wp2_with fail
 go_ret;exact ⟨rfl,Below.refl _ _⟩
theorem aB7 (O:hO p) (bun:Bool):∃ h:Nat,lK p bun=h∧h≤p.s.size:=by
 obtain ⟨o2,o3⟩:=O.ch;obtain ⟨o4,o5,o6⟩:=O.na;cases bun
 ·by_cases c:p.nHigh=0
  ·exact ⟨1,by unfold lK;simp[c],aR⟩
  exact ⟨p.nHigh.toNat,by unfold lK;simp[c];omega,aR⟩
 by_cases c:p.cHigh - 1=0
 ·exact ⟨1,by unfold lK;simp[c],aR⟩
 exact ⟨(p.cHigh - 1).toNat,by unfold lK;simp[c];omega,aR⟩
theorem aGy (H:eH w B b p vk vu vl u) (O:hO p) (bun:Bool) (hk:p.known≠[]) :
 Calls Tryz.prog 127 #[.pointer (some ⟨b,0,none⟩),.bool false,.bool bun] w fun e w'=>e = .returned (.string (nrm p.trim (sub p.s 0 (lK p bun))))∧Below w.heap.size w w':=by
 have h0:=H.row.at 0 _ rfl;have h2:=H.row.at 2 _ rfl;have h6:=H.row.at 6 _ rfl;obtain ⟨A,c,hv⟩:=fP H.ok;rw[hv] at h6;obtain ⟨h,hh,hle⟩:=aB7 O bun;have HE:=bX (show sub p.s 0 (lK p bun)=p.s.extract 0 h by rw[hh];rfl);have hlen:((p.known.length:Int)==0)=false:=beq_eq_false_iff_ne.2 (by have:=List.length_pos_iff.2 hk;omega);obtain ⟨o2,o3⟩:=O.ch;obtain ⟨o4,o5,o6⟩:=O.na;have o1:=O.sz;have HH:=bX H;have cl:=oU H;have hf:∀ (m n:Int) (W:World),(Instr.field 78 (.agg #[.int .i64 m,.int .i64 n]) 1).run Tryz.prog W = .ok (.int .i64 n) W:=fun _ _ _=>by kernel_rfl
 cases bun
 ·have hhn:(if p.nHigh=0 then 1 else p.nHigh)=(h:Int):=by rw[← hh];unfold lK;simp
  clear hh hv H O h2
  by_cases z:p.nHigh=0
  ·rw[if_pos z] at hhn;have h1:h=1:=by omega
   subst h1;rw[z] at cl;clear z hhn;have hle2:(1:Int)≤p.s.size:=by omega
   go_enter Tryz.func127,Tryz.ntmps127;go_wp2_with fail
   (with_reducible refine cl.mono ?_)
   rintro e w1 ⟨rfl,hd⟩;have HD:=bX hd;have h0:=(HH.out.below hd).row.at 0 _ rfl;clear hd;go_wp2_with fail
   (with_reducible refine (jA (HH.out.below HD.out) _).mono ?_)
   rintro e w' ⟨rfl,rfl⟩;go_wp2_with fail
   go_ret;exact ⟨by rw[HE.out];rfl,HD.out⟩
  rw[if_neg z] at hhn;rw[hhn] at cl z;clear hhn;have z2:((h:Int)==0)=false:=beq_eq_false_iff_ne.2 z;have hle2:(h:Int)≤p.s.size:=by omega
  clear z;go_enter Tryz.func127,Tryz.ntmps127;go_wp2_with fail
  (with_reducible refine cl.mono ?_)
  rintro e w1 ⟨rfl,hd⟩;have HD:=bX hd;have h0:=(HH.out.below hd).row.at 0 _ rfl;clear hd;go_wp2_with fail
  (with_reducible refine (jA (HH.out.below HD.out) _).mono ?_)
  rintro e w' ⟨rfl,rfl⟩;go_wp2_with fail
  go_ret;exact ⟨by rw[HE.out];rfl,HD.out⟩
 have hhn:(if p.cHigh - 1=0 then 1 else p.cHigh - 1)=(h:Int):=by rw[← hh];unfold lK;simp
 clear hh hv H O cl
 by_cases z:p.cHigh - 1=0
 ·rw[if_pos z] at hhn;have h1:h=1:=by omega
  subst h1;have z1:p.cHigh=1:=by omega
  rw[z1] at h2;clear z hhn z1;have hle2:(1:Int)≤p.s.size:=by omega
  go_enter Tryz.func127,Tryz.ntmps127;go_wp2_with fail
  (with_reducible refine (jA HH.out _).mono ?_)
  rintro e w' ⟨rfl,rfl⟩;go_wp2_with fail
  go_ret;exact ⟨by rw[HE.out];rfl,Below.refl _ _⟩
 rw[if_neg z] at hhn;have z1:p.cHigh=(h:Int)+1:=by omega
 rw[z1] at h2;have z2:((h:Int)==0)=false:=beq_eq_false_iff_ne.2 bA;have hle2:(h:Int)≤p.s.size:=by omega
 clear z hhn z1;go_enter Tryz.func127,Tryz.ntmps127;go_wp2_with fail
 (with_reducible refine (jA HH.out _).mono ?_)
 rintro e w' ⟨rfl,rfl⟩;go_wp2_with fail
 go_ret;exact ⟨by rw[HE.out];rfl,Below.refl _ _⟩
theorem aGz (H:eH w B b p vk vu vl u) (O:hO p) (bun:Bool) (k0:Int×Int) (hk0:p.known[0]? = some k0) (hk:2≤p.known.length) :
 Calls Tryz.prog 127 #[.pointer (some ⟨b,0,none⟩),.bool true,.bool bun] w fun e w'=>e = .returned (.string (nrm p.trim (sub p.s 0 (lK p bun)++sub p.s (k0.1 - 1) k0.2)))∧Below w.heap.size w w':=by
 have h0:=H.row.at 0 _ rfl;have h2:=H.row.at 2 _ rfl;have h6:=H.row.at 6 _ rfl;obtain ⟨q1,q2,q3⟩:=O.kn k0 (List.mem_of_getElem? hk0);obtain ⟨lo,hlo⟩:=Int.eq_ofNat_of_zero_le (show 0≤k0.1 by omega);obtain ⟨hi,hhi⟩:=Int.eq_ofNat_of_zero_le (show 0≤k0.2 by omega);obtain ⟨g,cp,hv,k1,k2⟩:=H.knownAt 0 k0 hk0;rw[hv] at h6;rw[hlo] at k1 q1 q2;rw[hhi] at k2 q2 q3;have hb:=H.lt;have hg:g < w.heap.size:=World.block_lt_of_cell? w ⟨g,0 * 2,none⟩ k1;have k1' : w.cell? ⟨g,0,none⟩=some (.int .i64 lo):=k1;have k2' : w.cell? ⟨g,1,none⟩=some (.int .i64 hi):=k2;obtain ⟨h,hh,hle⟩:=aB7 O bun;have o1:=O.sz;have hlow:((lo - 1:Nat):Int)=(lo:Int) - 1:=by omega
 have HE:=bX (show sub p.s 0 (lK p bun)++sub p.s (k0.1 - 1) k0.2=p.s.extract 0 h++p.s.extract (lo - 1) hi by rw[hh,hlo,hhi,← hlow];rfl);have hlen:((p.known.length:Int)==0)=false:=beq_eq_false_iff_ne.2 bA;have hlen1:((p.known.length:Int)==1)=false:=beq_eq_false_iff_ne.2 bA;have hlen0:0 < p.known.length:=by omega
 have hyc:IntKind.i64.wrap ((lo:Int) - 1)=((lo - 1:Nat):Int):=by rw[IntWalk.i64_in _ bA];omega
 have r1:((lo - 1:Nat):Int)≤(hi:Int):=by omega
 have hsum:(p.s.extract 0 h).size+(p.s.extract (lo - 1) hi).size≤9223372036854775807:=by
  have l1:=iP p.s 0 h;have l2:=iP p.s (lo - 1) hi;omega
 obtain ⟨o2,o3⟩:=O.ch;obtain ⟨o4,o5,o6⟩:=O.na;have hf:∀ (m n:Int) (W:World),(Instr.field 78 (.agg #[.int .i64 m,.int .i64 n]) 1).run Tryz.prog W = .ok (.int .i64 n) W:=fun _ _ _=>by kernel_rfl
 have HH:=bX H;have cl:=oU H;cases bun
 ·have hhn:(if p.nHigh=0 then 1 else p.nHigh)=(h:Int):=by rw[← hh];unfold lK;simp
  clear hh hv H O h2 hlow k1 k2 hk0
  by_cases z:p.nHigh=0
  ·rw[if_pos z] at hhn;have h1:h=1:=by omega
   subst h1;rw[z] at cl;clear z hhn;have hle2:(1:Int)≤p.s.size:=by omega
   go_enter Tryz.func127,Tryz.ntmps127;go_wp2_with fail
   (with_reducible refine cl.mono ?_)
   rintro e w1 ⟨rfl,hd⟩;have HD:=bX hd;have h0:=(HH.out.below hd).row.at 0 _ rfl;have h6:=(hd.cell (p:=⟨b,6,none⟩) hb).trans h6;have k1:=(hd.cell (p:=⟨g,0,none⟩) hg).trans k1';have k2:=(hd.cell (p:=⟨g,1,none⟩) hg).trans k2';have hb1:=(HH.out.below hd).lt;have hg1:g < w1.heap.size:=Nat.lt_of_lt_of_le hg hd.size;clear hd;go_wp2_with fail
   go_quiet ((go_at_call 69;exact Calls.quiet_of_same (jA (((HH.out.below HD.out).alloc _).drewN _) _)))
   go_wp2_with fail
   go_ret;exact ⟨by rw[HE.out];rfl,eB (HD.out.alloc HD.out.size _) (eY.below ⟨⟨_,rfl⟩⟩)⟩
  rw[if_neg z] at hhn;rw[hhn] at cl z;clear hhn;have z2:((h:Int)==0)=false:=beq_eq_false_iff_ne.2 z;have hle2:(h:Int)≤p.s.size:=by omega
  clear z;go_enter Tryz.func127,Tryz.ntmps127;go_wp2_with fail
  (with_reducible refine cl.mono ?_)
  rintro e w1 ⟨rfl,hd⟩;have HD:=bX hd;have h0:=(HH.out.below hd).row.at 0 _ rfl;have h6:=(hd.cell (p:=⟨b,6,none⟩) hb).trans h6;have k1:=(hd.cell (p:=⟨g,0,none⟩) hg).trans k1';have k2:=(hd.cell (p:=⟨g,1,none⟩) hg).trans k2';have hb1:=(HH.out.below hd).lt;have hg1:g < w1.heap.size:=Nat.lt_of_lt_of_le hg hd.size;clear hd;go_wp2_with fail
  go_quiet ((go_at_call 69;exact Calls.quiet_of_same (jA (((HH.out.below HD.out).alloc _).drewN _) _)))
  go_wp2_with fail
  go_ret;exact ⟨by rw[HE.out];rfl,eB (HD.out.alloc HD.out.size _) (eY.below ⟨⟨_,rfl⟩⟩)⟩
 have hhn:(if p.cHigh - 1=0 then 1 else p.cHigh - 1)=(h:Int):=by rw[← hh];unfold lK;simp
 clear hh hv H O cl hlow k1 k2 hk0
 by_cases z:p.cHigh - 1=0
 ·rw[if_pos z] at hhn;have h1:h=1:=by omega
  subst h1;have z1:p.cHigh=1:=by omega
  rw[z1] at h2;clear z hhn z1;have hle2:(1:Int)≤p.s.size:=by omega
  go_enter Tryz.func127,Tryz.ntmps127;go_wp2_with fail
  go_quiet ((go_at_call 69;exact Calls.quiet_of_same (jA ((HH.out.alloc _).drewN _) _)))
  go_wp2_with fail
  go_ret;exact ⟨by rw[HE.out];rfl,eB ((Below.refl _ _).alloc (Nat.le_refl _) _) (eY.below ⟨⟨_,rfl⟩⟩)⟩
 rw[if_neg z] at hhn;have z1:p.cHigh=(h:Int)+1:=by omega
 rw[z1] at h2;have z2:((h:Int)==0)=false:=beq_eq_false_iff_ne.2 bA;have hle2:(h:Int)≤p.s.size:=by omega
 clear z hhn z1;go_enter Tryz.func127,Tryz.ntmps127;go_wp2_with fail
 go_quiet ((go_at_call 69;exact Calls.quiet_of_same (jA ((HH.out.alloc _).drewN _) _)))
 go_wp2_with fail
 go_ret;exact ⟨by rw[HE.out];rfl,eB ((Below.refl _ _).alloc (Nat.le_refl _) _) (eY.below ⟨⟨_,rfl⟩⟩)⟩
theorem tB (H:eH w B b p vk vu vl u) (O:hO p) (pres bun:Bool) :
 Calls Tryz.prog 127 #[.pointer (some ⟨b,0,none⟩),.bool pres,.bool bun] w fun e w'=>e = .returned (.string (jJ p pres bun))∧Below w.heap.size w w':=by
 cases hk:p.known with
 | nil =>
  have e:jJ p pres bun=nrm p.trim p.s:=by unfold jJ;rw[hk]
  rw[e];exact yC H pres bun (.inl hk)
 | cons k0 r =>
  by_cases c:pres=true∧r=[]
  ·have e:jJ p pres bun=nrm p.trim p.s:=by unfold jJ;rw[hk];simp only[if_pos c]
   rw[e];exact yC H pres bun (.inr ⟨c.1,by rw[hk,c.2];rfl⟩)
  cases pres with
  | false =>
   have e:jJ p false bun=nrm p.trim (sub p.s 0 (lK p bun)):=by unfold jJ;rw[hk];simp
   rw[e];exact aGy H O bun (by rw[hk];simp)
  | true =>
   have hr:r≠[]:=fun h=>c ⟨rfl,h⟩;have e:jJ p true bun=nrm p.trim (sub p.s 0 (lK p bun)++sub p.s (k0.1 - 1) k0.2):=by unfold jJ;rw[hk];simp[hr]
   rw[e];exact aGz H O bun k0 (by rw[hk];rfl) (by rw[hk];have:=List.length_pos_iff.2 hr;simp;omega)
def tI (p:eG):ByteArray :=
 if (jJ p (!decide (2≤p.typ∧p.typ≤5)) (decide (3≤p.typ∧p.typ≤5))).toList=[47]∧(2≤p.typ∧p.typ≤5) then ByteArray.empty else jJ p (!decide (2≤p.typ∧p.typ≤5)) (decide (3≤p.typ∧p.typ≤5))
theorem xU (H:eH w B b p vk vu vl u) (O:hO p):Calls Tryz.prog 67 #[.pointer (some ⟨b,0,none⟩)] w fun e w'=>e = .returned (.string (tI p))∧Below w.heap.size w w':=by
 have c1:=lL H;have c2:=oI H;unfold tI
 obtain ⟨pg,hpg⟩:∃ x,decide (2≤p.typ∧p.typ≤5)=x:=⟨_,rfl⟩
 obtain ⟨bn,hbn⟩:∃ x,decide (3≤p.typ∧p.typ≤5)=x:=⟨_,rfl⟩
 rw[hpg,hbn];rw[hpg] at c1;rw[hbn] at c2;have c3:=tB H O (!pg) bn
 obtain ⟨s,hs⟩:∃ s,jJ p (!pg) bn=s:=⟨_,rfl⟩
 rw[hs] at c3 ⊢;have HH:=bX H;clear hs hbn H O;have hpg':=hpg
 by_cases q:s.toList=[47]
 ·have qb:(s.toList==[47])=true:=beq_iff_eq.2 q
  cases pg with
  | true =>
   simp only[Bool.not_true] at c3;rw[if_pos ⟨q,of_decide_eq_true hpg⟩];clear q hpg;go_enter Tryz.func67,Tryz.ntmps67;go_wp2_with fail
   (with_reducible refine c1.mono ?_)
   rintro e w' ⟨rfl,rfl⟩;go_wp2_with fail
   (with_reducible refine c2.mono ?_)
   rintro e w' ⟨rfl,rfl⟩;go_wp2_with fail
   (with_reducible refine c3.mono ?_)
   rintro e w' ⟨rfl,hd⟩;have c4:=lL (HH.out.below hd);rw[hpg'] at c4;have HD:=bX hd;clear hd hpg';go_wp2_with fail
   (with_reducible refine c4.mono ?_)
   rintro e w' ⟨rfl,rfl⟩;go_wp2_with fail
   go_ret;exact ⟨rfl,HD.out⟩
  | false =>
   simp only[Bool.not_false] at c3;rw[if_neg (fun h=>of_decide_eq_false hpg h.2)];clear q hpg;go_enter Tryz.func67,Tryz.ntmps67;go_wp2_with fail
   (with_reducible refine c1.mono ?_)
   rintro e w' ⟨rfl,rfl⟩;go_wp2_with fail
   (with_reducible refine c2.mono ?_)
   rintro e w' ⟨rfl,rfl⟩;go_wp2_with fail
   (with_reducible refine c3.mono ?_)
   rintro e w' ⟨rfl,hd⟩;have c4:=lL (HH.out.below hd);rw[hpg'] at c4;have HD:=bX hd;clear hd hpg';go_wp2_with fail
   (with_reducible refine c4.mono ?_)
   rintro e w' ⟨rfl,rfl⟩;go_wp2_with fail
   go_ret;exact ⟨rfl,HD.out⟩
 have qb:(s.toList==[47])=false:=beq_eq_false_iff_ne.2 q;rw[if_neg (fun h=>q h.1)]
 cases pg with
 | true =>
  simp only[Bool.not_true] at c3;clear q hpg;go_enter Tryz.func67,Tryz.ntmps67;go_wp2_with fail
  (with_reducible refine c1.mono ?_)
  rintro e w' ⟨rfl,rfl⟩;go_wp2_with fail
  (with_reducible refine c2.mono ?_)
  rintro e w' ⟨rfl,rfl⟩;go_wp2_with fail
  (with_reducible refine c3.mono ?_)
  rintro e w' ⟨rfl,hd⟩;have c4:=lL (HH.out.below hd);rw[hpg'] at c4;have HD:=bX hd;clear hd hpg';go_wp2_with fail
  go_ret;exact ⟨rfl,HD.out⟩
 | false =>
  simp only[Bool.not_false] at c3;clear q hpg;go_enter Tryz.func67,Tryz.ntmps67;go_wp2_with fail
  (with_reducible refine c1.mono ?_)
  rintro e w' ⟨rfl,rfl⟩;go_wp2_with fail
  (with_reducible refine c2.mono ?_)
  rintro e w' ⟨rfl,rfl⟩;go_wp2_with fail
  (with_reducible refine c3.mono ?_)
  rintro e w' ⟨rfl,hd⟩;have c4:=lL (HH.out.below hd);rw[hpg'] at c4;have HD:=bX hd;clear hd hpg';go_wp2_with fail
  go_ret;exact ⟨rfl,HD.out⟩
end
section
variable {w:World} {B b:Nat} {p:eG} {vk vu vl u:Value}
theorem xW (H:eH w B b p vk vu vl u) (O:PathIn p):Calls Tryz.prog 85 #[.pointer (some ⟨b,0,none⟩)] w fun e w'=>e = .returned (.string (fH p 0))∧Below w.heap.size w w':=by
 have c:=gP H O 0;clear H O;go_enter Tryz.func85,Tryz.ntmps85;go_wp2_with fail
 (with_reducible refine c.mono ?_)
 rintro e w' ⟨rfl,hd⟩;have HD:=bX hd;clear hd;go_wp2_with fail
 go_ret;exact ⟨rfl,HD.out⟩
theorem aFq (H:eH w B b p vk vu vl u) (O:hO p):Calls Tryz.prog 85 #[.pointer (some ⟨b,0,none⟩)] w fun e w'=>e = .returned (.string (fH p 0))∧Below w.heap.size w w':=xW H O.toPathIn
theorem uL (H:eH w B b p vk vu vl u) (O:hO p):Calls Tryz.prog 86 #[.pointer (some ⟨b,0,none⟩)] w fun e w'=>e = .returned (.string (if p.pfmt = -1 then fH p p.fmt else fH p p.pfmt))∧Below w.heap.size w w':=by
 have h1:=H.row.at 17 _ rfl;have h2:=H.row.at 9 _ rfl
 by_cases t:p.pfmt = -1
 ·rw[if_pos t];rw[t] at h1;have c:=gP H O.toPathIn p.fmt;clear t H O;go_enter Tryz.func86,Tryz.ntmps86;go_wp2_with fail
  (with_reducible refine c.mono ?_)
  rintro e w' ⟨rfl,hd⟩;have HD:=bX hd;clear hd;go_wp2_with fail
  go_ret;exact ⟨rfl,HD.out⟩
 rw[if_neg t];have hne:(p.pfmt == -1)=false:=beq_eq_false_iff_ne.2 t;have hne2:(p.pfmt != -1)=true:=bne_iff_ne.2 t;have c:=gP H O.toPathIn p.pfmt;clear t H O;go_enter Tryz.func86,Tryz.ntmps86;go_wp2_with fail
 (with_reducible refine c.mono ?_)
 rintro e w' ⟨rfl,hd⟩;have HD:=bX hd;clear hd;go_wp2_with fail
 go_ret;exact ⟨rfl,HD.out⟩
theorem aEj (H:eH w B b p vk vu vl u) (O:hO p):Calls Tryz.prog 87 #[.pointer (some ⟨b,0,none⟩)] w fun e w'=>e = .returned (.string (if p.pkind = -1 then fH p p.kind else fH p p.pkind))∧Below w.heap.size w w':=by
 have h1:=H.row.at 18 _ rfl;have h2:=H.row.at 10 _ rfl
 by_cases t:p.pkind = -1
 ·rw[if_pos t];rw[t] at h1;have c:=gP H O.toPathIn p.kind;clear t H O;go_enter Tryz.func87,Tryz.ntmps87;go_wp2_with fail
  (with_reducible refine c.mono ?_)
  rintro e w' ⟨rfl,hd⟩;have HD:=bX hd;clear hd;go_wp2_with fail
  go_ret;exact ⟨rfl,HD.out⟩
 rw[if_neg t];have hne:(p.pkind == -1)=false:=beq_eq_false_iff_ne.2 t;have hne2:(p.pkind != -1)=true:=bne_iff_ne.2 t;have c:=gP H O.toPathIn p.pkind;clear t H O;go_enter Tryz.func87,Tryz.ntmps87;go_wp2_with fail
 (with_reducible refine c.mono ?_)
 rintro e w' ⟨rfl,hd⟩;have HD:=bX hd;clear hd;go_wp2_with fail
 go_ret;exact ⟨rfl,HD.out⟩
theorem aBh (H:eH w B b p vk vu vl u) (O:hO p):Calls Tryz.prog 88 #[.pointer (some ⟨b,0,none⟩)] w fun e w'=>e = .returned (.string (if p.play = -1 then fH p p.lay else fH p p.play))∧Below w.heap.size w w':=by
 have h1:=H.row.at 19 _ rfl;have h2:=H.row.at 11 _ rfl
 by_cases t:p.play = -1
 ·rw[if_pos t];rw[t] at h1;have c:=gP H O.toPathIn p.lay;clear t H O;go_enter Tryz.func88,Tryz.ntmps88;go_wp2_with fail
  (with_reducible refine c.mono ?_)
  rintro e w' ⟨rfl,hd⟩;have HD:=bX hd;clear hd;go_wp2_with fail
  go_ret;exact ⟨rfl,HD.out⟩
 rw[if_neg t];have hne:(p.play == -1)=false:=beq_eq_false_iff_ne.2 t;have hne2:(p.play != -1)=true:=bne_iff_ne.2 t;have c:=gP H O.toPathIn p.play;clear t H O;go_enter Tryz.func88,Tryz.ntmps88;go_wp2_with fail
 (with_reducible refine c.mono ?_)
 rintro e w' ⟨rfl,hd⟩;have HD:=bX hd;clear hd;go_wp2_with fail
 go_ret;exact ⟨rfl,HD.out⟩
def wA (p:eG):ByteArray:=match p.plangs with | []=>fH p p.lang | i::_=>fH p i
theorem aEl (H:eH w B b p vk vu vl u) (O:hO p):Calls Tryz.prog 89 #[.pointer (some ⟨b,0,none⟩)] w fun e w'=>e = .returned (.string (wA p))∧Below w.heap.size w w':=by
 have h8:=H.row.at 8 _ rfl;have h14:=H.row.at 14 _ rfl;unfold wA
 cases hl:p.plangs with
 | nil =>
  obtain ⟨A,c0,hv⟩:=fP H.ol;rw[hv,hl] at h14;have h14' : w.cell? ⟨b,14,none⟩=some (.slice A 0 c0):=h14;have c:=gP H O.toPathIn p.lang;clear hl hv h14 H O;go_enter Tryz.func89,Tryz.ntmps89;go_wp2_with fail
  (with_reducible refine c.mono ?_)
  rintro e w' ⟨rfl,hd⟩;have HD:=bX hd;clear hd;go_wp2_with fail
  go_ret;exact ⟨rfl,HD.out⟩
 | cons i r =>
  obtain ⟨g,c0,hv,k1⟩:=H.langAt 0 i (by rw[hl];rfl);rw[hv] at h14;have hlen:(0:Int) < p.plangs.length:=by rw[hl];simp
  have hlen2:decide ((0:Int) < (p.plangs.length:Int))=true:=decide_eq_true hlen;have hlen3:decide (0 < p.plangs.length)=true:=decide_eq_true bA;have c:=gP H O.toPathIn i;clear hl hv H O;go_enter Tryz.func89,Tryz.ntmps89;go_wp2_with fail
  (with_reducible refine c.mono ?_)
  rintro e w' ⟨rfl,hd⟩;have HD:=bX hd;clear hd;go_wp2_with fail
  go_ret;exact ⟨rfl,HD.out⟩
def pY (p:eG):ByteArray:=⟨(Lib.trimSuffix (Lib.trimPrefix (L (fH p p.cust)) [95]) [95]).toArray⟩
theorem aBg (H:eH w B b p vk vu vl u) (O:hO p):Calls Tryz.prog 90 #[.pointer (some ⟨b,0,none⟩)] w fun e w'=>e = .returned (.string (pY p))∧Below w.heap.size w w':=by
 have h13:=H.row.at 13 _ rfl;have c:=gP H O.toPathIn p.cust
 have hsz:(fH p p.cust).size≤p.s.size:=by
  unfold fH;split
  ·exact Nat.zero_le _
  split
  ·exact iP _ _ _
  exact Nat.zero_le _
 have o1:=O.sz
 obtain ⟨s,hs⟩:∃ s,fH p p.cust=s:=⟨_,rfl⟩
 have hm:pY p=⟨(Lib.trimSuffix (Lib.trimPrefix (L s) [95]) [95]).toArray⟩:=by unfold pY;rw[hs]
 have HM:=bX hm;rw[hs] at c hsz;clear hs hm H O;go_enter Tryz.func90,Tryz.ntmps90;go_wp2_with fail
 (with_reducible refine c.mono ?_)
 rintro e w' ⟨rfl,hd⟩;have HD:=bX hd;clear hd;go_wp2_with fail
 (with_reducible refine (Tryz.strings_TrimPrefix _ _ _).mono ?_)
 rintro e w2 ⟨rfl,rfl⟩;go_wp2_with fail
 (with_reducible refine (Tryz.strings_TrimSuffix _ _ _ ?hz).mono ?_)
 case hz =>
  have:=Lib.trimPrefix_le s.data.toList [95];have h2:=eF s;unfold L at h2;show (Lib.trimPrefix s.data.toList [95]).toArray.size≤_
  simp
  omega
 rintro e w3 ⟨rfl,rfl⟩;go_wp2_with fail
 go_ret;exact ⟨by rw[HM.out];rfl,HD.out⟩
theorem sK (H:eH w B b p vk vu vl u) (O:hO p):Calls Tryz.prog 82 #[.pointer (some ⟨b,0,none⟩)] w fun e w'=>e = .returned (.string (jJ p false false))∧Below w.heap.size w w':=by
 have c:=tB H O false false;clear H O;go_enter Tryz.func82,Tryz.ntmps82;go_wp2_with fail
 (with_reducible refine c.mono ?_)
 rintro e w' ⟨rfl,hd⟩;have HD:=bX hd;clear hd;go_wp2_with fail
 go_ret;exact ⟨rfl,HD.out⟩
def rG (p:eG):ByteArray:=if p.plangs≠[]∨mJ p p.lang≠-1 then jJ p true false else nrm p.trim p.s
theorem xE (H:eH w B b p vk vu vl u) (O:hO p):Calls Tryz.prog 81 #[.pointer (some ⟨b,0,none⟩)] w fun e w'=>e = .returned (.string (rG p))∧Below w.heap.size w w':=by
 have h8:=H.row.at 8 _ rfl;have h14:=H.row.at 14 _ rfl;have cb:=tB H O true false;have ci:=lZ H p.lang;have cp:=qU H;unfold rG;obtain ⟨A,c0,hv⟩:=fP H.ol;rw[hv] at h14
 by_cases t:p.plangs=[]
 ·rw[t] at h14;have h14' : w.cell? ⟨b,14,none⟩=some (.slice A 0 c0):=h14
  by_cases t2:mJ p p.lang = -1
  ·rw[if_neg (by intro h;rcases h with h | h;exact h t;exact h t2)];rw[t2] at ci;clear t t2 hv h14 H O;go_enter Tryz.func81,Tryz.ntmps81;go_wp2_with fail
   (with_reducible refine ci.mono ?_)
   rintro e w' ⟨rfl,rfl⟩;go_wp2_with fail
   (with_reducible refine cp.mono ?_)
   rintro e w' ⟨rfl,rfl⟩;go_wp2_with fail
   go_ret;exact ⟨rfl,Below.refl _ _⟩
  rw[if_pos (.inr t2)];have hne:(mJ p p.lang == -1)=false:=beq_eq_false_iff_ne.2 t2;clear t t2 hv h14 H O;go_enter Tryz.func81,Tryz.ntmps81;go_wp2_with fail
  (with_reducible refine ci.mono ?_)
  rintro e w' ⟨rfl,rfl⟩;go_wp2_with fail
  (with_reducible refine cb.mono ?_)
  rintro e w' ⟨rfl,hd⟩;have HD:=bX hd;clear hd;go_wp2_with fail
  go_ret;exact ⟨rfl,HD.out⟩
 rw[if_pos (.inl t)];have hlen:(0:Int) < p.plangs.length:=by have:=List.length_pos_iff.2 t;omega
 have hlen2:decide ((0:Int) < (p.plangs.length:Int))=true:=decide_eq_true hlen;have hlen3:decide (0 < p.plangs.length)=true:=decide_eq_true bA;clear t hv H O;go_enter Tryz.func81,Tryz.ntmps81;go_wp2_with fail
 (with_reducible refine cb.mono ?_)
 rintro e w' ⟨rfl,hd⟩;have HD:=bX hd;clear hd;go_wp2_with fail
 go_ret;exact ⟨rfl,HD.out⟩
def rE (p:eG):ByteArray:=if p.comp.toList=[108,97,121,111,117,116,115] then nrm p.trim p.s else tI p
theorem sY (H:eH w B b p vk vu vl u) (O:hO p):Calls Tryz.prog 84 #[.pointer (some ⟨b,0,none⟩)] w fun e w'=>e = .returned (.string (rE p))∧Below w.heap.size w w':=by
 have cc:=rV H;have cp:=qU H;have cb:=xU H O;unfold rE;clear H O
 by_cases t:p.comp.toList=[108,97,121,111,117,116,115]
 ·have tb:(p.comp.toList==[108,97,121,111,117,116,115])=true:=beq_iff_eq.2 t;rw[if_pos t];clear t;go_enter Tryz.func84,Tryz.ntmps84;go_wp2_with fail
  (with_reducible refine cc.mono ?_)
  rintro e w' ⟨rfl,rfl⟩;go_wp2_with fail
  (with_reducible refine cp.mono ?_)
  rintro e w' ⟨rfl,rfl⟩;go_wp2_with fail
  go_ret;exact ⟨rfl,Below.refl _ _⟩
 have tb:(p.comp.toList==[108,97,121,111,117,116,115])=false:=beq_eq_false_iff_ne.2 t;rw[if_neg t];clear t;go_enter Tryz.func84,Tryz.ntmps84;go_wp2_with fail
 (with_reducible refine cc.mono ?_)
 rintro e w' ⟨rfl,rfl⟩;go_wp2_with fail
 (with_reducible refine cb.mono ?_)
 rintro e w' ⟨rfl,hd⟩;have HD:=bX hd;clear hd;go_wp2_with fail
 go_ret;exact ⟨rfl,HD.out⟩
end
def jY (comp:ByteArray):Bool:=comp.toList==[99,111,110,116,101,110,116]
def qA (p:eG) (comp:ByteArray) (nd:Int):Bool:=(decide (1 < nd) && p.lang == -1) && (jY comp || eQ comp)
def pI (p:eG) (comp:ByteArray):Bool:=p.kind == -1 && eQ comp
def lI (p:eG) (comp:ByteArray) (last:Bool):Bool:=if p.typ==7 then !last && eQ comp else eQ comp
def idHigh (p:eG) (ld:Nat):Nat:=if p.known=[] then p.s.size else ld
def eG.add (p:eG) (x:Int×Int):eG:={ p with known:=p.known++[x] }
def oN (p:eG) (x:Int×Int):eG:={ p with known:=p.known++[x],cust:=p.known.length }
def mZ (E:Env) (lay:Bool) (p:eG) (lo hi:Nat) (sid:ByteArray):eG :=
 let pre:=iJ (sid.extract 1 (sid.size - 1))
 if pre.toList=[] then oN p ((lo:Int),(hi:Int))
 else match iY E lay p pre (((lo+1+pre.size:Nat):Int),((hi - 1:Nat):Int)) (jO (p.s.extract (lo+1+pre.size) (hi - 1))) with
  | some p'=>p'
  | none=>oN p ((lo:Int),(hi:Int))
def rP (E:Env) (lay:Bool) (p:eG) (x:Int×Int) (sid:ByteArray):eG :=
 { p with known:=p.known++[x],fmt:=if lay && E.fmt sid ⟨#[]⟩ then 0 else p.fmt }
def jG (E:Env) (p:eG) (comp:ByteArray) (nd:Int) (last:Bool) (x:Int×Int) (sid:ByteArray):eG×Bool :=
 if qA p comp nd && (E.lang sid || E.dis sid) then ({ p with known:=p.known++[x],lang:=p.known.length,dis:=p.dis || !E.lang sid },true)
 else if eQ comp && E.fmt sid (fH p 0) then ({ p with known:=p.known++[x],fmt:=p.known.length },true)
 else if pI p comp && isKind sid then ({ p with known:=p.known++[x],kind:=p.known.length },true)
 else if sid.toList==[98,97,115,101,111,102] then ({ p with known:=p.known++[x],base:=p.known.length },true)
 else if lI p comp last then
  if p.lay != -1 then ({ p with known:=p.known.set p.lay.toNat x,unknown:=p.unknown++[p.known.getD p.lay.toNat (0,0)] },true)
  else ({ p with known:=p.known++[x],lay:=p.known.length },true)
 else ({ p with unknown:=p.unknown++[x] },false)
def iZ (E:Env) (p:eG) (comp:ByteArray) (lo ld:Nat) (nd:Int) (last:Bool):eG×Bool :=
 let hi:=idHigh p ld
 let sid:=p.s.extract lo hi
 if mI sid then (mZ E (eQ comp) p lo hi sid,true)
 else if p.known=[] then (rP E (eQ comp) p ((lo:Int),(hi:Int)) sid,true)
 else jG E p comp nd last ((lo:Int),(hi:Int)) sid
def mK (r:eG×Bool) (i ld:Nat) (last:Bool):eG :=
 if r.2 then (if last then (if r.1.nEnd≤0 then { r.1 with nEnd:=ld } else r.1) else { r.1 with nEnd:=i }) else r.1
def mId (E:Env) (p:eG) (comp:ByteArray) (i ld:Nat) (nd:Int) (last:Bool):eG :=
 if p.cHigh != -1 then p else mK (iZ E p comp (i+1) ld nd last) i ld last
end Go.Proofs.YtlkoeeccebmjmaaGreatDoor.Path
