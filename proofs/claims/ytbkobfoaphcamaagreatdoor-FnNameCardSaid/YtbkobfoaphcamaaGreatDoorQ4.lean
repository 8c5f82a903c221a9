/- Texts that the law leans on: Apply2, Apply3, Apply, Acc3, Acc4. Condition: as told at each. -/
import Derived.StillTailTactics
import Derived.Deep.OwnRows
import Derived.Test.YtbkobfoaphcamaaGreatDoorQa
import Derived.Test.YtbkobfoaphcamaaGreatDoorQ3
set_option linter.unusedVariables false
set_option linter.unusedSimpArgs false
namespace Go.Proofs.YtbkobfoaphcamaaGreatDoor.Path
open Go.RowKit Go.WideMaps Go.Proofs.YtbkobfoaphcamaaGreatDoorW.PrintWords Go.Proofs.YtbkobfoaphcamaaGreatDoorW.PrintLast Go.Proofs.YtbkobfoaphcamaaGreatDoor.Base
section
variable {w0 w:World} {b:Nat} {p:eQ} {vk vu vl u:Value} {pb mb sb fb:Nat} {st:fP} {sl sd sf sc:Value}
set_option maxRecDepth 100000 in
set_option maxHeartbeats 4000000 in
theorem aFj (S:iZ w0 pb st sl sd sf sc mb sb fb) (OS:jT st) (hB:Below w0.heap.size w0 w) (H:eP w w0.heap.size b p vk vu vl u) (osz:p.s.size≤1000000) (okl:p.known.length≤1000000) (oll:p.plangs.length≤1000000) (comp:ByteArray) (lo hi:Nat) (q1:lo≤hi) (q2:hi≤p.s.size) (hasc:asc (p.s.extract lo hi)) (hc:(comp.toList==[108,97,121,111,117,116,115])=true) (hd:lX st.fmts (jU (p.s.extract lo hi)) ⟨#[]⟩=true) :
 Calls Tryz.prog 139 #[.pointer (some ⟨pb,0,none⟩),.string comp,.string ⟨#[111,117,116,112,117,116,102,111,114,109,97,116,95]⟩,.pointer (some ⟨b,0,none⟩),.agg #[.int .i64 lo,.int .i64 hi]] w fun e w' =>
  e = .returned (.bool true)∧∃ vk' vl',eP w' w0.heap.size b { p with known:=p.known++[((lo:Int),(hi:Int))],pfmt:=p.known.length } vk' vu vl' u∧fG w w' b vk vu vl vk' vu vl':=by
 have HP:=cD H;have hb:=H.lt;have HS:=cD S;have HB0:=cD hB;have hsz:(p.s.extract lo hi).size≤1000000:=Nat.le_trans (iV _ _ _) osz;have cl:=fun W=>Tryz.strings_ToLower_ascii (p.s.extract lo hi) W bA hasc
 obtain ⟨x,hx⟩:∃ x,jU (p.s.extract lo hi)=x:=⟨_,rfl⟩
 rw[show (⟨(Lib.toLowerA (p.s.extract lo hi).data.toList).toArray⟩:ByteArray)=x from hx] at cl;have hxz:x.size≤1000000:=by rw[← hx,lC];exact hsz
 have HX:=cD hx;have h0:=H.row.at 0 _ rfl;have mne:=nF mb;clear H S hB hasc hx;go_enter Tryz.func139,Tryz.ntmps139;go_upto_region 1 with fail
 have hal:Below w.heap.size w (w.alloc (.cells #[.int .i64 lo,.int .i64 hi] 84)):=(Below.refl _ _).alloc (Nat.le_refl _) _;have hR:=Row.new w [.int .i64 lo,.int .i64 hi] 84;have hs1:w.heap.size < (w.alloc (.cells #[.int .i64 lo,.int .i64 hi] 84)).heap.size:=by simp
 obtain ⟨V0,hV0⟩:∃ V0,w.alloc (.cells #[.int .i64 lo,.int .i64 hi] 84)=V0:=⟨_,rfl⟩
 replace hR:Row V0 w.heap.size [.int .i64 lo,.int .i64 hi]:=hV0▸hR;rw[hV0] at hal hs1 ⊢;clear hV0;refine wp_region_still_tail 9 bB bB ?_;change wpStill _ _ V0.drew (fun a'=>wpList _ _ _ _ a' V0.drew) _ _;replace hal:=hal.drew;replace hR:Row V0.drew w.heap.size [.int .i64 lo,.int .i64 hi]:=hR.step rfl;replace hs1:w.heap.size < V0.drew.heap.size:=hs1
 obtain ⟨V,hV⟩:∃ V,V0.drew=V:=⟨_,rfl⟩
 rw[hV] at hal hR hs1 ⊢;clear hV;have d0:V.cell? ⟨b,0,none⟩=some (.string p.s):=(hal.cell (p:=⟨b,0,none⟩) hb).trans h0;have d1:=hR.at 0 _ rfl;have d2:=hR.at 1 _ rfl;simp only[List.take_succ_cons,List.take_zero,List.drop_succ_cons,List.drop_zero]
 repeat still_step
 refine wpStill_nil ?_;have HB1:=cD hal;have HR1:=cD hR;clear hal hR d0 d1 d2 h0;go_wp2_with fail
 refine (cl V).mono ?_;rintro e w2 ⟨rfl,hb2⟩;have HB2:=cD (eH HB1.out hb2);have HR2:=cD (HR1.out.below hb2 hs1);have hs2:=Nat.lt_of_lt_of_le hs1 hb2.size;have HP2:=cD (HP.out.below HB2.out);have HS2:=cD (HS.out.below (HB0.out.trans (HB2.out.mono HB0.out.size)));have d1:=HR2.out.at 0 _ rfl;have d2:=HR2.out.at 1 _ rfl;have hI:=cD (HP.out.new_ne (Nat.le_refl _));clear hb2 cl;have s2:=HS2.out.row.at 2 _ rfl;have fne:=zP (.func 79) #[] #[.pointer (some ⟨sb,0,none⟩)];have cd:=oM HS2.out.site OS x ⟨#[]⟩;rw[HX.out] at hd;rw[hd] at cd;clear hd;go_wp2_with fail
 refine cd.mono ?_;rintro e w3 ⟨rfl,hb3⟩;clear cd;have HP3:=cD (HP2.out.below hb3);have HB3:=cD (eH HB2.out hb3);replace d1:=(hb3.cell (p:=⟨w.heap.size,0,none⟩) hs2).trans d1;replace d2:=(hb3.cell (p:=⟨w.heap.size,1,none⟩) hs2).trans d2;clear hb3;go_upto_region 18 with fail
 have qa_0:=HP3.out.row.at 6 _ rfl;have qa_f:=HP3.out.row.free 6 bG;have qa_b:=HP3.out.lt;have qa_B:w0.heap.size≤w3.heap.size:=Nat.le_trans HP3.out.base (Nat.le_of_lt qa_b);have qa_n:=cD HP3.out.nk;have qa_o:=cD HP3.out.ok;refine iH (n:=11) (S:=fun w'=>w'.cell? ⟨b,6,none⟩=some vk∧w'.cell? ⟨w.heap.size,0,none⟩=some (.int .i64 lo)∧w'.cell? ⟨w.heap.size,1,none⟩=some (.int .i64 hi)) (ds:=[10]) #[false,false,false,false,false,false,false,false,false,false,false] bB rfl rfl ⟨qa_0,d1,d2⟩ (fun hHeld=>?_);refine sA1 0 (some 125) sB1 ?_
 refine sA1 1 (some 126) sB1 ?_
 refine sA1 2 (some 127) sB1 ?_
 refine sA1 3 (some 128) sB1 ?_
 refine sC1 4 (some 129) sD1 ?_
 refine sC1 5 (some 130) sD1 ?_
 refine hL (i:=6) (N:=some 131) #[true,true,true,true,true,true,true,false,false,false,false] rfl rfl bB bF (fun K hK=>?_);refine lD (w1:=?_) (v:=?_) bH rfl ?_ ?_;rotate_left 2
 ·go_simp;constructor
  ·rfl
  rfl
 have aa_h:Below w3.heap.size w3 (w3.drew.alloc (.cells ([.int .i64 lo,.int .i64 hi]:List Value).toArray 84)):=(Below.refl _ _).drew.alloc (Nat.le_refl _) _;refine hK.out _ _ ⟨((aa_h.cell (p:=⟨b,6,none⟩) (World.block_lt_of_cell? w3 ⟨b,6,none⟩ qa_0)).trans qa_0),((aa_h.cell (p:=⟨w.heap.size,0,none⟩) (World.block_lt_of_cell? w3 ⟨w.heap.size,0,none⟩ d1)).trans d1),((aa_h.cell (p:=⟨w.heap.size,1,none⟩) (World.block_lt_of_cell? w3 ⟨w.heap.size,1,none⟩ d2)).trans d2)⟩ (fun hHeld=>?_);clear hK K;refine gO (a':=?_) ?_ ?_;rotate_left
 ·show Act.put _ (some 131) _=_;simp only[Act.put,cE,cG,cH,fE,fI];rfl
 refine hL (i:=7) (N:=some 132) #[true,true,true,true,true,true,true,true,false,false,false] rfl rfl bB bF (fun K hK=>?_);refine gP (w0:=w3) (W:=w3.drew) w0.heap.size bH (.tmp 129) (.tmp 131) 82 84 _ 2 16 bH Tryz.underlying82 mL rfl bF bF vk p.known.length (pairs p.known) [.int .i64 lo,.int .i64 hi] bH bH bH bN qa_o.out ((Below.refl _ _).drew) qa_B bA ?_;intro va war oa bba ga ta;obtain ⟨Aa,ca,eva⟩:=fX oa;subst eva;have xa_0:=ga.cell (w:=w3.drew) (a:=⟨b,6,none⟩) qa_0 qa_n.out;have xa_f:=(World.frozen?_of_block (w:=w3.drew) (a:=⟨b,6,none⟩) (ga.block b qa_b qa_n.out)).trans qa_f;have xa_1:=ga.cell (w:=w3.drew) (a:=⟨w.heap.size,0,none⟩) d1 hI.out.2.1
 have xa_2:=ga.cell (w:=w3.drew) (a:=⟨w.heap.size,1,none⟩) d2 hI.out.2.1
 have gga:w3.grownBy war vk.ownBlock:=⟨ga.os,ga.tape,ga.output,ga.size,ga.block⟩
 obtain ⟨hpa,hma⟩:=kK HP3.out (lo,hi) (w':=war) oa gga ta;have HPa:=cD hpa;have HMa:=cD hma;clear hpa hma oa bba ga gga ta;refine hK.out _ _ ⟨xa_0,xa_1,xa_2⟩ (fun hHeld=>?_);clear hK K;refine gO (a':=?_) ?_ ?_;rotate_left
 ·show Act.put _ (some 132) _=_;simp only[Act.put,cE,cG,cH,fE,fI];rfl
 refine sA1 8 (some 133) sB1 ?_
 refine sA1 9 (some 134) sB1 ?_
 refine iX (i:=10) (N:=none) #[true,true,true,true,true,true,true,true,true,true,true] rfl rfl bB bF (fun K hK=>?_);refine iW (w1:=?_) bH rfl ?_ ?_;rotate_left
 ·go_simp;rfl
 refine hK.out _ _ ?_;clear hK K;refine iT bB ?_;clear d1 d2 xa_0 xa_f xa_1 xa_2 qa_0 qa_f qa_b qa_B qa_n qa_o aa_h
 obtain ⟨Wa,hWa⟩:∃ W,war.setCell ⟨b,6,none⟩ (.slice Aa (p.known.length+1) ca)=W:=⟨_,rfl⟩
 replace HPa:Aside0 (eP Wa w0.heap.size b { p with known:=p.known++[((lo:Int),(hi:Int))] } (.slice Aa (p.known.length+1) ca) vu vl u):=hWa▸HPa;replace HMa:Aside0 (fG w3 Wa b vk vu vl (.slice Aa (p.known.length+1) ca) vu vl):=hWa▸HMa;rw[hWa];clear hWa;have z4:IntKind.i64.wrap (p.known.length:Int)=(p.known.length:Int):=by rw[IntWalk.i64_in _ bA]
 have k6:=HPa.out.row.at 6 _ rfl;have k7:=HPa.out.row.at 17 _ rfl;have k8:=HPa.out.row.free 17 bG;go_wp2_with fail
 obtain ⟨hpc,hmc⟩:=gF HPa.out 17 (.int .i64 p.known.length) { p with known:=p.known++[((lo:Int),(hi:Int))],pfmt:=p.known.length } u rfl rfl rfl rfl bA;go_ret;exact ⟨rfl,_,_,hpc,((fG.of_below HB3.out).trans HMa.out).trans hmc⟩
set_option maxRecDepth 100000 in
set_option maxHeartbeats 4000000 in
theorem aA7 (S:iZ w0 pb st sl sd sf sc mb sb fb) (OS:jT st) (hB:Below w0.heap.size w0 w) (H:eP w w0.heap.size b p vk vu vl u) (osz:p.s.size≤1000000) (okl:p.known.length≤1000000) (oll:p.plangs.length≤1000000) (comp:ByteArray) (lo hi:Nat) (q1:lo≤hi) (q2:hi≤p.s.size) (hasc:asc (p.s.extract lo hi)) (hc:(comp.toList==[108,97,121,111,117,116,115])=true) (hd:lX st.fmts (jU (p.s.extract lo hi)) ⟨#[]⟩=false) :
 Calls Tryz.prog 139 #[.pointer (some ⟨pb,0,none⟩),.string comp,.string ⟨#[111,117,116,112,117,116,102,111,114,109,97,116,95]⟩,.pointer (some ⟨b,0,none⟩),.agg #[.int .i64 lo,.int .i64 hi]] w fun e w' =>
  e = .returned (.bool false)∧Below w.heap.size w w':=by
 have HP:=cD H;have hb:=H.lt;have HS:=cD S;have HB0:=cD hB;have hsz:(p.s.extract lo hi).size≤1000000:=Nat.le_trans (iV _ _ _) osz;have cl:=fun W=>Tryz.strings_ToLower_ascii (p.s.extract lo hi) W bA hasc
 obtain ⟨x,hx⟩:∃ x,jU (p.s.extract lo hi)=x:=⟨_,rfl⟩
 rw[show (⟨(Lib.toLowerA (p.s.extract lo hi).data.toList).toArray⟩:ByteArray)=x from hx] at cl;have hxz:x.size≤1000000:=by rw[← hx,lC];exact hsz
 have HX:=cD hx;have h0:=H.row.at 0 _ rfl;have mne:=nF mb;clear H S hB hasc hx;go_enter Tryz.func139,Tryz.ntmps139;go_upto_region 1 with fail
 have hal:Below w.heap.size w (w.alloc (.cells #[.int .i64 lo,.int .i64 hi] 84)):=(Below.refl _ _).alloc (Nat.le_refl _) _;have hR:=Row.new w [.int .i64 lo,.int .i64 hi] 84;have hs1:w.heap.size < (w.alloc (.cells #[.int .i64 lo,.int .i64 hi] 84)).heap.size:=by simp
 obtain ⟨V0,hV0⟩:∃ V0,w.alloc (.cells #[.int .i64 lo,.int .i64 hi] 84)=V0:=⟨_,rfl⟩
 replace hR:Row V0 w.heap.size [.int .i64 lo,.int .i64 hi]:=hV0▸hR;rw[hV0] at hal hs1 ⊢;clear hV0;refine wp_region_still_tail 9 bB bB ?_;change wpStill _ _ V0.drew (fun a'=>wpList _ _ _ _ a' V0.drew) _ _;replace hal:=hal.drew;replace hR:Row V0.drew w.heap.size [.int .i64 lo,.int .i64 hi]:=hR.step rfl;replace hs1:w.heap.size < V0.drew.heap.size:=hs1
 obtain ⟨V,hV⟩:∃ V,V0.drew=V:=⟨_,rfl⟩
 rw[hV] at hal hR hs1 ⊢;clear hV;have d0:V.cell? ⟨b,0,none⟩=some (.string p.s):=(hal.cell (p:=⟨b,0,none⟩) hb).trans h0;have d1:=hR.at 0 _ rfl;have d2:=hR.at 1 _ rfl;simp only[List.take_succ_cons,List.take_zero,List.drop_succ_cons,List.drop_zero]
 repeat still_step
 refine wpStill_nil ?_;have HB1:=cD hal;have HR1:=cD hR;clear hal hR d0 d1 d2 h0;go_wp2_with fail
 refine (cl V).mono ?_;rintro e w2 ⟨rfl,hb2⟩;have HB2:=cD (eH HB1.out hb2);have HR2:=cD (HR1.out.below hb2 hs1);have hs2:=Nat.lt_of_lt_of_le hs1 hb2.size;have HP2:=cD (HP.out.below HB2.out);have HS2:=cD (HS.out.below (HB0.out.trans (HB2.out.mono HB0.out.size)));have d1:=HR2.out.at 0 _ rfl;have d2:=HR2.out.at 1 _ rfl;have hI:=cD (HP.out.new_ne (Nat.le_refl _));clear hb2 cl;have s2:=HS2.out.row.at 2 _ rfl;have fne:=zP (.func 79) #[] #[.pointer (some ⟨sb,0,none⟩)];have cd:=oM HS2.out.site OS x ⟨#[]⟩;rw[HX.out] at hd;rw[hd] at cd;clear hd;go_wp2_with fail
 refine cd.mono ?_;rintro e w3 ⟨rfl,hb3⟩;clear cd;have HB3:=cD (eH HB2.out hb3);clear hb3;go_wp2_with fail
 go_ret;exact ⟨rfl,HB3.out⟩
set_option maxRecDepth 100000 in
set_option maxHeartbeats 4000000 in
theorem yU (S:iZ w0 pb st sl sd sf sc mb sb fb) (OS:jT st) (hB:Below w0.heap.size w0 w) (H:eP w w0.heap.size b p vk vu vl u) (osz:p.s.size≤1000000) (okl:p.known.length≤1000000) (oll:p.plangs.length≤1000000) (comp:ByteArray) (lo hi:Nat) (q1:lo≤hi) (q2:hi≤p.s.size) (hasc:asc (p.s.extract lo hi)) (hc:(comp.toList==[108,97,121,111,117,116,115])=false) :
 Calls Tryz.prog 139 #[.pointer (some ⟨pb,0,none⟩),.string comp,.string ⟨#[111,117,116,112,117,116,102,111,114,109,97,116,95]⟩,.pointer (some ⟨b,0,none⟩),.agg #[.int .i64 lo,.int .i64 hi]] w fun e w' =>
  e = .returned (.bool false)∧Below w.heap.size w w':=by
 have HP:=cD H;have hb:=H.lt;have HS:=cD S;have HB0:=cD hB;have hsz:(p.s.extract lo hi).size≤1000000:=Nat.le_trans (iV _ _ _) osz;have cl:=fun W=>Tryz.strings_ToLower_ascii (p.s.extract lo hi) W bA hasc
 obtain ⟨x,hx⟩:∃ x,jU (p.s.extract lo hi)=x:=⟨_,rfl⟩
 rw[show (⟨(Lib.toLowerA (p.s.extract lo hi).data.toList).toArray⟩:ByteArray)=x from hx] at cl;have hxz:x.size≤1000000:=by rw[← hx,lC];exact hsz
 have HX:=cD hx;have h0:=H.row.at 0 _ rfl;have mne:=nF mb;clear H S hB hasc hx;go_enter Tryz.func139,Tryz.ntmps139;go_upto_region 1 with fail
 have hal:Below w.heap.size w (w.alloc (.cells #[.int .i64 lo,.int .i64 hi] 84)):=(Below.refl _ _).alloc (Nat.le_refl _) _;have hR:=Row.new w [.int .i64 lo,.int .i64 hi] 84;have hs1:w.heap.size < (w.alloc (.cells #[.int .i64 lo,.int .i64 hi] 84)).heap.size:=by simp
 obtain ⟨V0,hV0⟩:∃ V0,w.alloc (.cells #[.int .i64 lo,.int .i64 hi] 84)=V0:=⟨_,rfl⟩
 replace hR:Row V0 w.heap.size [.int .i64 lo,.int .i64 hi]:=hV0▸hR;rw[hV0] at hal hs1 ⊢;clear hV0;refine wp_region_still_tail 9 bB bB ?_;change wpStill _ _ V0.drew (fun a'=>wpList _ _ _ _ a' V0.drew) _ _;replace hal:=hal.drew;replace hR:Row V0.drew w.heap.size [.int .i64 lo,.int .i64 hi]:=hR.step rfl;replace hs1:w.heap.size < V0.drew.heap.size:=hs1
 obtain ⟨V,hV⟩:∃ V,V0.drew=V:=⟨_,rfl⟩
 rw[hV] at hal hR hs1 ⊢;clear hV;have d0:V.cell? ⟨b,0,none⟩=some (.string p.s):=(hal.cell (p:=⟨b,0,none⟩) hb).trans h0;have d1:=hR.at 0 _ rfl;have d2:=hR.at 1 _ rfl;simp only[List.take_succ_cons,List.take_zero,List.drop_succ_cons,List.drop_zero]
 repeat still_step
 refine wpStill_nil ?_;have HB1:=cD hal;have HR1:=cD hR;clear hal hR d0 d1 d2 h0;go_wp2_with fail
 refine (cl V).mono ?_;rintro e w2 ⟨rfl,hb2⟩;have HB2:=cD (eH HB1.out hb2);have HR2:=cD (HR1.out.below hb2 hs1);have hs2:=Nat.lt_of_lt_of_le hs1 hb2.size;have HP2:=cD (HP.out.below HB2.out);have HS2:=cD (HS.out.below (HB0.out.trans (HB2.out.mono HB0.out.size)));have d1:=HR2.out.at 0 _ rfl;have d2:=HR2.out.at 1 _ rfl;have hI:=cD (HP.out.new_ne (Nat.le_refl _));clear hb2 cl;go_wp2_with fail
 go_ret;exact ⟨rfl,HB2.out⟩
set_option maxRecDepth 100000 in
set_option maxHeartbeats 4000000 in
theorem aEg (S:iZ w0 pb st sl sd sf sc mb sb fb) (OS:jT st) (hB:Below w0.heap.size w0 w) (H:eP w w0.heap.size b p vk vu vl u) (osz:p.s.size≤1000000) (okl:p.known.length≤1000000) (oll:p.plangs.length≤1000000) (comp:ByteArray) (lo hi:Nat) (q1:lo≤hi) (q2:hi≤p.s.size) (hasc:asc (p.s.extract lo hi)) (hc:(comp.toList==[108,97,121,111,117,116,115])=true) (hd:oN (Lib.toLowerA (L (jU (p.s.extract lo hi))))=true) :
 Calls Tryz.prog 139 #[.pointer (some ⟨pb,0,none⟩),.string comp,.string ⟨#[107,105,110,100,95]⟩,.pointer (some ⟨b,0,none⟩),.agg #[.int .i64 lo,.int .i64 hi]] w fun e w' =>
  e = .returned (.bool true)∧∃ vk' vl',eP w' w0.heap.size b { p with known:=p.known++[((lo:Int),(hi:Int))],pkind:=p.known.length } vk' vu vl' u∧fG w w' b vk vu vl vk' vu vl':=by
 have HA:=cD hasc;have HP:=cD H;have hb:=H.lt;have HS:=cD S;have HB0:=cD hB;have hsz:(p.s.extract lo hi).size≤1000000:=Nat.le_trans (iV _ _ _) osz;have cl:=fun W=>Tryz.strings_ToLower_ascii (p.s.extract lo hi) W bA hasc
 obtain ⟨x,hx⟩:∃ x,jU (p.s.extract lo hi)=x:=⟨_,rfl⟩
 rw[show (⟨(Lib.toLowerA (p.s.extract lo hi).data.toList).toArray⟩:ByteArray)=x from hx] at cl;have hxz:x.size≤1000000:=by rw[← hx,lC];exact hsz
 have HX:=cD hx;have h0:=H.row.at 0 _ rfl;have mne:=nF mb;clear H S hB hasc hx;go_enter Tryz.func139,Tryz.ntmps139;go_upto_region 1 with fail
 have hal:Below w.heap.size w (w.alloc (.cells #[.int .i64 lo,.int .i64 hi] 84)):=(Below.refl _ _).alloc (Nat.le_refl _) _;have hR:=Row.new w [.int .i64 lo,.int .i64 hi] 84;have hs1:w.heap.size < (w.alloc (.cells #[.int .i64 lo,.int .i64 hi] 84)).heap.size:=by simp
 obtain ⟨V0,hV0⟩:∃ V0,w.alloc (.cells #[.int .i64 lo,.int .i64 hi] 84)=V0:=⟨_,rfl⟩
 replace hR:Row V0 w.heap.size [.int .i64 lo,.int .i64 hi]:=hV0▸hR;rw[hV0] at hal hs1 ⊢;clear hV0;refine wp_region_still_tail 9 bB bB ?_;change wpStill _ _ V0.drew (fun a'=>wpList _ _ _ _ a' V0.drew) _ _;replace hal:=hal.drew;replace hR:Row V0.drew w.heap.size [.int .i64 lo,.int .i64 hi]:=hR.step rfl;replace hs1:w.heap.size < V0.drew.heap.size:=hs1
 obtain ⟨V,hV⟩:∃ V,V0.drew=V:=⟨_,rfl⟩
 rw[hV] at hal hR hs1 ⊢;clear hV;have d0:V.cell? ⟨b,0,none⟩=some (.string p.s):=(hal.cell (p:=⟨b,0,none⟩) hb).trans h0;have d1:=hR.at 0 _ rfl;have d2:=hR.at 1 _ rfl;simp only[List.take_succ_cons,List.take_zero,List.drop_succ_cons,List.drop_zero]
 repeat still_step
 refine wpStill_nil ?_;have HB1:=cD hal;have HR1:=cD hR;clear hal hR d0 d1 d2 h0;go_wp2_with fail
 refine (cl V).mono ?_;rintro e w2 ⟨rfl,hb2⟩;have HB2:=cD (eH HB1.out hb2);have HR2:=cD (HR1.out.below hb2 hs1);have hs2:=Nat.lt_of_lt_of_le hs1 hb2.size;have HP2:=cD (HP.out.below HB2.out);have HS2:=cD (HS.out.below (HB0.out.trans (HB2.out.mono HB0.out.size)));have d1:=HR2.out.at 0 _ rfl;have d2:=HR2.out.at 1 _ rfl;have hI:=cD (HP.out.new_ne (Nat.le_refl _));clear hb2 cl;have hax:∀ (j:Nat) (b:UInt8),x.data.toList[j]? = some b→b.toNat < 128:=by rw[← HX.out];exact aB0 _ HA.out
 have cd:=oU x w2 hxz hax;rw[HX.out] at hd;go_wp2_with fail
 refine cd.mono ?_;rintro e w3 ⟨r,rfl,hr,hb3⟩;rw[hd] at hr;have hr2:(r.toList==[])=false:=hr;clear cd hd hr;have HP3:=cD (HP2.out.below hb3);have HB3:=cD (eH HB2.out hb3);replace d1:=(hb3.cell (p:=⟨w.heap.size,0,none⟩) hs2).trans d1;replace d2:=(hb3.cell (p:=⟨w.heap.size,1,none⟩) hs2).trans d2;clear hb3;go_upto_region 24 with fail
 have qa_0:=HP3.out.row.at 6 _ rfl;have qa_f:=HP3.out.row.free 6 bG;have qa_b:=HP3.out.lt;have qa_B:w0.heap.size≤w3.heap.size:=Nat.le_trans HP3.out.base (Nat.le_of_lt qa_b);have qa_n:=cD HP3.out.nk;have qa_o:=cD HP3.out.ok;refine iH (n:=11) (S:=fun w'=>w'.cell? ⟨b,6,none⟩=some vk∧w'.cell? ⟨w.heap.size,0,none⟩=some (.int .i64 lo)∧w'.cell? ⟨w.heap.size,1,none⟩=some (.int .i64 hi)) (ds:=[10]) #[false,false,false,false,false,false,false,false,false,false,false] bB rfl rfl ⟨qa_0,d1,d2⟩ (fun hHeld=>?_);refine sA1 0 (some 151) sB1 ?_
 refine sA1 1 (some 152) sB1 ?_
 refine sA1 2 (some 153) sB1 ?_
 refine sA1 3 (some 154) sB1 ?_
 refine sC1 4 (some 155) sD1 ?_
 refine sC1 5 (some 156) sD1 ?_
 refine hL (i:=6) (N:=some 157) #[true,true,true,true,true,true,true,false,false,false,false] rfl rfl bB bF (fun K hK=>?_);refine lD (w1:=?_) (v:=?_) bH rfl ?_ ?_;rotate_left 2
 ·go_simp;constructor
  ·rfl
  rfl
 have aa_h:Below w3.heap.size w3 (w3.drew.alloc (.cells ([.int .i64 lo,.int .i64 hi]:List Value).toArray 84)):=(Below.refl _ _).drew.alloc (Nat.le_refl _) _;refine hK.out _ _ ⟨((aa_h.cell (p:=⟨b,6,none⟩) (World.block_lt_of_cell? w3 ⟨b,6,none⟩ qa_0)).trans qa_0),((aa_h.cell (p:=⟨w.heap.size,0,none⟩) (World.block_lt_of_cell? w3 ⟨w.heap.size,0,none⟩ d1)).trans d1),((aa_h.cell (p:=⟨w.heap.size,1,none⟩) (World.block_lt_of_cell? w3 ⟨w.heap.size,1,none⟩ d2)).trans d2)⟩ (fun hHeld=>?_);clear hK K;refine gO (a':=?_) ?_ ?_;rotate_left
 ·show Act.put _ (some 157) _=_;simp only[Act.put,cE,cG,cH,fE,fI];rfl
 refine hL (i:=7) (N:=some 158) #[true,true,true,true,true,true,true,true,false,false,false] rfl rfl bB bF (fun K hK=>?_);refine gP (w0:=w3) (W:=w3.drew) w0.heap.size bH (.tmp 155) (.tmp 157) 82 84 _ 2 16 bH Tryz.underlying82 mL rfl bF bF vk p.known.length (pairs p.known) [.int .i64 lo,.int .i64 hi] bH bH bH bN qa_o.out ((Below.refl _ _).drew) qa_B bA ?_;intro va war oa bba ga ta;obtain ⟨Aa,ca,eva⟩:=fX oa;subst eva;have xa_0:=ga.cell (w:=w3.drew) (a:=⟨b,6,none⟩) qa_0 qa_n.out;have xa_f:=(World.frozen?_of_block (w:=w3.drew) (a:=⟨b,6,none⟩) (ga.block b qa_b qa_n.out)).trans qa_f;have xa_1:=ga.cell (w:=w3.drew) (a:=⟨w.heap.size,0,none⟩) d1 hI.out.2.1
 have xa_2:=ga.cell (w:=w3.drew) (a:=⟨w.heap.size,1,none⟩) d2 hI.out.2.1
 have gga:w3.grownBy war vk.ownBlock:=⟨ga.os,ga.tape,ga.output,ga.size,ga.block⟩
 obtain ⟨hpa,hma⟩:=kK HP3.out (lo,hi) (w':=war) oa gga ta;have HPa:=cD hpa;have HMa:=cD hma;clear hpa hma oa bba ga gga ta;refine hK.out _ _ ⟨xa_0,xa_1,xa_2⟩ (fun hHeld=>?_);clear hK K;refine gO (a':=?_) ?_ ?_;rotate_left
 ·show Act.put _ (some 158) _=_;simp only[Act.put,cE,cG,cH,fE,fI];rfl
 refine sA1 8 (some 159) sB1 ?_
 refine sA1 9 (some 160) sB1 ?_
 refine iX (i:=10) (N:=none) #[true,true,true,true,true,true,true,true,true,true,true] rfl rfl bB bF (fun K hK=>?_);refine iW (w1:=?_) bH rfl ?_ ?_;rotate_left
 ·go_simp;rfl
 refine hK.out _ _ ?_;clear hK K;refine iT bB ?_;clear d1 d2 xa_0 xa_f xa_1 xa_2 qa_0 qa_f qa_b qa_B qa_n qa_o aa_h
 obtain ⟨Wa,hWa⟩:∃ W,war.setCell ⟨b,6,none⟩ (.slice Aa (p.known.length+1) ca)=W:=⟨_,rfl⟩
 replace HPa:Aside0 (eP Wa w0.heap.size b { p with known:=p.known++[((lo:Int),(hi:Int))] } (.slice Aa (p.known.length+1) ca) vu vl u):=hWa▸HPa;replace HMa:Aside0 (fG w3 Wa b vk vu vl (.slice Aa (p.known.length+1) ca) vu vl):=hWa▸HMa;rw[hWa];clear hWa;have z4:IntKind.i64.wrap (p.known.length:Int)=(p.known.length:Int):=by rw[IntWalk.i64_in _ bA]
 have k6:=HPa.out.row.at 6 _ rfl;have k7:=HPa.out.row.at 18 _ rfl;have k8:=HPa.out.row.free 18 bG;go_wp2_with fail
 obtain ⟨hpc,hmc⟩:=gF HPa.out 18 (.int .i64 p.known.length) { p with known:=p.known++[((lo:Int),(hi:Int))],pkind:=p.known.length } u rfl rfl rfl rfl bA;go_ret;exact ⟨rfl,_,_,hpc,((fG.of_below HB3.out).trans HMa.out).trans hmc⟩
set_option maxRecDepth 100000 in
set_option maxHeartbeats 4000000 in
theorem aAm (S:iZ w0 pb st sl sd sf sc mb sb fb) (OS:jT st) (hB:Below w0.heap.size w0 w) (H:eP w w0.heap.size b p vk vu vl u) (osz:p.s.size≤1000000) (okl:p.known.length≤1000000) (oll:p.plangs.length≤1000000) (comp:ByteArray) (lo hi:Nat) (q1:lo≤hi) (q2:hi≤p.s.size) (hasc:asc (p.s.extract lo hi)) (hc:(comp.toList==[108,97,121,111,117,116,115])=true) (hd:oN (Lib.toLowerA (L (jU (p.s.extract lo hi))))=false) :
 Calls Tryz.prog 139 #[.pointer (some ⟨pb,0,none⟩),.string comp,.string ⟨#[107,105,110,100,95]⟩,.pointer (some ⟨b,0,none⟩),.agg #[.int .i64 lo,.int .i64 hi]] w fun e w' =>
  e = .returned (.bool false)∧Below w.heap.size w w':=by
 have HA:=cD hasc;have HP:=cD H;have hb:=H.lt;have HS:=cD S;have HB0:=cD hB;have hsz:(p.s.extract lo hi).size≤1000000:=Nat.le_trans (iV _ _ _) osz;have cl:=fun W=>Tryz.strings_ToLower_ascii (p.s.extract lo hi) W bA hasc
 obtain ⟨x,hx⟩:∃ x,jU (p.s.extract lo hi)=x:=⟨_,rfl⟩
 rw[show (⟨(Lib.toLowerA (p.s.extract lo hi).data.toList).toArray⟩:ByteArray)=x from hx] at cl;have hxz:x.size≤1000000:=by rw[← hx,lC];exact hsz
 have HX:=cD hx;have h0:=H.row.at 0 _ rfl;have mne:=nF mb;clear H S hB hasc hx;go_enter Tryz.func139,Tryz.ntmps139;go_upto_region 1 with fail
 have hal:Below w.heap.size w (w.alloc (.cells #[.int .i64 lo,.int .i64 hi] 84)):=(Below.refl _ _).alloc (Nat.le_refl _) _;have hR:=Row.new w [.int .i64 lo,.int .i64 hi] 84;have hs1:w.heap.size < (w.alloc (.cells #[.int .i64 lo,.int .i64 hi] 84)).heap.size:=by simp
 obtain ⟨V0,hV0⟩:∃ V0,w.alloc (.cells #[.int .i64 lo,.int .i64 hi] 84)=V0:=⟨_,rfl⟩
 replace hR:Row V0 w.heap.size [.int .i64 lo,.int .i64 hi]:=hV0▸hR;rw[hV0] at hal hs1 ⊢;clear hV0;refine wp_region_still_tail 9 bB bB ?_;change wpStill _ _ V0.drew (fun a'=>wpList _ _ _ _ a' V0.drew) _ _;replace hal:=hal.drew;replace hR:Row V0.drew w.heap.size [.int .i64 lo,.int .i64 hi]:=hR.step rfl;replace hs1:w.heap.size < V0.drew.heap.size:=hs1
 obtain ⟨V,hV⟩:∃ V,V0.drew=V:=⟨_,rfl⟩
 rw[hV] at hal hR hs1 ⊢;clear hV;have d0:V.cell? ⟨b,0,none⟩=some (.string p.s):=(hal.cell (p:=⟨b,0,none⟩) hb).trans h0;have d1:=hR.at 0 _ rfl;have d2:=hR.at 1 _ rfl;simp only[List.take_succ_cons,List.take_zero,List.drop_succ_cons,List.drop_zero]
 repeat still_step
 refine wpStill_nil ?_;have HB1:=cD hal;have HR1:=cD hR;clear hal hR d0 d1 d2 h0;go_wp2_with fail
 refine (cl V).mono ?_;rintro e w2 ⟨rfl,hb2⟩;have HB2:=cD (eH HB1.out hb2);have HR2:=cD (HR1.out.below hb2 hs1);have hs2:=Nat.lt_of_lt_of_le hs1 hb2.size;have HP2:=cD (HP.out.below HB2.out);have HS2:=cD (HS.out.below (HB0.out.trans (HB2.out.mono HB0.out.size)));have d1:=HR2.out.at 0 _ rfl;have d2:=HR2.out.at 1 _ rfl;have hI:=cD (HP.out.new_ne (Nat.le_refl _));clear hb2 cl;have hax:∀ (j:Nat) (b:UInt8),x.data.toList[j]? = some b→b.toNat < 128:=by rw[← HX.out];exact aB0 _ HA.out
 have cd:=oU x w2 hxz hax;rw[HX.out] at hd;go_wp2_with fail
 refine cd.mono ?_;rintro e w3 ⟨r,rfl,hr,hb3⟩;rw[hd] at hr;have hr2:(r.toList==[])=true:=hr;clear cd hd hr;have HB3:=cD (eH HB2.out hb3);clear hb3;go_wp2_with fail
 go_ret;exact ⟨rfl,HB3.out⟩
set_option maxRecDepth 100000 in
set_option maxHeartbeats 4000000 in
theorem xL (S:iZ w0 pb st sl sd sf sc mb sb fb) (OS:jT st) (hB:Below w0.heap.size w0 w) (H:eP w w0.heap.size b p vk vu vl u) (osz:p.s.size≤1000000) (okl:p.known.length≤1000000) (oll:p.plangs.length≤1000000) (comp:ByteArray) (lo hi:Nat) (q1:lo≤hi) (q2:hi≤p.s.size) (hasc:asc (p.s.extract lo hi)) (hc:(comp.toList==[108,97,121,111,117,116,115])=false) :
 Calls Tryz.prog 139 #[.pointer (some ⟨pb,0,none⟩),.string comp,.string ⟨#[107,105,110,100,95]⟩,.pointer (some ⟨b,0,none⟩),.agg #[.int .i64 lo,.int .i64 hi]] w fun e w' =>
  e = .returned (.bool false)∧Below w.heap.size w w':=by
 have HP:=cD H;have hb:=H.lt;have HS:=cD S;have HB0:=cD hB;have hsz:(p.s.extract lo hi).size≤1000000:=Nat.le_trans (iV _ _ _) osz;have cl:=fun W=>Tryz.strings_ToLower_ascii (p.s.extract lo hi) W bA hasc
 obtain ⟨x,hx⟩:∃ x,jU (p.s.extract lo hi)=x:=⟨_,rfl⟩
 rw[show (⟨(Lib.toLowerA (p.s.extract lo hi).data.toList).toArray⟩:ByteArray)=x from hx] at cl;have hxz:x.size≤1000000:=by rw[← hx,lC];exact hsz
 have HX:=cD hx;have h0:=H.row.at 0 _ rfl;have mne:=nF mb;clear H S hB hasc hx;go_enter Tryz.func139,Tryz.ntmps139;go_upto_region 1 with fail
 have hal:Below w.heap.size w (w.alloc (.cells #[.int .i64 lo,.int .i64 hi] 84)):=(Below.refl _ _).alloc (Nat.le_refl _) _;have hR:=Row.new w [.int .i64 lo,.int .i64 hi] 84;have hs1:w.heap.size < (w.alloc (.cells #[.int .i64 lo,.int .i64 hi] 84)).heap.size:=by simp
 obtain ⟨V0,hV0⟩:∃ V0,w.alloc (.cells #[.int .i64 lo,.int .i64 hi] 84)=V0:=⟨_,rfl⟩
 replace hR:Row V0 w.heap.size [.int .i64 lo,.int .i64 hi]:=hV0▸hR;rw[hV0] at hal hs1 ⊢;clear hV0;refine wp_region_still_tail 9 bB bB ?_;change wpStill _ _ V0.drew (fun a'=>wpList _ _ _ _ a' V0.drew) _ _;replace hal:=hal.drew;replace hR:Row V0.drew w.heap.size [.int .i64 lo,.int .i64 hi]:=hR.step rfl;replace hs1:w.heap.size < V0.drew.heap.size:=hs1
 obtain ⟨V,hV⟩:∃ V,V0.drew=V:=⟨_,rfl⟩
 rw[hV] at hal hR hs1 ⊢;clear hV;have d0:V.cell? ⟨b,0,none⟩=some (.string p.s):=(hal.cell (p:=⟨b,0,none⟩) hb).trans h0;have d1:=hR.at 0 _ rfl;have d2:=hR.at 1 _ rfl;simp only[List.take_succ_cons,List.take_zero,List.drop_succ_cons,List.drop_zero]
 repeat still_step
 refine wpStill_nil ?_;have HB1:=cD hal;have HR1:=cD hR;clear hal hR d0 d1 d2 h0;go_wp2_with fail
 refine (cl V).mono ?_;rintro e w2 ⟨rfl,hb2⟩;have HB2:=cD (eH HB1.out hb2);have HR2:=cD (HR1.out.below hb2 hs1);have hs2:=Nat.lt_of_lt_of_le hs1 hb2.size;have HP2:=cD (HP.out.below HB2.out);have HS2:=cD (HS.out.below (HB0.out.trans (HB2.out.mono HB0.out.size)));have d1:=HR2.out.at 0 _ rfl;have d2:=HR2.out.at 1 _ rfl;have hI:=cD (HP.out.new_ne (Nat.le_refl _));clear hb2 cl;go_wp2_with fail
 go_ret;exact ⟨rfl,HB2.out⟩
end
end Go.Proofs.YtbkobfoaphcamaaGreatDoor.Path
namespace Go.Proofs.YtbkobfoaphcamaaGreatDoor.Path
open Go.RowKit Go.WideMaps Go.Proofs.YtbkobfoaphcamaaGreatDoorW.PrintWords Go.Proofs.YtbkobfoaphcamaaGreatDoorW.PrintLast Go.Proofs.YtbkobfoaphcamaaGreatDoor.Base
section
variable {w0 w:World} {b:Nat} {p:eQ} {vk vu vl u:Value} {pb mb sb fb:Nat} {st:fP} {sl sd sf sc:Value}
set_option maxRecDepth 100000 in
set_option maxHeartbeats 4000000 in
theorem aA8 (S:iZ w0 pb st sl sd sf sc mb sb fb) (OS:jT st) (hB:Below w0.heap.size w0 w) (H:eP w w0.heap.size b p vk vu vl u) (osz:p.s.size≤1000000) (okl:p.known.length≤1000000) (oll:p.plangs.length≤1000000) (comp:ByteArray) (lo hi:Nat) (q1:lo≤hi) (q2:hi≤p.s.size) (hasc:asc (p.s.extract lo hi)) (hc:(comp.toList==[108,97,121,111,117,116,115])=true) :
 Calls Tryz.prog 139 #[.pointer (some ⟨pb,0,none⟩),.string comp,.string ⟨#[108,97,121,111,117,116,95]⟩,.pointer (some ⟨b,0,none⟩),.agg #[.int .i64 lo,.int .i64 hi]] w fun e w' =>
  e = .returned (.bool true)∧∃ vk' vl',eP w' w0.heap.size b { p with known:=p.known++[((lo:Int),(hi:Int))],play:=p.known.length } vk' vu vl' u∧fG w w' b vk vu vl vk' vu vl':=by
 have HP:=cD H;have hb:=H.lt;have HS:=cD S;have HB0:=cD hB;have hsz:(p.s.extract lo hi).size≤1000000:=Nat.le_trans (iV _ _ _) osz;have cl:=fun W=>Tryz.strings_ToLower_ascii (p.s.extract lo hi) W bA hasc
 obtain ⟨x,hx⟩:∃ x,jU (p.s.extract lo hi)=x:=⟨_,rfl⟩
 rw[show (⟨(Lib.toLowerA (p.s.extract lo hi).data.toList).toArray⟩:ByteArray)=x from hx] at cl;have hxz:x.size≤1000000:=by rw[← hx,lC];exact hsz
 have HX:=cD hx;have h0:=H.row.at 0 _ rfl;have mne:=nF mb;clear H S hB hasc hx;go_enter Tryz.func139,Tryz.ntmps139;go_upto_region 1 with fail
 have hal:Below w.heap.size w (w.alloc (.cells #[.int .i64 lo,.int .i64 hi] 84)):=(Below.refl _ _).alloc (Nat.le_refl _) _;have hR:=Row.new w [.int .i64 lo,.int .i64 hi] 84;have hs1:w.heap.size < (w.alloc (.cells #[.int .i64 lo,.int .i64 hi] 84)).heap.size:=by simp
 obtain ⟨V0,hV0⟩:∃ V0,w.alloc (.cells #[.int .i64 lo,.int .i64 hi] 84)=V0:=⟨_,rfl⟩
 replace hR:Row V0 w.heap.size [.int .i64 lo,.int .i64 hi]:=hV0▸hR;rw[hV0] at hal hs1 ⊢;clear hV0;refine wp_region_still_tail 9 bB bB ?_;change wpStill _ _ V0.drew (fun a'=>wpList _ _ _ _ a' V0.drew) _ _;replace hal:=hal.drew;replace hR:Row V0.drew w.heap.size [.int .i64 lo,.int .i64 hi]:=hR.step rfl;replace hs1:w.heap.size < V0.drew.heap.size:=hs1
 obtain ⟨V,hV⟩:∃ V,V0.drew=V:=⟨_,rfl⟩
 rw[hV] at hal hR hs1 ⊢;clear hV;have d0:V.cell? ⟨b,0,none⟩=some (.string p.s):=(hal.cell (p:=⟨b,0,none⟩) hb).trans h0;have d1:=hR.at 0 _ rfl;have d2:=hR.at 1 _ rfl;simp only[List.take_succ_cons,List.take_zero,List.drop_succ_cons,List.drop_zero]
 repeat still_step
 refine wpStill_nil ?_;have HB1:=cD hal;have HR1:=cD hR;clear hal hR d0 d1 d2 h0;go_wp2_with fail
 refine (cl V).mono ?_;rintro e w2 ⟨rfl,hb2⟩;have HB2:=cD (eH HB1.out hb2);have HR2:=cD (HR1.out.below hb2 hs1);have hs2:=Nat.lt_of_lt_of_le hs1 hb2.size;have HP2:=cD (HP.out.below HB2.out);have HS2:=cD (HS.out.below (HB0.out.trans (HB2.out.mono HB0.out.size)));have d1:=HR2.out.at 0 _ rfl;have d2:=HR2.out.at 1 _ rfl;have hI:=cD (HP.out.new_ne (Nat.le_refl _));clear hb2 cl;go_upto_region 29 with fail
 have qa_0:=HP2.out.row.at 6 _ rfl;have qa_f:=HP2.out.row.free 6 bG;have qa_b:=HP2.out.lt;have qa_B:w0.heap.size≤w2.heap.size:=Nat.le_trans HP2.out.base (Nat.le_of_lt qa_b);have qa_n:=cD HP2.out.nk;have qa_o:=cD HP2.out.ok;refine iH (n:=11) (S:=fun w'=>w'.cell? ⟨b,6,none⟩=some vk∧w'.cell? ⟨w.heap.size,0,none⟩=some (.int .i64 lo)∧w'.cell? ⟨w.heap.size,1,none⟩=some (.int .i64 hi)) (ds:=[10]) #[false,false,false,false,false,false,false,false,false,false,false] bB rfl rfl ⟨qa_0,d1,d2⟩ (fun hHeld=>?_);refine sA1 0 (some 174) sB1 ?_
 refine sA1 1 (some 175) sB1 ?_
 refine sA1 2 (some 176) sB1 ?_
 refine sA1 3 (some 177) sB1 ?_
 refine sC1 4 (some 178) sD1 ?_
 refine sC1 5 (some 179) sD1 ?_
 refine hL (i:=6) (N:=some 180) #[true,true,true,true,true,true,true,false,false,false,false] rfl rfl bB bF (fun K hK=>?_);refine lD (w1:=?_) (v:=?_) bH rfl ?_ ?_;rotate_left 2
 ·go_simp;constructor
  ·rfl
  rfl
 have aa_h:Below w2.heap.size w2 (w2.drew.alloc (.cells ([.int .i64 lo,.int .i64 hi]:List Value).toArray 84)):=(Below.refl _ _).drew.alloc (Nat.le_refl _) _;refine hK.out _ _ ⟨((aa_h.cell (p:=⟨b,6,none⟩) (World.block_lt_of_cell? w2 ⟨b,6,none⟩ qa_0)).trans qa_0),((aa_h.cell (p:=⟨w.heap.size,0,none⟩) (World.block_lt_of_cell? w2 ⟨w.heap.size,0,none⟩ d1)).trans d1),((aa_h.cell (p:=⟨w.heap.size,1,none⟩) (World.block_lt_of_cell? w2 ⟨w.heap.size,1,none⟩ d2)).trans d2)⟩ (fun hHeld=>?_);clear hK K;refine gO (a':=?_) ?_ ?_;rotate_left
 ·show Act.put _ (some 180) _=_;simp only[Act.put,cE,cG,cH,fE,fI];rfl
 refine hL (i:=7) (N:=some 181) #[true,true,true,true,true,true,true,true,false,false,false] rfl rfl bB bF (fun K hK=>?_);refine gP (w0:=w2) (W:=w2.drew) w0.heap.size bH (.tmp 178) (.tmp 180) 82 84 _ 2 16 bH Tryz.underlying82 mL rfl bF bF vk p.known.length (pairs p.known) [.int .i64 lo,.int .i64 hi] bH bH bH bN qa_o.out ((Below.refl _ _).drew) qa_B bA ?_;intro va war oa bba ga ta;obtain ⟨Aa,ca,eva⟩:=fX oa;subst eva;have xa_0:=ga.cell (w:=w2.drew) (a:=⟨b,6,none⟩) qa_0 qa_n.out;have xa_f:=(World.frozen?_of_block (w:=w2.drew) (a:=⟨b,6,none⟩) (ga.block b qa_b qa_n.out)).trans qa_f;have xa_1:=ga.cell (w:=w2.drew) (a:=⟨w.heap.size,0,none⟩) d1 hI.out.2.1
 have xa_2:=ga.cell (w:=w2.drew) (a:=⟨w.heap.size,1,none⟩) d2 hI.out.2.1
 have gga:w2.grownBy war vk.ownBlock:=⟨ga.os,ga.tape,ga.output,ga.size,ga.block⟩
 obtain ⟨hpa,hma⟩:=kK HP2.out (lo,hi) (w':=war) oa gga ta;have HPa:=cD hpa;have HMa:=cD hma;clear hpa hma oa bba ga gga ta;refine hK.out _ _ ⟨xa_0,xa_1,xa_2⟩ (fun hHeld=>?_);clear hK K;refine gO (a':=?_) ?_ ?_;rotate_left
 ·show Act.put _ (some 181) _=_;simp only[Act.put,cE,cG,cH,fE,fI];rfl
 refine sA1 8 (some 182) sB1 ?_
 refine sA1 9 (some 183) sB1 ?_
 refine iX (i:=10) (N:=none) #[true,true,true,true,true,true,true,true,true,true,true] rfl rfl bB bF (fun K hK=>?_);refine iW (w1:=?_) bH rfl ?_ ?_;rotate_left
 ·go_simp;rfl
 refine hK.out _ _ ?_;clear hK K;refine iT bB ?_;clear d1 d2 xa_0 xa_f xa_1 xa_2 qa_0 qa_f qa_b qa_B qa_n qa_o aa_h
 obtain ⟨Wa,hWa⟩:∃ W,war.setCell ⟨b,6,none⟩ (.slice Aa (p.known.length+1) ca)=W:=⟨_,rfl⟩
 replace HPa:Aside0 (eP Wa w0.heap.size b { p with known:=p.known++[((lo:Int),(hi:Int))] } (.slice Aa (p.known.length+1) ca) vu vl u):=hWa▸HPa;replace HMa:Aside0 (fG w2 Wa b vk vu vl (.slice Aa (p.known.length+1) ca) vu vl):=hWa▸HMa;rw[hWa];clear hWa;have z4:IntKind.i64.wrap (p.known.length:Int)=(p.known.length:Int):=by rw[IntWalk.i64_in _ bA]
 have k6:=HPa.out.row.at 6 _ rfl;have k7:=HPa.out.row.at 19 _ rfl;have k8:=HPa.out.row.free 19 bG;go_wp2_with fail
 obtain ⟨hpc,hmc⟩:=gF HPa.out 19 (.int .i64 p.known.length) { p with known:=p.known++[((lo:Int),(hi:Int))],play:=p.known.length } u rfl rfl rfl rfl bA;go_ret;exact ⟨rfl,_,_,hpc,((fG.of_below HB2.out).trans HMa.out).trans hmc⟩
set_option maxRecDepth 100000 in
set_option maxHeartbeats 4000000 in
theorem vW (S:iZ w0 pb st sl sd sf sc mb sb fb) (OS:jT st) (hB:Below w0.heap.size w0 w) (H:eP w w0.heap.size b p vk vu vl u) (osz:p.s.size≤1000000) (okl:p.known.length≤1000000) (oll:p.plangs.length≤1000000) (comp:ByteArray) (lo hi:Nat) (q1:lo≤hi) (q2:hi≤p.s.size) (hasc:asc (p.s.extract lo hi)) (hc:(comp.toList==[108,97,121,111,117,116,115])=false) :
 Calls Tryz.prog 139 #[.pointer (some ⟨pb,0,none⟩),.string comp,.string ⟨#[108,97,121,111,117,116,95]⟩,.pointer (some ⟨b,0,none⟩),.agg #[.int .i64 lo,.int .i64 hi]] w fun e w' =>
  e = .returned (.bool false)∧Below w.heap.size w w':=by
 have HP:=cD H;have hb:=H.lt;have HS:=cD S;have HB0:=cD hB;have hsz:(p.s.extract lo hi).size≤1000000:=Nat.le_trans (iV _ _ _) osz;have cl:=fun W=>Tryz.strings_ToLower_ascii (p.s.extract lo hi) W bA hasc
 obtain ⟨x,hx⟩:∃ x,jU (p.s.extract lo hi)=x:=⟨_,rfl⟩
 rw[show (⟨(Lib.toLowerA (p.s.extract lo hi).data.toList).toArray⟩:ByteArray)=x from hx] at cl;have hxz:x.size≤1000000:=by rw[← hx,lC];exact hsz
 have HX:=cD hx;have h0:=H.row.at 0 _ rfl;have mne:=nF mb;clear H S hB hasc hx;go_enter Tryz.func139,Tryz.ntmps139;go_upto_region 1 with fail
 have hal:Below w.heap.size w (w.alloc (.cells #[.int .i64 lo,.int .i64 hi] 84)):=(Below.refl _ _).alloc (Nat.le_refl _) _;have hR:=Row.new w [.int .i64 lo,.int .i64 hi] 84;have hs1:w.heap.size < (w.alloc (.cells #[.int .i64 lo,.int .i64 hi] 84)).heap.size:=by simp
 obtain ⟨V0,hV0⟩:∃ V0,w.alloc (.cells #[.int .i64 lo,.int .i64 hi] 84)=V0:=⟨_,rfl⟩
 replace hR:Row V0 w.heap.size [.int .i64 lo,.int .i64 hi]:=hV0▸hR;rw[hV0] at hal hs1 ⊢;clear hV0;refine wp_region_still_tail 9 bB bB ?_;change wpStill _ _ V0.drew (fun a'=>wpList _ _ _ _ a' V0.drew) _ _;replace hal:=hal.drew;replace hR:Row V0.drew w.heap.size [.int .i64 lo,.int .i64 hi]:=hR.step rfl;replace hs1:w.heap.size < V0.drew.heap.size:=hs1
 obtain ⟨V,hV⟩:∃ V,V0.drew=V:=⟨_,rfl⟩
 rw[hV] at hal hR hs1 ⊢;clear hV;have d0:V.cell? ⟨b,0,none⟩=some (.string p.s):=(hal.cell (p:=⟨b,0,none⟩) hb).trans h0;have d1:=hR.at 0 _ rfl;have d2:=hR.at 1 _ rfl;simp only[List.take_succ_cons,List.take_zero,List.drop_succ_cons,List.drop_zero]
 repeat still_step
 refine wpStill_nil ?_;have HB1:=cD hal;have HR1:=cD hR;clear hal hR d0 d1 d2 h0;go_wp2_with fail
 refine (cl V).mono ?_;rintro e w2 ⟨rfl,hb2⟩;have HB2:=cD (eH HB1.out hb2);have HR2:=cD (HR1.out.below hb2 hs1);have hs2:=Nat.lt_of_lt_of_le hs1 hb2.size;have HP2:=cD (HP.out.below HB2.out);have HS2:=cD (HS.out.below (HB0.out.trans (HB2.out.mono HB0.out.size)));have d1:=HR2.out.at 0 _ rfl;have d2:=HR2.out.at 1 _ rfl;have hI:=cD (HP.out.new_ne (Nat.le_refl _));clear hb2 cl;go_wp2_with fail
 go_ret;exact ⟨rfl,HB2.out⟩
set_option maxRecDepth 100000 in
set_option maxHeartbeats 4000000 in
theorem aAo (S:iZ w0 pb st sl sd sf sc mb sb fb) (OS:jT st) (hB:Below w0.heap.size w0 w) (H:eP w w0.heap.size b p vk vu vl u) (osz:p.s.size≤1000000) (okl:p.known.length≤1000000) (oll:p.plangs.length≤1000000) (comp:ByteArray) (lo hi:Nat) (q1:lo≤hi) (q2:hi≤p.s.size) (hasc:asc (p.s.extract lo hi))  :
 Calls Tryz.prog 139 #[.pointer (some ⟨pb,0,none⟩),.string comp,.string ⟨#[118,101,114,115,105,111,110,95]⟩,.pointer (some ⟨b,0,none⟩),.agg #[.int .i64 lo,.int .i64 hi]] w fun e w' =>
  e = .returned (.bool false)∧Below w.heap.size w w':=by
 have HP:=cD H;have hb:=H.lt;have HS:=cD S;have HB0:=cD hB;have hsz:(p.s.extract lo hi).size≤1000000:=Nat.le_trans (iV _ _ _) osz;have cl:=fun W=>Tryz.strings_ToLower_ascii (p.s.extract lo hi) W bA hasc
 obtain ⟨x,hx⟩:∃ x,jU (p.s.extract lo hi)=x:=⟨_,rfl⟩
 rw[show (⟨(Lib.toLowerA (p.s.extract lo hi).data.toList).toArray⟩:ByteArray)=x from hx] at cl;have hxz:x.size≤1000000:=by rw[← hx,lC];exact hsz
 have HX:=cD hx;have h0:=H.row.at 0 _ rfl;have mne:=nF mb;clear H S hB hasc hx;go_enter Tryz.func139,Tryz.ntmps139;go_upto_region 1 with fail
 have hal:Below w.heap.size w (w.alloc (.cells #[.int .i64 lo,.int .i64 hi] 84)):=(Below.refl _ _).alloc (Nat.le_refl _) _;have hR:=Row.new w [.int .i64 lo,.int .i64 hi] 84;have hs1:w.heap.size < (w.alloc (.cells #[.int .i64 lo,.int .i64 hi] 84)).heap.size:=by simp
 obtain ⟨V0,hV0⟩:∃ V0,w.alloc (.cells #[.int .i64 lo,.int .i64 hi] 84)=V0:=⟨_,rfl⟩
 replace hR:Row V0 w.heap.size [.int .i64 lo,.int .i64 hi]:=hV0▸hR;rw[hV0] at hal hs1 ⊢;clear hV0;refine wp_region_still_tail 9 bB bB ?_;change wpStill _ _ V0.drew (fun a'=>wpList _ _ _ _ a' V0.drew) _ _;replace hal:=hal.drew;replace hR:Row V0.drew w.heap.size [.int .i64 lo,.int .i64 hi]:=hR.step rfl;replace hs1:w.heap.size < V0.drew.heap.size:=hs1
 obtain ⟨V,hV⟩:∃ V,V0.drew=V:=⟨_,rfl⟩
 rw[hV] at hal hR hs1 ⊢;clear hV;have d0:V.cell? ⟨b,0,none⟩=some (.string p.s):=(hal.cell (p:=⟨b,0,none⟩) hb).trans h0;have d1:=hR.at 0 _ rfl;have d2:=hR.at 1 _ rfl;simp only[List.take_succ_cons,List.take_zero,List.drop_succ_cons,List.drop_zero]
 repeat still_step
 refine wpStill_nil ?_;have HB1:=cD hal;have HR1:=cD hR;clear hal hR d0 d1 d2 h0;go_wp2_with fail
 refine (cl V).mono ?_;rintro e w2 ⟨rfl,hb2⟩;have HB2:=cD (eH HB1.out hb2);have HR2:=cD (HR1.out.below hb2 hs1);have hs2:=Nat.lt_of_lt_of_le hs1 hb2.size;have HP2:=cD (HP.out.below HB2.out);have HS2:=cD (HS.out.below (HB0.out.trans (HB2.out.mono HB0.out.size)));have d1:=HR2.out.at 0 _ rfl;have d2:=HR2.out.at 1 _ rfl;have hI:=cD (HP.out.new_ne (Nat.le_refl _));clear hb2 cl;go_wp2_with fail
 go_ret;exact ⟨rfl,HB2.out⟩
set_option maxRecDepth 100000 in
set_option maxHeartbeats 4000000 in
theorem aEh (S:iZ w0 pb st sl sd sf sc mb sb fb) (OS:jT st) (hB:Below w0.heap.size w0 w) (H:eP w w0.heap.size b p vk vu vl u) (osz:p.s.size≤1000000) (okl:p.known.length≤1000000) (oll:p.plangs.length≤1000000) (comp:ByteArray) (lo hi:Nat) (q1:lo≤hi) (q2:hi≤p.s.size) (hasc:asc (p.s.extract lo hi))  :
 Calls Tryz.prog 139 #[.pointer (some ⟨pb,0,none⟩),.string comp,.string ⟨#[114,111,108,101,95]⟩,.pointer (some ⟨b,0,none⟩),.agg #[.int .i64 lo,.int .i64 hi]] w fun e w' =>
  e = .returned (.bool false)∧Below w.heap.size w w':=by
 have HP:=cD H;have hb:=H.lt;have HS:=cD S;have HB0:=cD hB;have hsz:(p.s.extract lo hi).size≤1000000:=Nat.le_trans (iV _ _ _) osz;have cl:=fun W=>Tryz.strings_ToLower_ascii (p.s.extract lo hi) W bA hasc
 obtain ⟨x,hx⟩:∃ x,jU (p.s.extract lo hi)=x:=⟨_,rfl⟩
 rw[show (⟨(Lib.toLowerA (p.s.extract lo hi).data.toList).toArray⟩:ByteArray)=x from hx] at cl;have hxz:x.size≤1000000:=by rw[← hx,lC];exact hsz
 have HX:=cD hx;have h0:=H.row.at 0 _ rfl;have mne:=nF mb;clear H S hB hasc hx;go_enter Tryz.func139,Tryz.ntmps139;go_upto_region 1 with fail
 have hal:Below w.heap.size w (w.alloc (.cells #[.int .i64 lo,.int .i64 hi] 84)):=(Below.refl _ _).alloc (Nat.le_refl _) _;have hR:=Row.new w [.int .i64 lo,.int .i64 hi] 84;have hs1:w.heap.size < (w.alloc (.cells #[.int .i64 lo,.int .i64 hi] 84)).heap.size:=by simp
 obtain ⟨V0,hV0⟩:∃ V0,w.alloc (.cells #[.int .i64 lo,.int .i64 hi] 84)=V0:=⟨_,rfl⟩
 replace hR:Row V0 w.heap.size [.int .i64 lo,.int .i64 hi]:=hV0▸hR;rw[hV0] at hal hs1 ⊢;clear hV0;refine wp_region_still_tail 9 bB bB ?_;change wpStill _ _ V0.drew (fun a'=>wpList _ _ _ _ a' V0.drew) _ _;replace hal:=hal.drew;replace hR:Row V0.drew w.heap.size [.int .i64 lo,.int .i64 hi]:=hR.step rfl;replace hs1:w.heap.size < V0.drew.heap.size:=hs1
 obtain ⟨V,hV⟩:∃ V,V0.drew=V:=⟨_,rfl⟩
 rw[hV] at hal hR hs1 ⊢;clear hV;have d0:V.cell? ⟨b,0,none⟩=some (.string p.s):=(hal.cell (p:=⟨b,0,none⟩) hb).trans h0;have d1:=hR.at 0 _ rfl;have d2:=hR.at 1 _ rfl;simp only[List.take_succ_cons,List.take_zero,List.drop_succ_cons,List.drop_zero]
 repeat still_step
 refine wpStill_nil ?_;have HB1:=cD hal;have HR1:=cD hR;clear hal hR d0 d1 d2 h0;go_wp2_with fail
 refine (cl V).mono ?_;rintro e w2 ⟨rfl,hb2⟩;have HB2:=cD (eH HB1.out hb2);have HR2:=cD (HR1.out.below hb2 hs1);have hs2:=Nat.lt_of_lt_of_le hs1 hb2.size;have HP2:=cD (HP.out.below HB2.out);have HS2:=cD (HS.out.below (HB0.out.trans (HB2.out.mono HB0.out.size)));have d1:=HR2.out.at 0 _ rfl;have d2:=HR2.out.at 1 _ rfl;have hI:=cD (HP.out.new_ne (Nat.le_refl _));clear hb2 cl;go_wp2_with fail
 go_ret;exact ⟨rfl,HB2.out⟩
end
end Go.Proofs.YtbkobfoaphcamaaGreatDoor.Path
namespace Go.Proofs.YtbkobfoaphcamaaGreatDoor.Path
open Go.RowKit Go.WideMaps Go.Proofs.YtbkobfoaphcamaaGreatDoorW.PrintWords Go.Proofs.YtbkobfoaphcamaaGreatDoor.Base
structure Env where
 lang:ByteArray→Bool
 dis:ByteArray→Bool
 fmt:ByteArray→ByteArray→Bool
 cont:ByteArray→Bool
def eS (st:fP):Env:=⟨listed st.langs,listed st.dis,lX st.fmts,listed st.cont⟩
def eW (comp:ByteArray):Bool:=comp.toList==[108,97,121,111,117,116,115]
def isKind (s:ByteArray):Bool:=oN (Lib.toLowerA (L s))
def fR:ByteArray:=⟨#[108,97,110,103,117,97,103,101,95]⟩
def nK:ByteArray:=⟨#[118,101,114,115,105,111,110,95]⟩
def pG:ByteArray:=⟨#[114,111,108,101,95]⟩
def gT:ByteArray:=⟨#[111,117,116,112,117,116,102,111,114,109,97,116,95]⟩
def gK:ByteArray:=⟨#[107,105,110,100,95]⟩
def gB:ByteArray:=⟨#[108,97,121,111,117,116,95]⟩
def jD (E:Env) (lay:Bool) (p:eQ) (pre:ByteArray) (x:Int×Int) (v:ByteArray):Option eQ :=
 if pre=fR then
  if E.lang v then some { p with known:=p.known++[x],plangs:=p.plangs++[(p.known.length:Int)] }
  else if E.dis v then some { p with known:=p.known++[x],plangs:=p.plangs++[(p.known.length:Int)],dis:=true } else none
 else if pre=gT then if lay && E.fmt v ⟨#[]⟩ then some { p with known:=p.known++[x],pfmt:=p.known.length } else none
 else if pre=gK then if lay && isKind v then some { p with known:=p.known++[x],pkind:=p.known.length } else none
 else if pre=gB then if lay then some { p with known:=p.known++[x],play:=p.known.length } else none
 else none
theorem prefOf_cases (s:ByteArray):iP s=⟨#[]⟩∨iP s=fR∨iP s=nK∨iP s=pG∨iP s=gT∨iP s=gK∨iP s=gB:=by
 unfold iP lF;simp only[mA]
 repeat' split
 all_goals simp[fR,nK,pG,gT,gK,gB]
section
variable {w0 w:World} {b:Nat} {p:eQ} {vk vu vl u:Value} {pb mb sb fb:Nat} {st:fP} {sl sd sf sc:Value}
theorem aCu (S:iZ w0 pb st sl sd sf sc mb sb fb) (OS:jT st) (hB:Below w0.heap.size w0 w) (H:eP w w0.heap.size b p vk vu vl u) (osz:p.s.size≤1000000) (okl:p.known.length≤1000000) (oll:p.plangs.length≤1000000) (comp:ByteArray) (lo hi:Nat) (q1:lo≤hi) (q2:hi≤p.s.size) (hasc:asc (p.s.extract lo hi))
 (pre:ByteArray) (hpre:pre=fR∨pre=nK∨pre=pG∨pre=gT∨pre=gK∨pre=gB) :
 Calls Tryz.prog 139 #[.pointer (some ⟨pb,0,none⟩),.string comp,.string pre,.pointer (some ⟨b,0,none⟩),.agg #[.int .i64 lo,.int .i64 hi]] w fun e w' =>
  match jD (eS st) (eW comp) p pre ((lo:Int),(hi:Int)) (jU (p.s.extract lo hi)) with
  | some p'=>e = .returned (.bool true)∧∃ vk' vl',eP w' w0.heap.size b p' vk' vu vl' u∧fG w w' b vk vu vl vk' vu vl'
  | none=>e = .returned (.bool false)∧Below w.heap.size w w':=by
 rcases hpre with rfl | rfl | rfl | rfl | rfl | rfl
 ·rw[jD,if_pos rfl]
  cases h1:(eS st).lang (jU (p.s.extract lo hi)) with
  | true=>exact yW S OS hB H osz okl oll comp lo hi q1 q2 hasc h1
  | false =>
   cases h2:(eS st).dis (jU (p.s.extract lo hi)) with
   | true=>exact yV S OS hB H osz okl oll comp lo hi q1 q2 hasc h1 h2
   | false=>exact aAn S OS hB H osz okl oll comp lo hi q1 q2 hasc h1 h2
 ·exact aAo S OS hB H osz okl oll comp lo hi q1 q2 hasc
 ·exact aEh S OS hB H osz okl oll comp lo hi q1 q2 hasc
 ·rw[jD,if_neg bF,if_pos rfl]
  cases h0:eW comp with
  | false=>exact yU S OS hB H osz okl oll comp lo hi q1 q2 hasc h0
  | true =>
   cases h1:(eS st).fmt (jU (p.s.extract lo hi)) ⟨#[]⟩ with
   | true=>exact aFj S OS hB H osz okl oll comp lo hi q1 q2 hasc h0 h1
   | false=>exact aA7 S OS hB H osz okl oll comp lo hi q1 q2 hasc h0 h1
 ·rw[jD,if_neg bF,if_neg bF,if_pos rfl]
  cases h0:eW comp with
  | false=>exact xL S OS hB H osz okl oll comp lo hi q1 q2 hasc h0
  | true =>
   cases h1:isKind (jU (p.s.extract lo hi)) with
   | true=>exact aEg S OS hB H osz okl oll comp lo hi q1 q2 hasc h0 h1
   | false=>exact aAm S OS hB H osz okl oll comp lo hi q1 q2 hasc h0 h1
 rw[jD,if_neg bF,if_neg bF,if_neg bF,if_pos rfl]
 cases h0:eW comp with
 | false=>exact vW S OS hB H osz okl oll comp lo hi q1 q2 hasc h0
 | true=>exact aA8 S OS hB H osz okl oll comp lo hi q1 q2 hasc h0
end
end Go.Proofs.YtbkobfoaphcamaaGreatDoor.Path
namespace Go.Proofs.YtbkobfoaphcamaaGreatDoor.Path
open Go.RowKit Go.Proofs.YtbkobfoaphcamaaGreatDoorW.PrintWords Go.Proofs.YtbkobfoaphcamaaGreatDoor.Base
section
variable {w:World} {B b:Nat} {p:eQ} {vk vu vl u:Value}
def lP (p:eQ) (bun:Bool):Int:=if (if bun then p.cHigh - 1 else p.nHigh)=0 then 1 else (if bun then p.cHigh - 1 else p.nHigh)
def jL (p:eQ) (pres bun:Bool):ByteArray :=
 match p.known with
 | []=>nrm p.trim p.s
 | k0::rest=>if pres=true∧rest=[] then nrm p.trim p.s else
  if pres then nrm p.trim (sub p.s 0 (lP p bun)++sub p.s (k0.1 - 1) k0.2) else nrm p.trim (sub p.s 0 (lP p bun))
theorem xP (H:eP w B b p vk vu vl u) (pres bun:Bool) (hk:p.known=[]∨(pres=true∧p.known.length=1)) :
 Calls Tryz.prog 99 #[.pointer (some ⟨b,0,none⟩),.bool pres,.bool bun] w fun e w'=>e = .returned (.string (nrm p.trim p.s))∧Below w.heap.size w w':=by
 have h0:=H.row.at 0 _ rfl;have h6:=H.row.at 6 _ rfl;obtain ⟨A,c,hv⟩:=fX H.ok;rw[hv] at h6;have cn:=jF H p.s;rcases hk with hk | ⟨rfl,hk⟩
 ·rw[hk] at h6;have h6' : w.cell? ⟨b,6,none⟩=some (.slice A 0 c):=h6;clear hv H hk h6;go_enter Tryz.func99,Tryz.ntmps99;go_wp2_with fail
  (with_reducible refine cn.mono ?_)
  rintro e w' ⟨rfl,rfl⟩;go_wp2_with fail
  go_ret;exact ⟨rfl,Below.refl _ _⟩
 rw[hk] at h6;clear hv H hk;go_enter Tryz.func99,Tryz.ntmps99;go_wp2_with fail
 (with_reducible refine cn.mono ?_)
 rintro e w' ⟨rfl,rfl⟩;go_wp2_with fail
 go_ret;exact ⟨rfl,Below.refl _ _⟩
theorem aBu (O:iL p) (bun:Bool):∃ h:Nat,lP p bun=h∧h≤p.s.size:=by
 obtain ⟨o2,o3⟩:=O.ch;obtain ⟨o4,o5,o6⟩:=O.na;cases bun
 ·by_cases c:p.nHigh=0
  ·exact ⟨1,by unfold lP;simp[c],aR⟩
  exact ⟨p.nHigh.toNat,by unfold lP;simp[c];omega,aR⟩
 by_cases c:p.cHigh - 1=0
 ·exact ⟨1,by unfold lP;simp[c],aR⟩
 exact ⟨(p.cHigh - 1).toNat,by unfold lP;simp[c];omega,aR⟩
set_option maxRecDepth 100000 in
set_option maxHeartbeats 800000 in
theorem aGm (H:eP w B b p vk vu vl u) (O:iL p) (bun:Bool) (hk:p.known≠[]) :
 Calls Tryz.prog 99 #[.pointer (some ⟨b,0,none⟩),.bool false,.bool bun] w fun e w'=>e = .returned (.string (nrm p.trim (sub p.s 0 (lP p bun))))∧Below w.heap.size w w':=by
 have h0:=H.row.at 0 _ rfl;have h2:=H.row.at 2 _ rfl;have h6:=H.row.at 6 _ rfl;obtain ⟨A,c,hv⟩:=fX H.ok;rw[hv] at h6;obtain ⟨h,hh,hle⟩:=aBu O bun;have HE:=cD (show sub p.s 0 (lP p bun)=p.s.extract 0 h by rw[hh];rfl);have hlen:((p.known.length:Int)==0)=false:=beq_eq_false_iff_ne.2 (by have:=List.length_pos_iff.2 hk;omega);obtain ⟨o2,o3⟩:=O.ch;obtain ⟨o4,o5,o6⟩:=O.na;have o1:=O.sz;have HH:=cD H;have cl:=oV H;have hf:∀ (m n:Int) (W:World),(Instr.field 84 (.agg #[.int .i64 m,.int .i64 n]) 1).run Tryz.prog W = .ok (.int .i64 n) W:=fun _ _ _=>by kernel_rfl
 cases bun
 ·have hhn:(if p.nHigh=0 then 1 else p.nHigh)=(h:Int):=by rw[← hh];unfold lP;simp
  clear hh hv H O h2
  by_cases z:p.nHigh=0
  ·rw[if_pos z] at hhn;have h1:h=1:=by omega
   subst h1;rw[z] at cl;clear z hhn;have hle2:(1:Int)≤p.s.size:=by omega
   go_enter Tryz.func99,Tryz.ntmps99;go_wp2_with fail
   (with_reducible refine cl.mono ?_)
   rintro e w1 ⟨rfl,hd⟩;have HD:=cD hd;have h0:=(HH.out.below hd).row.at 0 _ rfl;clear hd;go_wp2_with fail
   (with_reducible refine (jF (HH.out.below HD.out) _).mono ?_)
   rintro e w' ⟨rfl,rfl⟩;go_wp2_with fail
   go_ret;exact ⟨by rw[HE.out];rfl,HD.out⟩
  rw[if_neg z] at hhn;rw[hhn] at cl z;clear hhn;have z2:((h:Int)==0)=false:=beq_eq_false_iff_ne.2 z;have hle2:(h:Int)≤p.s.size:=by omega
  clear z;go_enter Tryz.func99,Tryz.ntmps99;go_wp2_with fail
  (with_reducible refine cl.mono ?_)
  rintro e w1 ⟨rfl,hd⟩;have HD:=cD hd;have h0:=(HH.out.below hd).row.at 0 _ rfl;clear hd;go_wp2_with fail
  (with_reducible refine (jF (HH.out.below HD.out) _).mono ?_)
  rintro e w' ⟨rfl,rfl⟩;go_wp2_with fail
  go_ret;exact ⟨by rw[HE.out];rfl,HD.out⟩
 have hhn:(if p.cHigh - 1=0 then 1 else p.cHigh - 1)=(h:Int):=by rw[← hh];unfold lP;simp
 clear hh hv H O cl
 by_cases z:p.cHigh - 1=0
 ·rw[if_pos z] at hhn;have h1:h=1:=by omega
  subst h1;have z1:p.cHigh=1:=by omega
  rw[z1] at h2;clear z hhn z1;have hle2:(1:Int)≤p.s.size:=by omega
  go_enter Tryz.func99,Tryz.ntmps99;go_wp2_with fail
  (with_reducible refine (jF HH.out _).mono ?_)
  rintro e w' ⟨rfl,rfl⟩;go_wp2_with fail
  go_ret;exact ⟨by rw[HE.out];rfl,Below.refl _ _⟩
 rw[if_neg z] at hhn;have z1:p.cHigh=(h:Int)+1:=by omega
 rw[z1] at h2;have z2:((h:Int)==0)=false:=beq_eq_false_iff_ne.2 bA;have hle2:(h:Int)≤p.s.size:=by omega
 clear z hhn z1;go_enter Tryz.func99,Tryz.ntmps99;go_wp2_with fail
 (with_reducible refine (jF HH.out _).mono ?_)
 rintro e w' ⟨rfl,rfl⟩;go_wp2_with fail
 go_ret;exact ⟨by rw[HE.out];rfl,Below.refl _ _⟩
set_option maxRecDepth 100000 in
set_option maxHeartbeats 800000 in
theorem aGn (H:eP w B b p vk vu vl u) (O:iL p) (bun:Bool) (k0:Int×Int) (hk0:p.known[0]? = some k0) (hk:2≤p.known.length) :
 Calls Tryz.prog 99 #[.pointer (some ⟨b,0,none⟩),.bool true,.bool bun] w fun e w'=>e = .returned (.string (nrm p.trim (sub p.s 0 (lP p bun)++sub p.s (k0.1 - 1) k0.2)))∧Below w.heap.size w w':=by
 have h0:=H.row.at 0 _ rfl;have h2:=H.row.at 2 _ rfl;have h6:=H.row.at 6 _ rfl;obtain ⟨q1,q2,q3⟩:=O.kn k0 (List.mem_of_getElem? hk0);obtain ⟨lo,hlo⟩:=Int.eq_ofNat_of_zero_le (show 0≤k0.1 by omega);obtain ⟨hi,hhi⟩:=Int.eq_ofNat_of_zero_le (show 0≤k0.2 by omega);obtain ⟨g,cp,hv,k1,k2⟩:=H.knownAt 0 k0 hk0;rw[hv] at h6;rw[hlo] at k1 q1 q2;rw[hhi] at k2 q2 q3;have hb:=H.lt;have hg:g < w.heap.size:=World.block_lt_of_cell? w ⟨g,0 * 2,none⟩ k1;have k1' : w.cell? ⟨g,0,none⟩=some (.int .i64 lo):=k1;have k2' : w.cell? ⟨g,1,none⟩=some (.int .i64 hi):=k2;obtain ⟨h,hh,hle⟩:=aBu O bun;have o1:=O.sz;have hlow:((lo - 1:Nat):Int)=(lo:Int) - 1:=by omega
 have HE:=cD (show sub p.s 0 (lP p bun)++sub p.s (k0.1 - 1) k0.2=p.s.extract 0 h++p.s.extract (lo - 1) hi by rw[hh,hlo,hhi,← hlow];rfl);have hlen:((p.known.length:Int)==0)=false:=beq_eq_false_iff_ne.2 bA;have hlen1:((p.known.length:Int)==1)=false:=beq_eq_false_iff_ne.2 bA;have hlen0:0 < p.known.length:=by omega
 have hyc:IntKind.i64.wrap ((lo:Int) - 1)=((lo - 1:Nat):Int):=by rw[IntWalk.i64_in _ bA];omega
 have r1:((lo - 1:Nat):Int)≤(hi:Int):=by omega
 have hsum:(p.s.extract 0 h).size+(p.s.extract (lo - 1) hi).size≤9223372036854775807:=by
  have l1:=iV p.s 0 h;have l2:=iV p.s (lo - 1) hi;omega
 obtain ⟨o2,o3⟩:=O.ch;obtain ⟨o4,o5,o6⟩:=O.na;have hf:∀ (m n:Int) (W:World),(Instr.field 84 (.agg #[.int .i64 m,.int .i64 n]) 1).run Tryz.prog W = .ok (.int .i64 n) W:=fun _ _ _=>by kernel_rfl
 have HH:=cD H;have cl:=oV H;cases bun
 ·have hhn:(if p.nHigh=0 then 1 else p.nHigh)=(h:Int):=by rw[← hh];unfold lP;simp
  clear hh hv H O h2 hlow k1 k2 hk0
  by_cases z:p.nHigh=0
  ·rw[if_pos z] at hhn;have h1:h=1:=by omega
   subst h1;rw[z] at cl;clear z hhn;have hle2:(1:Int)≤p.s.size:=by omega
   go_enter Tryz.func99,Tryz.ntmps99;go_wp2_with fail
   (with_reducible refine cl.mono ?_)
   rintro e w1 ⟨rfl,hd⟩;have HD:=cD hd;have h0:=(HH.out.below hd).row.at 0 _ rfl;have h6:=(hd.cell (p:=⟨b,6,none⟩) hb).trans h6;have k1:=(hd.cell (p:=⟨g,0,none⟩) hg).trans k1';have k2:=(hd.cell (p:=⟨g,1,none⟩) hg).trans k2';have hb1:=(HH.out.below hd).lt;have hg1:g < w1.heap.size:=Nat.lt_of_lt_of_le hg hd.size;clear hd;go_wp2_with fail
   go_quiet ((go_at_call 96;exact Calls.quiet_of_same (jF (((HH.out.below HD.out).alloc _).drewN _) _)))
   go_wp2_with fail
   go_ret;exact ⟨by rw[HE.out];rfl,eH (HD.out.alloc HD.out.size _) (fD.below ⟨⟨_,rfl⟩⟩)⟩
  rw[if_neg z] at hhn;rw[hhn] at cl z;clear hhn;have z2:((h:Int)==0)=false:=beq_eq_false_iff_ne.2 z;have hle2:(h:Int)≤p.s.size:=by omega
  clear z;go_enter Tryz.func99,Tryz.ntmps99;go_wp2_with fail
  (with_reducible refine cl.mono ?_)
  rintro e w1 ⟨rfl,hd⟩;have HD:=cD hd;have h0:=(HH.out.below hd).row.at 0 _ rfl;have h6:=(hd.cell (p:=⟨b,6,none⟩) hb).trans h6;have k1:=(hd.cell (p:=⟨g,0,none⟩) hg).trans k1';have k2:=(hd.cell (p:=⟨g,1,none⟩) hg).trans k2';have hb1:=(HH.out.below hd).lt;have hg1:g < w1.heap.size:=Nat.lt_of_lt_of_le hg hd.size;clear hd;go_wp2_with fail
  go_quiet ((go_at_call 96;exact Calls.quiet_of_same (jF (((HH.out.below HD.out).alloc _).drewN _) _)))
  go_wp2_with fail
  go_ret;exact ⟨by rw[HE.out];rfl,eH (HD.out.alloc HD.out.size _) (fD.below ⟨⟨_,rfl⟩⟩)⟩
 have hhn:(if p.cHigh - 1=0 then 1 else p.cHigh - 1)=(h:Int):=by rw[← hh];unfold lP;simp
 clear hh hv H O cl hlow k1 k2 hk0
 by_cases z:p.cHigh - 1=0
 ·rw[if_pos z] at hhn;have h1:h=1:=by omega
  subst h1;have z1:p.cHigh=1:=by omega
  rw[z1] at h2;clear z hhn z1;have hle2:(1:Int)≤p.s.size:=by omega
  go_enter Tryz.func99,Tryz.ntmps99;go_wp2_with fail
  go_quiet ((go_at_call 96;exact Calls.quiet_of_same (jF ((HH.out.alloc _).drewN _) _)))
  go_wp2_with fail
  go_ret;exact ⟨by rw[HE.out];rfl,eH ((Below.refl _ _).alloc (Nat.le_refl _) _) (fD.below ⟨⟨_,rfl⟩⟩)⟩
 rw[if_neg z] at hhn;have z1:p.cHigh=(h:Int)+1:=by omega
 rw[z1] at h2;have z2:((h:Int)==0)=false:=beq_eq_false_iff_ne.2 bA;have hle2:(h:Int)≤p.s.size:=by omega
 clear z hhn z1;go_enter Tryz.func99,Tryz.ntmps99;go_wp2_with fail
 go_quiet ((go_at_call 96;exact Calls.quiet_of_same (jF ((HH.out.alloc _).drewN _) _)))
 go_wp2_with fail
 go_ret;exact ⟨by rw[HE.out];rfl,eH ((Below.refl _ _).alloc (Nat.le_refl _) _) (fD.below ⟨⟨_,rfl⟩⟩)⟩
theorem sW (H:eP w B b p vk vu vl u) (O:iL p) (pres bun:Bool) :
 Calls Tryz.prog 99 #[.pointer (some ⟨b,0,none⟩),.bool pres,.bool bun] w fun e w'=>e = .returned (.string (jL p pres bun))∧Below w.heap.size w w':=by
 cases hk:p.known with
 | nil =>
  have e:jL p pres bun=nrm p.trim p.s:=by unfold jL;rw[hk]
  rw[e];exact xP H pres bun (.inl hk)
 | cons k0 r =>
  by_cases c:pres=true∧r=[]
  ·have e:jL p pres bun=nrm p.trim p.s:=by unfold jL;rw[hk];simp only[if_pos c]
   rw[e];exact xP H pres bun (.inr ⟨c.1,by rw[hk,c.2];rfl⟩)
  cases pres with
  | false =>
   have e:jL p false bun=nrm p.trim (sub p.s 0 (lP p bun)):=by unfold jL;rw[hk];simp
   rw[e];exact aGm H O bun (by rw[hk];simp)
  | true =>
   have hr:r≠[]:=fun h=>c ⟨rfl,h⟩;have e:jL p true bun=nrm p.trim (sub p.s 0 (lP p bun)++sub p.s (k0.1 - 1) k0.2):=by unfold jL;rw[hk];simp[hr]
   rw[e];exact aGn H O bun k0 (by rw[hk];rfl) (by rw[hk];have:=List.length_pos_iff.2 hr;simp;omega)
def tD (p:eQ):ByteArray :=
 if (jL p (!decide (2≤p.typ∧p.typ≤5)) (decide (3≤p.typ∧p.typ≤5))).toList=[47]∧(2≤p.typ∧p.typ≤5) then ByteArray.empty else jL p (!decide (2≤p.typ∧p.typ≤5)) (decide (3≤p.typ∧p.typ≤5))
theorem xG (H:eP w B b p vk vu vl u) (O:iL p):Calls Tryz.prog 59 #[.pointer (some ⟨b,0,none⟩)] w fun e w'=>e = .returned (.string (tD p))∧Below w.heap.size w w':=by
 have c1:=lQ H;have c2:=oJ H;unfold tD
 obtain ⟨pg,hpg⟩:∃ x,decide (2≤p.typ∧p.typ≤5)=x:=⟨_,rfl⟩
 obtain ⟨bn,hbn⟩:∃ x,decide (3≤p.typ∧p.typ≤5)=x:=⟨_,rfl⟩
 rw[hpg,hbn];rw[hpg] at c1;rw[hbn] at c2;have c3:=sW H O (!pg) bn
 obtain ⟨s,hs⟩:∃ s,jL p (!pg) bn=s:=⟨_,rfl⟩
 rw[hs] at c3 ⊢;have HH:=cD H;clear hs hbn H O;have hpg':=hpg
 by_cases q:s.toList=[47]
 ·have qb:(s.toList==[47])=true:=beq_iff_eq.2 q
  cases pg with
  | true =>
   simp only[Bool.not_true] at c3;rw[if_pos ⟨q,of_decide_eq_true hpg⟩];clear q hpg;go_enter Tryz.func59,Tryz.ntmps59;go_wp2_with fail
   (with_reducible refine c1.mono ?_)
   rintro e w' ⟨rfl,rfl⟩;go_wp2_with fail
   (with_reducible refine c2.mono ?_)
   rintro e w' ⟨rfl,rfl⟩;go_wp2_with fail
   (with_reducible refine c3.mono ?_)
   rintro e w' ⟨rfl,hd⟩;have c4:=lQ (HH.out.below hd);rw[hpg'] at c4;have HD:=cD hd;clear hd hpg';go_wp2_with fail
   (with_reducible refine c4.mono ?_)
   rintro e w' ⟨rfl,rfl⟩;go_wp2_with fail
   go_ret;exact ⟨rfl,HD.out⟩
  | false =>
   simp only[Bool.not_false] at c3;rw[if_neg (fun h=>of_decide_eq_false hpg h.2)];clear q hpg;go_enter Tryz.func59,Tryz.ntmps59;go_wp2_with fail
   (with_reducible refine c1.mono ?_)
   rintro e w' ⟨rfl,rfl⟩;go_wp2_with fail
   (with_reducible refine c2.mono ?_)
   rintro e w' ⟨rfl,rfl⟩;go_wp2_with fail
   (with_reducible refine c3.mono ?_)
   rintro e w' ⟨rfl,hd⟩;have c4:=lQ (HH.out.below hd);rw[hpg'] at c4;have HD:=cD hd;clear hd hpg';go_wp2_with fail
   (with_reducible refine c4.mono ?_)
   rintro e w' ⟨rfl,rfl⟩;go_wp2_with fail
   go_ret;exact ⟨rfl,HD.out⟩
 have qb:(s.toList==[47])=false:=beq_eq_false_iff_ne.2 q;rw[if_neg (fun h=>q h.1)]
 cases pg with
 | true =>
  simp only[Bool.not_true] at c3;clear q hpg;go_enter Tryz.func59,Tryz.ntmps59;go_wp2_with fail
  (with_reducible refine c1.mono ?_)
  rintro e w' ⟨rfl,rfl⟩;go_wp2_with fail
  (with_reducible refine c2.mono ?_)
  rintro e w' ⟨rfl,rfl⟩;go_wp2_with fail
  (with_reducible refine c3.mono ?_)
  rintro e w' ⟨rfl,hd⟩;have c4:=lQ (HH.out.below hd);rw[hpg'] at c4;have HD:=cD hd;clear hd hpg';go_wp2_with fail
  go_ret;exact ⟨rfl,HD.out⟩
 | false =>
  simp only[Bool.not_false] at c3;clear q hpg;go_enter Tryz.func59,Tryz.ntmps59;go_wp2_with fail
  (with_reducible refine c1.mono ?_)
  rintro e w' ⟨rfl,rfl⟩;go_wp2_with fail
  (with_reducible refine c2.mono ?_)
  rintro e w' ⟨rfl,rfl⟩;go_wp2_with fail
  (with_reducible refine c3.mono ?_)
  rintro e w' ⟨rfl,hd⟩;have c4:=lQ (HH.out.below hd);rw[hpg'] at c4;have HD:=cD hd;clear hd hpg';go_wp2_with fail
  go_ret;exact ⟨rfl,HD.out⟩
end
end Go.Proofs.YtbkobfoaphcamaaGreatDoor.Path
namespace Go.Proofs.YtbkobfoaphcamaaGreatDoor.Path
open Go.RowKit Go.Proofs.YtbkobfoaphcamaaGreatDoorW.PrintWords Go.Proofs.YtbkobfoaphcamaaGreatDoor.Base
section
variable {w:World} {B b:Nat} {p:eQ} {vk vu vl u:Value}
theorem xI (H:eP w B b p vk vu vl u) (O:PathIn p):Calls Tryz.prog 61 #[.pointer (some ⟨b,0,none⟩)] w fun e w'=>e = .returned (.string (fO p 0))∧Below w.heap.size w w':=by
 have c:=hE H O 0;clear H O;go_enter Tryz.func61,Tryz.ntmps61;go_wp2_with fail
 (with_reducible refine c.mono ?_)
 rintro e w' ⟨rfl,hd⟩;have HD:=cD hd;clear hd;go_wp2_with fail
 go_ret;exact ⟨rfl,HD.out⟩
theorem aFe (H:eP w B b p vk vu vl u) (O:iL p):Calls Tryz.prog 61 #[.pointer (some ⟨b,0,none⟩)] w fun e w'=>e = .returned (.string (fO p 0))∧Below w.heap.size w w':=xI H O.toPathIn
theorem uE (H:eP w B b p vk vu vl u) (O:iL p):Calls Tryz.prog 62 #[.pointer (some ⟨b,0,none⟩)] w fun e w'=>e = .returned (.string (if p.pfmt = -1 then fO p p.fmt else fO p p.pfmt))∧Below w.heap.size w w':=by
 have h1:=H.row.at 17 _ rfl;have h2:=H.row.at 9 _ rfl
 by_cases t:p.pfmt = -1
 ·rw[if_pos t];rw[t] at h1;have c:=hE H O.toPathIn p.fmt;clear t H O;go_enter Tryz.func62,Tryz.ntmps62;go_wp2_with fail
  (with_reducible refine c.mono ?_)
  rintro e w' ⟨rfl,hd⟩;have HD:=cD hd;clear hd;go_wp2_with fail
  go_ret;exact ⟨rfl,HD.out⟩
 rw[if_neg t];have hne:(p.pfmt == -1)=false:=beq_eq_false_iff_ne.2 t;have hne2:(p.pfmt != -1)=true:=bne_iff_ne.2 t;have c:=hE H O.toPathIn p.pfmt;clear t H O;go_enter Tryz.func62,Tryz.ntmps62;go_wp2_with fail
 (with_reducible refine c.mono ?_)
 rintro e w' ⟨rfl,hd⟩;have HD:=cD hd;clear hd;go_wp2_with fail
 go_ret;exact ⟨rfl,HD.out⟩
theorem aD8 (H:eP w B b p vk vu vl u) (O:iL p):Calls Tryz.prog 63 #[.pointer (some ⟨b,0,none⟩)] w fun e w'=>e = .returned (.string (if p.pkind = -1 then fO p p.kind else fO p p.pkind))∧Below w.heap.size w w':=by
 have h1:=H.row.at 18 _ rfl;have h2:=H.row.at 10 _ rfl
 by_cases t:p.pkind = -1
 ·rw[if_pos t];rw[t] at h1;have c:=hE H O.toPathIn p.kind;clear t H O;go_enter Tryz.func63,Tryz.ntmps63;go_wp2_with fail
  (with_reducible refine c.mono ?_)
  rintro e w' ⟨rfl,hd⟩;have HD:=cD hd;clear hd;go_wp2_with fail
  go_ret;exact ⟨rfl,HD.out⟩
 rw[if_neg t];have hne:(p.pkind == -1)=false:=beq_eq_false_iff_ne.2 t;have hne2:(p.pkind != -1)=true:=bne_iff_ne.2 t;have c:=hE H O.toPathIn p.pkind;clear t H O;go_enter Tryz.func63,Tryz.ntmps63;go_wp2_with fail
 (with_reducible refine c.mono ?_)
 rintro e w' ⟨rfl,hd⟩;have HD:=cD hd;clear hd;go_wp2_with fail
 go_ret;exact ⟨rfl,HD.out⟩
theorem aA5 (H:eP w B b p vk vu vl u) (O:iL p):Calls Tryz.prog 64 #[.pointer (some ⟨b,0,none⟩)] w fun e w'=>e = .returned (.string (if p.play = -1 then fO p p.lay else fO p p.play))∧Below w.heap.size w w':=by
 have h1:=H.row.at 19 _ rfl;have h2:=H.row.at 11 _ rfl
 by_cases t:p.play = -1
 ·rw[if_pos t];rw[t] at h1;have c:=hE H O.toPathIn p.lay;clear t H O;go_enter Tryz.func64,Tryz.ntmps64;go_wp2_with fail
  (with_reducible refine c.mono ?_)
  rintro e w' ⟨rfl,hd⟩;have HD:=cD hd;clear hd;go_wp2_with fail
  go_ret;exact ⟨rfl,HD.out⟩
 rw[if_neg t];have hne:(p.play == -1)=false:=beq_eq_false_iff_ne.2 t;have hne2:(p.play != -1)=true:=bne_iff_ne.2 t;have c:=hE H O.toPathIn p.play;clear t H O;go_enter Tryz.func64,Tryz.ntmps64;go_wp2_with fail
 (with_reducible refine c.mono ?_)
 rintro e w' ⟨rfl,hd⟩;have HD:=cD hd;clear hd;go_wp2_with fail
 go_ret;exact ⟨rfl,HD.out⟩
def vQ (p:eQ):ByteArray:=match p.plangs with | []=>fO p p.lang | i::_=>fO p i
theorem aEa (H:eP w B b p vk vu vl u) (O:iL p):Calls Tryz.prog 65 #[.pointer (some ⟨b,0,none⟩)] w fun e w'=>e = .returned (.string (vQ p))∧Below w.heap.size w w':=by
 have h8:=H.row.at 8 _ rfl;have h14:=H.row.at 14 _ rfl;unfold vQ
 cases hl:p.plangs with
 | nil =>
  obtain ⟨A,c0,hv⟩:=fX H.ol;rw[hv,hl] at h14;have h14' : w.cell? ⟨b,14,none⟩=some (.slice A 0 c0):=h14;have c:=hE H O.toPathIn p.lang;clear hl hv h14 H O;go_enter Tryz.func65,Tryz.ntmps65;go_wp2_with fail
  (with_reducible refine c.mono ?_)
  rintro e w' ⟨rfl,hd⟩;have HD:=cD hd;clear hd;go_wp2_with fail
  go_ret;exact ⟨rfl,HD.out⟩
 | cons i r =>
  obtain ⟨g,c0,hv,k1⟩:=H.langAt 0 i (by rw[hl];rfl);rw[hv] at h14;have hlen:(0:Int) < p.plangs.length:=by rw[hl];simp
  have hlen2:decide ((0:Int) < (p.plangs.length:Int))=true:=decide_eq_true hlen;have hlen3:decide (0 < p.plangs.length)=true:=decide_eq_true bA;have c:=hE H O.toPathIn i;clear hl hv H O;go_enter Tryz.func65,Tryz.ntmps65;go_wp2_with fail
  (with_reducible refine c.mono ?_)
  rintro e w' ⟨rfl,hd⟩;have HD:=cD hd;clear hd;go_wp2_with fail
  go_ret;exact ⟨rfl,HD.out⟩
def pX (p:eQ):ByteArray:=⟨(Lib.trimSuffix (Lib.trimPrefix (L (fO p p.cust)) [95]) [95]).toArray⟩
theorem aA4 (H:eP w B b p vk vu vl u) (O:iL p):Calls Tryz.prog 66 #[.pointer (some ⟨b,0,none⟩)] w fun e w'=>e = .returned (.string (pX p))∧Below w.heap.size w w':=by
 have h13:=H.row.at 13 _ rfl;have c:=hE H O.toPathIn p.cust
 have hsz:(fO p p.cust).size≤p.s.size:=by
  unfold fO;split
  ·exact Nat.zero_le _
  split
  ·exact iV _ _ _
  exact Nat.zero_le _
 have o1:=O.sz
 obtain ⟨s,hs⟩:∃ s,fO p p.cust=s:=⟨_,rfl⟩
 have hm:pX p=⟨(Lib.trimSuffix (Lib.trimPrefix (L s) [95]) [95]).toArray⟩:=by unfold pX;rw[hs]
 have HM:=cD hm;rw[hs] at c hsz;clear hs hm H O;go_enter Tryz.func66,Tryz.ntmps66;go_wp2_with fail
 (with_reducible refine c.mono ?_)
 rintro e w' ⟨rfl,hd⟩;have HD:=cD hd;clear hd;go_wp2_with fail
 (with_reducible refine (Tryz.strings_TrimPrefix _ _ _).mono ?_)
 rintro e w2 ⟨rfl,rfl⟩;go_wp2_with fail
 (with_reducible refine (Tryz.strings_TrimSuffix _ _ _ ?hz).mono ?_)
 case hz =>
  have:=Lib.trimPrefix_le s.data.toList [95];have h2:=eN s;unfold L at h2;show (Lib.trimPrefix s.data.toList [95]).toArray.size≤_
  simp
  omega
 rintro e w3 ⟨rfl,rfl⟩;go_wp2_with fail
 go_ret;exact ⟨by rw[HM.out];rfl,HD.out⟩
theorem sG (H:eP w B b p vk vu vl u) (O:iL p):Calls Tryz.prog 57 #[.pointer (some ⟨b,0,none⟩)] w fun e w'=>e = .returned (.string (jL p false false))∧Below w.heap.size w w':=by
 have c:=sW H O false false;clear H O;go_enter Tryz.func57,Tryz.ntmps57;go_wp2_with fail
 (with_reducible refine c.mono ?_)
 rintro e w' ⟨rfl,hd⟩;have HD:=cD hd;clear hd;go_wp2_with fail
 go_ret;exact ⟨rfl,HD.out⟩
def rC (p:eQ):ByteArray:=if p.plangs≠[]∨mO p p.lang≠-1 then jL p true false else nrm p.trim p.s
theorem wP (H:eP w B b p vk vu vl u) (O:iL p):Calls Tryz.prog 56 #[.pointer (some ⟨b,0,none⟩)] w fun e w'=>e = .returned (.string (rC p))∧Below w.heap.size w w':=by
 have h8:=H.row.at 8 _ rfl;have h14:=H.row.at 14 _ rfl;have cb:=sW H O true false;have ci:=mF H p.lang;have cp:=qS H;unfold rC;obtain ⟨A,c0,hv⟩:=fX H.ol;rw[hv] at h14
 by_cases t:p.plangs=[]
 ·rw[t] at h14;have h14' : w.cell? ⟨b,14,none⟩=some (.slice A 0 c0):=h14
  by_cases t2:mO p p.lang = -1
  ·rw[if_neg (by intro h;rcases h with h | h;exact h t;exact h t2)];rw[t2] at ci;clear t t2 hv h14 H O;go_enter Tryz.func56,Tryz.ntmps56;go_wp2_with fail
   (with_reducible refine ci.mono ?_)
   rintro e w' ⟨rfl,rfl⟩;go_wp2_with fail
   (with_reducible refine cp.mono ?_)
   rintro e w' ⟨rfl,rfl⟩;go_wp2_with fail
   go_ret;exact ⟨rfl,Below.refl _ _⟩
  rw[if_pos (.inr t2)];have hne:(mO p p.lang == -1)=false:=beq_eq_false_iff_ne.2 t2;clear t t2 hv h14 H O;go_enter Tryz.func56,Tryz.ntmps56;go_wp2_with fail
  (with_reducible refine ci.mono ?_)
  rintro e w' ⟨rfl,rfl⟩;go_wp2_with fail
  (with_reducible refine cb.mono ?_)
  rintro e w' ⟨rfl,hd⟩;have HD:=cD hd;clear hd;go_wp2_with fail
  go_ret;exact ⟨rfl,HD.out⟩
 rw[if_pos (.inl t)];have hlen:(0:Int) < p.plangs.length:=by have:=List.length_pos_iff.2 t;omega
 have hlen2:decide ((0:Int) < (p.plangs.length:Int))=true:=decide_eq_true hlen;have hlen3:decide (0 < p.plangs.length)=true:=decide_eq_true bA;clear t hv H O;go_enter Tryz.func56,Tryz.ntmps56;go_wp2_with fail
 (with_reducible refine cb.mono ?_)
 rintro e w' ⟨rfl,hd⟩;have HD:=cD hd;clear hd;go_wp2_with fail
 go_ret;exact ⟨rfl,HD.out⟩
def rB (p:eQ):ByteArray:=if p.comp.toList=[108,97,121,111,117,116,115] then nrm p.trim p.s else tD p
theorem sT (H:eP w B b p vk vu vl u) (O:iL p):Calls Tryz.prog 60 #[.pointer (some ⟨b,0,none⟩)] w fun e w'=>e = .returned (.string (rB p))∧Below w.heap.size w w':=by
 have cc:=rS H;have cp:=qS H;have cb:=xG H O;unfold rB;clear H O
 by_cases t:p.comp.toList=[108,97,121,111,117,116,115]
 ·have tb:(p.comp.toList==[108,97,121,111,117,116,115])=true:=beq_iff_eq.2 t;rw[if_pos t];clear t;go_enter Tryz.func60,Tryz.ntmps60;go_wp2_with fail
  (with_reducible refine cc.mono ?_)
  rintro e w' ⟨rfl,rfl⟩;go_wp2_with fail
  (with_reducible refine cp.mono ?_)
  rintro e w' ⟨rfl,rfl⟩;go_wp2_with fail
  go_ret;exact ⟨rfl,Below.refl _ _⟩
 have tb:(p.comp.toList==[108,97,121,111,117,116,115])=false:=beq_eq_false_iff_ne.2 t;rw[if_neg t];clear t;go_enter Tryz.func60,Tryz.ntmps60;go_wp2_with fail
 (with_reducible refine cc.mono ?_)
 rintro e w' ⟨rfl,rfl⟩;go_wp2_with fail
 (with_reducible refine cb.mono ?_)
 rintro e w' ⟨rfl,hd⟩;have HD:=cD hd;clear hd;go_wp2_with fail
 go_ret;exact ⟨rfl,HD.out⟩
end
end Go.Proofs.YtbkobfoaphcamaaGreatDoor.Path
