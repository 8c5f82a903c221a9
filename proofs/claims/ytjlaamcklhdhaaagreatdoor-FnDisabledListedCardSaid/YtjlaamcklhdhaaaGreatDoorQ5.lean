/- Texts that the law leans on: Apply2, Apply3, Apply. Condition: as told at each. -/
import Derived.StillTailTactics
import Derived.Test.YtjlaamcklhdhaaaGreatDoorQ4
set_option linter.unusedSimpArgs false
set_option linter.unusedVariables false
namespace Go.Proofs.YtjlaamcklhdhaaaGreatDoor.Path
open Go.RowKit Go.WideMaps Go.Proofs.YtjlaamcklhdhaaaGreatDoorW.PrintWords Go.Proofs.YtjlaamcklhdhaaaGreatDoorW.PrintLast Go.Proofs.YtjlaamcklhdhaaaGreatDoor.Base
section
variable {w0 w:World} {b:Nat} {p:PathV} {vk vu vl u:Value} {pb mb sb fb:Nat} {st:SiteV} {sl sd sf sc:Value}
set_option maxRecDepth 100000 in
set_option maxHeartbeats 4000000 in
theorem apply_fmt (S:ParserAt w0 pb st sl sd sf sc mb sb fb) (OS:SiteOk st) (hB:Below w0.heap.size w0 w) (H:PathAt w w0.heap.size b p vk vu vl u) (osz:p.s.size≤1000000) (okl:p.known.length≤1000000) (oll:p.plangs.length≤1000000) (comp:ByteArray) (lo hi:Nat) (q1:lo≤hi) (q2:hi≤p.s.size) (hasc:asc (p.s.extract lo hi)) (hc:(comp.toList==[108,97,121,111,117,116,115])=true) (hd:fmtAsk st.fmts (lowS (p.s.extract lo hi)) ⟨#[]⟩=true) :
 Calls Tryz.prog 129 #[.pointer (some ⟨pb,0,none⟩),.string comp,.string ⟨#[111,117,116,112,117,116,102,111,114,109,97,116,95]⟩,.pointer (some ⟨b,0,none⟩),.agg #[.int .i64 lo,.int .i64 hi]] w fun e w' =>
  e = .returned (.bool true)∧∃ vk' vl',PathAt w' w0.heap.size b { p with known:=p.known++[((lo:Int),(hi:Int))],pfmt:=p.known.length } vk' vu vl' u∧Moved w w' b vk vu vl vk' vu vl':=by
 have HP:=Aside0.mk H;have hb:=H.lt;have HS:=Aside0.mk S;have HB0:=Aside0.mk hB;have hsz:(p.s.extract lo hi).size≤1000000:=Nat.le_trans (extract_le _ _ _) osz;have cl:=fun W=>Tryz.strings_ToLower_ascii (p.s.extract lo hi) W (by omega) hasc
 obtain ⟨x,hx⟩:∃ x,lowS (p.s.extract lo hi)=x:=⟨_,rfl⟩
 rw[show (⟨(Lib.toLowerA (p.s.extract lo hi).data.toList).toArray⟩:ByteArray)=x from hx] at cl;have hxz:x.size≤1000000:=by rw[← hx,lowS_size];exact hsz
 have HX:=Aside0.mk hx;have h0:=H.row.at 0 _ rfl;have mne:=map_ne mb;clear H S hB hasc hx;go_enter Tryz.func129,Tryz.ntmps129;go_upto_region 1 with fail
 have hal:Below w.heap.size w (w.alloc (.cells #[.int .i64 lo,.int .i64 hi] 71)):=(Below.refl _ _).alloc (Nat.le_refl _) _;have hR:=Row.new w [.int .i64 lo,.int .i64 hi] 71;have hs1:w.heap.size < (w.alloc (.cells #[.int .i64 lo,.int .i64 hi] 71)).heap.size:=by simp
 obtain ⟨V0,hV0⟩:∃ V0,w.alloc (.cells #[.int .i64 lo,.int .i64 hi] 71)=V0:=⟨_,rfl⟩
 replace hR:Row V0 w.heap.size [.int .i64 lo,.int .i64 hi]:=hV0▸hR;rw[hV0] at hal hs1 ⊢;clear hV0;refine wp_region_still_tail 9 (by kernel_rfl) (by kernel_rfl) ?_;change wpStill _ _ V0.drew (fun a'=>wpList _ _ _ _ a' V0.drew) _ _;replace hal:=hal.drew;replace hR:Row V0.drew w.heap.size [.int .i64 lo,.int .i64 hi]:=hR.step rfl;replace hs1:w.heap.size < V0.drew.heap.size:=hs1
 obtain ⟨V,hV⟩:∃ V,V0.drew=V:=⟨_,rfl⟩
 rw[hV] at hal hR hs1 ⊢;clear hV;have d0:V.cell? ⟨b,0,none⟩=some (.string p.s):=(hal.cell (p:=⟨b,0,none⟩) hb).trans h0;have d1:=hR.at 0 _ rfl;have d2:=hR.at 1 _ rfl;simp only[List.take_succ_cons,List.take_zero,List.drop_succ_cons,List.drop_zero]
 repeat still_step
 refine wpStill_nil ?_;have HB1:=Aside0.mk hal;have HR1:=Aside0.mk hR;clear hal hR d0 d1 d2 h0;go_wp2_with fail
 refine (cl V).mono ?_;rintro e w2 ⟨rfl,hb2⟩;have HB2:=Aside0.mk (below_step HB1.out hb2);have HR2:=Aside0.mk (HR1.out.below hb2 hs1);have hs2:=Nat.lt_of_lt_of_le hs1 hb2.size;have HP2:=Aside0.mk (HP.out.below HB2.out);have HS2:=Aside0.mk (HS.out.below (HB0.out.trans (HB2.out.mono HB0.out.size)));have d1:=HR2.out.at 0 _ rfl;have d2:=HR2.out.at 1 _ rfl;have hI:=Aside0.mk (HP.out.new_ne (Nat.le_refl _));clear hb2 cl;have s2:=HS2.out.row.at 2 _ rfl;have fne:=func_ne34 (.func 88) #[] #[.pointer (some ⟨sb,0,none⟩)];have cd:=isFormat_calls HS2.out.site OS x ⟨#[]⟩;rw[HX.out] at hd;rw[hd] at cd;clear hd;go_wp2_with fail
 refine cd.mono ?_;rintro e w3 ⟨rfl,hb3⟩;clear cd;have HP3:=Aside0.mk (HP2.out.below hb3);have HB3:=Aside0.mk (below_step HB2.out hb3);replace d1:=(hb3.cell (p:=⟨w.heap.size,0,none⟩) hs2).trans d1;replace d2:=(hb3.cell (p:=⟨w.heap.size,1,none⟩) hs2).trans d2;clear hb3;go_upto_region 18 with fail
 have qa_0:=HP3.out.row.at 6 _ rfl;have qa_f:=HP3.out.row.free 6 (by simp[cells]);have qa_b:=HP3.out.lt;have qa_B:w0.heap.size≤w3.heap.size:=Nat.le_trans HP3.out.base (Nat.le_of_lt qa_b);have qa_n:=Aside0.mk HP3.out.nk;have qa_o:=Aside0.mk HP3.out.ok;refine start_ (n:=11) (S:=fun w'=>w'.cell? ⟨b,6,none⟩=some vk∧w'.cell? ⟨w.heap.size,0,none⟩=some (.int .i64 lo)∧w'.cell? ⟨w.heap.size,1,none⟩=some (.int .i64 hi)) (ds:=[10]) #[false,false,false,false,false,false,false,false,false,false,false] (by kernel_rfl) rfl rfl ⟨qa_0,d1,d2⟩ (fun hHeld=>?_);refine pure_ (i:=0) (N:=some 125) (v:=?_) (a':=?_) #[true,false,false,false,false,false,false,false,false,false,false] rfl rfl (by kernel_rfl) (fun _ _ _ h=>h) (Or.inl ⟨by rfl,?_⟩) ?_ ?_;rotate_left
 ·intro w';go_simp
  with_reducible rfl
 rotate_left
 ·simp only[Act.put,List.setIfInBounds_toArray,List.set_cons_zero,List.set_cons_succ,i64_w,i32_w];rfl
 refine pure_ (i:=1) (N:=some 126) (v:=?_) (a':=?_) #[true,true,false,false,false,false,false,false,false,false,false] rfl rfl (by kernel_rfl) (fun _ _ _ h=>h) (Or.inl ⟨by rfl,?_⟩) ?_ ?_;rotate_left
 ·intro w';go_simp
  with_reducible rfl
 rotate_left
 ·simp only[Act.put,List.setIfInBounds_toArray,List.set_cons_zero,List.set_cons_succ,i64_w,i32_w];rfl
 refine pure_ (i:=2) (N:=some 127) (v:=?_) (a':=?_) #[true,true,true,false,false,false,false,false,false,false,false] rfl rfl (by kernel_rfl) (fun _ _ _ h=>h) (Or.inl ⟨by rfl,?_⟩) ?_ ?_;rotate_left
 ·intro w';go_simp
  with_reducible rfl
 rotate_left
 ·simp only[Act.put,List.setIfInBounds_toArray,List.set_cons_zero,List.set_cons_succ,i64_w,i32_w];rfl
 refine pure_ (i:=3) (N:=some 128) (v:=?_) (a':=?_) #[true,true,true,true,false,false,false,false,false,false,false] rfl rfl (by kernel_rfl) (fun _ _ _ h=>h) (Or.inl ⟨by rfl,?_⟩) ?_ ?_;rotate_left
 ·intro w';go_simp
  with_reducible rfl
 rotate_left
 ·simp only[Act.put,List.setIfInBounds_toArray,List.set_cons_zero,List.set_cons_succ,i64_w,i32_w];rfl
 refine take_ (i:=4) (N:=some 129) (v:=?_) (a':=?_) #[true,true,true,true,true,false,false,false,false,false,false] rfl rfl (by kernel_rfl) (fun _ _ _ h=>h) (Or.inl ⟨by rfl,?_⟩) hHeld ?_ ?_;rotate_left
 ·rintro w' ⟨s0,s1,s2⟩;go_simp
  with_reducible rfl
 rotate_left
 ·simp only[Act.put,List.setIfInBounds_toArray,List.set_cons_zero,List.set_cons_succ,i64_w,i32_w];rfl
 refine take_ (i:=5) (N:=some 130) (v:=?_) (a':=?_) #[true,true,true,true,true,true,false,false,false,false,false] rfl rfl (by kernel_rfl) (fun _ _ _ h=>h) (Or.inl ⟨by rfl,?_⟩) hHeld ?_ ?_;rotate_left
 ·rintro w' ⟨s0,s1,s2⟩;go_simp
  with_reducible rfl
 rotate_left
 ·simp only[Act.put,List.setIfInBounds_toArray,List.set_cons_zero,List.set_cons_succ,i64_w,i32_w];rfl
 refine one_ (i:=6) (N:=some 131) #[true,true,true,true,true,true,true,false,false,false,false] rfl rfl (by kernel_rfl) (by decide) (fun K hK=>?_);refine value_ (w1:=?_) (v:=?_) (by rfl) rfl ?_ ?_;rotate_left 2
 ·go_simp;constructor
  ·rfl
  ·rfl
 have aa_h:Below w3.heap.size w3 (w3.drew.alloc (.cells ([.int .i64 lo,.int .i64 hi]:List Value).toArray 71)):=(Below.refl _ _).drew.alloc (Nat.le_refl _) _;refine hK.out _ _ ⟨((aa_h.cell (p:=⟨b,6,none⟩) (World.block_lt_of_cell? w3 ⟨b,6,none⟩ qa_0)).trans qa_0),((aa_h.cell (p:=⟨w.heap.size,0,none⟩) (World.block_lt_of_cell? w3 ⟨w.heap.size,0,none⟩ d1)).trans d1),((aa_h.cell (p:=⟨w.heap.size,1,none⟩) (World.block_lt_of_cell? w3 ⟨w.heap.size,1,none⟩ d2)).trans d2)⟩ (fun hHeld=>?_);clear hK K;refine norm_ (a':=?_) ?_ ?_;rotate_left
 ·show Act.put _ (some 131) _=_;simp only[Act.put,List.setIfInBounds_toArray,List.set_cons_zero,List.set_cons_succ,i64_w,i32_w];rfl
 refine one_ (i:=7) (N:=some 132) #[true,true,true,true,true,true,true,true,false,false,false] rfl rfl (by kernel_rfl) (by decide) (fun K hK=>?_);refine step_append_cells (w0:=w3) (W:=w3.drew) w0.heap.size (by rfl) (.tmp 129) (.tmp 131) 69 71 _ 2 16 (by rfl) Tryz.underlying69 info81 rfl (by decide) (by decide) vk p.known.length (pairs p.known) [.int .i64 lo,.int .i64 hi] (by rfl) (by rfl) (by rfl) (by simp[Value.oneCell']) qa_o.out ((Below.refl _ _).drew) qa_B (by omega) ?_;intro va war oa bba ga ta;obtain ⟨Aa,ca,eva⟩:=own_slice oa;subst eva;have xa_0:=ga.cell (w:=w3.drew) (a:=⟨b,6,none⟩) qa_0 qa_n.out;have xa_f:=(World.frozen?_of_block (w:=w3.drew) (a:=⟨b,6,none⟩) (ga.block b qa_b qa_n.out)).trans qa_f;have xa_1:=ga.cell (w:=w3.drew) (a:=⟨w.heap.size,0,none⟩) d1 hI.out.2.1
 have xa_2:=ga.cell (w:=w3.drew) (a:=⟨w.heap.size,1,none⟩) d2 hI.out.2.1
 have gga:w3.grownBy war vk.ownBlock:=⟨ga.os,ga.tape,ga.output,ga.size,ga.block⟩
 obtain ⟨hpa,hma⟩:=known_step HP3.out (lo,hi) (w':=war) oa gga ta;have HPa:=Aside0.mk hpa;have HMa:=Aside0.mk hma;clear hpa hma oa bba ga gga ta;refine hK.out _ _ ⟨xa_0,xa_1,xa_2⟩ (fun hHeld=>?_);clear hK K;refine norm_ (a':=?_) ?_ ?_;rotate_left
 ·show Act.put _ (some 132) _=_;simp only[Act.put,List.setIfInBounds_toArray,List.set_cons_zero,List.set_cons_succ,i64_w,i32_w];rfl
 refine pure_ (i:=8) (N:=some 133) (v:=?_) (a':=?_) #[true,true,true,true,true,true,true,true,true,false,false] rfl rfl (by kernel_rfl) (fun _ _ _ h=>h) (Or.inl ⟨by rfl,?_⟩) ?_ ?_;rotate_left
 ·intro w';go_simp
  with_reducible rfl
 rotate_left
 ·simp only[Act.put,List.setIfInBounds_toArray,List.set_cons_zero,List.set_cons_succ,i64_w,i32_w];rfl
 refine pure_ (i:=9) (N:=some 134) (v:=?_) (a':=?_) #[true,true,true,true,true,true,true,true,true,true,false] rfl rfl (by kernel_rfl) (fun _ _ _ h=>h) (Or.inl ⟨by rfl,?_⟩) ?_ ?_;rotate_left
 ·intro w';go_simp
  with_reducible rfl
 rotate_left
 ·simp only[Act.put,List.setIfInBounds_toArray,List.set_cons_zero,List.set_cons_succ,i64_w,i32_w];rfl
 refine last_ (i:=10) (N:=none) #[true,true,true,true,true,true,true,true,true,true,true] rfl rfl (by kernel_rfl) (by decide) (fun K hK=>?_);refine skip_ (w1:=?_) (by rfl) rfl ?_ ?_;rotate_left
 ·go_simp;rfl
 refine hK.out _ _ ?_;clear hK K;refine done_ (by kernel_rfl) ?_;clear d1 d2 xa_0 xa_f xa_1 xa_2 qa_0 qa_f qa_b qa_B qa_n qa_o aa_h
 obtain ⟨Wa,hWa⟩:∃ W,war.setCell ⟨b,6,none⟩ (.slice Aa (p.known.length+1) ca)=W:=⟨_,rfl⟩
 replace HPa:Aside0 (PathAt Wa w0.heap.size b { p with known:=p.known++[((lo:Int),(hi:Int))] } (.slice Aa (p.known.length+1) ca) vu vl u):=hWa▸HPa;replace HMa:Aside0 (Moved w3 Wa b vk vu vl (.slice Aa (p.known.length+1) ca) vu vl):=hWa▸HMa;rw[hWa];clear hWa;have z4:IntKind.i64.wrap (p.known.length:Int)=(p.known.length:Int):=by rw[IntWalk.i64_in _ (by omega)]
 have k6:=HPa.out.row.at 6 _ rfl;have k7:=HPa.out.row.at 17 _ rfl;have k8:=HPa.out.row.free 17 (by simp[cells]);go_wp2_with fail
 obtain ⟨hpc,hmc⟩:=put_step HPa.out 17 (.int .i64 p.known.length) { p with known:=p.known++[((lo:Int),(hi:Int))],pfmt:=p.known.length } u rfl rfl rfl rfl (by omega);go_ret;exact ⟨rfl,_,_,hpc,((Moved.of_below HB3.out).trans HMa.out).trans hmc⟩
set_option maxRecDepth 100000 in
set_option maxHeartbeats 4000000 in
theorem apply_fmt_no (S:ParserAt w0 pb st sl sd sf sc mb sb fb) (OS:SiteOk st) (hB:Below w0.heap.size w0 w) (H:PathAt w w0.heap.size b p vk vu vl u) (osz:p.s.size≤1000000) (okl:p.known.length≤1000000) (oll:p.plangs.length≤1000000) (comp:ByteArray) (lo hi:Nat) (q1:lo≤hi) (q2:hi≤p.s.size) (hasc:asc (p.s.extract lo hi)) (hc:(comp.toList==[108,97,121,111,117,116,115])=true) (hd:fmtAsk st.fmts (lowS (p.s.extract lo hi)) ⟨#[]⟩=false) :
 Calls Tryz.prog 129 #[.pointer (some ⟨pb,0,none⟩),.string comp,.string ⟨#[111,117,116,112,117,116,102,111,114,109,97,116,95]⟩,.pointer (some ⟨b,0,none⟩),.agg #[.int .i64 lo,.int .i64 hi]] w fun e w' =>
  e = .returned (.bool false)∧Below w.heap.size w w':=by
 have HP:=Aside0.mk H;have hb:=H.lt;have HS:=Aside0.mk S;have HB0:=Aside0.mk hB;have hsz:(p.s.extract lo hi).size≤1000000:=Nat.le_trans (extract_le _ _ _) osz;have cl:=fun W=>Tryz.strings_ToLower_ascii (p.s.extract lo hi) W (by omega) hasc
 obtain ⟨x,hx⟩:∃ x,lowS (p.s.extract lo hi)=x:=⟨_,rfl⟩
 rw[show (⟨(Lib.toLowerA (p.s.extract lo hi).data.toList).toArray⟩:ByteArray)=x from hx] at cl;have hxz:x.size≤1000000:=by rw[← hx,lowS_size];exact hsz
 have HX:=Aside0.mk hx;have h0:=H.row.at 0 _ rfl;have mne:=map_ne mb;clear H S hB hasc hx;go_enter Tryz.func129,Tryz.ntmps129;go_upto_region 1 with fail
 have hal:Below w.heap.size w (w.alloc (.cells #[.int .i64 lo,.int .i64 hi] 71)):=(Below.refl _ _).alloc (Nat.le_refl _) _;have hR:=Row.new w [.int .i64 lo,.int .i64 hi] 71;have hs1:w.heap.size < (w.alloc (.cells #[.int .i64 lo,.int .i64 hi] 71)).heap.size:=by simp
 obtain ⟨V0,hV0⟩:∃ V0,w.alloc (.cells #[.int .i64 lo,.int .i64 hi] 71)=V0:=⟨_,rfl⟩
 replace hR:Row V0 w.heap.size [.int .i64 lo,.int .i64 hi]:=hV0▸hR;rw[hV0] at hal hs1 ⊢;clear hV0;refine wp_region_still_tail 9 (by kernel_rfl) (by kernel_rfl) ?_;change wpStill _ _ V0.drew (fun a'=>wpList _ _ _ _ a' V0.drew) _ _;replace hal:=hal.drew;replace hR:Row V0.drew w.heap.size [.int .i64 lo,.int .i64 hi]:=hR.step rfl;replace hs1:w.heap.size < V0.drew.heap.size:=hs1
 obtain ⟨V,hV⟩:∃ V,V0.drew=V:=⟨_,rfl⟩
 rw[hV] at hal hR hs1 ⊢;clear hV;have d0:V.cell? ⟨b,0,none⟩=some (.string p.s):=(hal.cell (p:=⟨b,0,none⟩) hb).trans h0;have d1:=hR.at 0 _ rfl;have d2:=hR.at 1 _ rfl;simp only[List.take_succ_cons,List.take_zero,List.drop_succ_cons,List.drop_zero]
 repeat still_step
 refine wpStill_nil ?_;have HB1:=Aside0.mk hal;have HR1:=Aside0.mk hR;clear hal hR d0 d1 d2 h0;go_wp2_with fail
 refine (cl V).mono ?_;rintro e w2 ⟨rfl,hb2⟩;have HB2:=Aside0.mk (below_step HB1.out hb2);have HR2:=Aside0.mk (HR1.out.below hb2 hs1);have hs2:=Nat.lt_of_lt_of_le hs1 hb2.size;have HP2:=Aside0.mk (HP.out.below HB2.out);have HS2:=Aside0.mk (HS.out.below (HB0.out.trans (HB2.out.mono HB0.out.size)));have d1:=HR2.out.at 0 _ rfl;have d2:=HR2.out.at 1 _ rfl;have hI:=Aside0.mk (HP.out.new_ne (Nat.le_refl _));clear hb2 cl;have s2:=HS2.out.row.at 2 _ rfl;have fne:=func_ne34 (.func 88) #[] #[.pointer (some ⟨sb,0,none⟩)];have cd:=isFormat_calls HS2.out.site OS x ⟨#[]⟩;rw[HX.out] at hd;rw[hd] at cd;clear hd;go_wp2_with fail
 refine cd.mono ?_;rintro e w3 ⟨rfl,hb3⟩;clear cd;have HB3:=Aside0.mk (below_step HB2.out hb3);clear hb3;go_wp2_with fail
 go_ret;exact ⟨rfl,HB3.out⟩
set_option maxRecDepth 100000 in
set_option maxHeartbeats 4000000 in
theorem apply_fmt_comp (S:ParserAt w0 pb st sl sd sf sc mb sb fb) (OS:SiteOk st) (hB:Below w0.heap.size w0 w) (H:PathAt w w0.heap.size b p vk vu vl u) (osz:p.s.size≤1000000) (okl:p.known.length≤1000000) (oll:p.plangs.length≤1000000) (comp:ByteArray) (lo hi:Nat) (q1:lo≤hi) (q2:hi≤p.s.size) (hasc:asc (p.s.extract lo hi)) (hc:(comp.toList==[108,97,121,111,117,116,115])=false) :
 Calls Tryz.prog 129 #[.pointer (some ⟨pb,0,none⟩),.string comp,.string ⟨#[111,117,116,112,117,116,102,111,114,109,97,116,95]⟩,.pointer (some ⟨b,0,none⟩),.agg #[.int .i64 lo,.int .i64 hi]] w fun e w' =>
  e = .returned (.bool false)∧Below w.heap.size w w':=by
 have HP:=Aside0.mk H;have hb:=H.lt;have HS:=Aside0.mk S;have HB0:=Aside0.mk hB;have hsz:(p.s.extract lo hi).size≤1000000:=Nat.le_trans (extract_le _ _ _) osz;have cl:=fun W=>Tryz.strings_ToLower_ascii (p.s.extract lo hi) W (by omega) hasc
 obtain ⟨x,hx⟩:∃ x,lowS (p.s.extract lo hi)=x:=⟨_,rfl⟩
 rw[show (⟨(Lib.toLowerA (p.s.extract lo hi).data.toList).toArray⟩:ByteArray)=x from hx] at cl;have hxz:x.size≤1000000:=by rw[← hx,lowS_size];exact hsz
 have HX:=Aside0.mk hx;have h0:=H.row.at 0 _ rfl;have mne:=map_ne mb;clear H S hB hasc hx;go_enter Tryz.func129,Tryz.ntmps129;go_upto_region 1 with fail
 have hal:Below w.heap.size w (w.alloc (.cells #[.int .i64 lo,.int .i64 hi] 71)):=(Below.refl _ _).alloc (Nat.le_refl _) _;have hR:=Row.new w [.int .i64 lo,.int .i64 hi] 71;have hs1:w.heap.size < (w.alloc (.cells #[.int .i64 lo,.int .i64 hi] 71)).heap.size:=by simp
 obtain ⟨V0,hV0⟩:∃ V0,w.alloc (.cells #[.int .i64 lo,.int .i64 hi] 71)=V0:=⟨_,rfl⟩
 replace hR:Row V0 w.heap.size [.int .i64 lo,.int .i64 hi]:=hV0▸hR;rw[hV0] at hal hs1 ⊢;clear hV0;refine wp_region_still_tail 9 (by kernel_rfl) (by kernel_rfl) ?_;change wpStill _ _ V0.drew (fun a'=>wpList _ _ _ _ a' V0.drew) _ _;replace hal:=hal.drew;replace hR:Row V0.drew w.heap.size [.int .i64 lo,.int .i64 hi]:=hR.step rfl;replace hs1:w.heap.size < V0.drew.heap.size:=hs1
 obtain ⟨V,hV⟩:∃ V,V0.drew=V:=⟨_,rfl⟩
 rw[hV] at hal hR hs1 ⊢;clear hV;have d0:V.cell? ⟨b,0,none⟩=some (.string p.s):=(hal.cell (p:=⟨b,0,none⟩) hb).trans h0;have d1:=hR.at 0 _ rfl;have d2:=hR.at 1 _ rfl;simp only[List.take_succ_cons,List.take_zero,List.drop_succ_cons,List.drop_zero]
 repeat still_step
 refine wpStill_nil ?_;have HB1:=Aside0.mk hal;have HR1:=Aside0.mk hR;clear hal hR d0 d1 d2 h0;go_wp2_with fail
 refine (cl V).mono ?_;rintro e w2 ⟨rfl,hb2⟩;have HB2:=Aside0.mk (below_step HB1.out hb2);have HR2:=Aside0.mk (HR1.out.below hb2 hs1);have hs2:=Nat.lt_of_lt_of_le hs1 hb2.size;have HP2:=Aside0.mk (HP.out.below HB2.out);have HS2:=Aside0.mk (HS.out.below (HB0.out.trans (HB2.out.mono HB0.out.size)));have d1:=HR2.out.at 0 _ rfl;have d2:=HR2.out.at 1 _ rfl;have hI:=Aside0.mk (HP.out.new_ne (Nat.le_refl _));clear hb2 cl;go_wp2_with fail
 go_ret;exact ⟨rfl,HB2.out⟩
set_option maxRecDepth 100000 in
set_option maxHeartbeats 4000000 in
theorem apply_kind (S:ParserAt w0 pb st sl sd sf sc mb sb fb) (OS:SiteOk st) (hB:Below w0.heap.size w0 w) (H:PathAt w w0.heap.size b p vk vu vl u) (osz:p.s.size≤1000000) (okl:p.known.length≤1000000) (oll:p.plangs.length≤1000000) (comp:ByteArray) (lo hi:Nat) (q1:lo≤hi) (q2:hi≤p.s.size) (hasc:asc (p.s.extract lo hi)) (hc:(comp.toList==[108,97,121,111,117,116,115])=true) (hd:isKindL (Lib.toLowerA (L (lowS (p.s.extract lo hi))))=true) :
 Calls Tryz.prog 129 #[.pointer (some ⟨pb,0,none⟩),.string comp,.string ⟨#[107,105,110,100,95]⟩,.pointer (some ⟨b,0,none⟩),.agg #[.int .i64 lo,.int .i64 hi]] w fun e w' =>
  e = .returned (.bool true)∧∃ vk' vl',PathAt w' w0.heap.size b { p with known:=p.known++[((lo:Int),(hi:Int))],pkind:=p.known.length } vk' vu vl' u∧Moved w w' b vk vu vl vk' vu vl':=by
 have HA:=Aside0.mk hasc;have HP:=Aside0.mk H;have hb:=H.lt;have HS:=Aside0.mk S;have HB0:=Aside0.mk hB;have hsz:(p.s.extract lo hi).size≤1000000:=Nat.le_trans (extract_le _ _ _) osz;have cl:=fun W=>Tryz.strings_ToLower_ascii (p.s.extract lo hi) W (by omega) hasc
 obtain ⟨x,hx⟩:∃ x,lowS (p.s.extract lo hi)=x:=⟨_,rfl⟩
 rw[show (⟨(Lib.toLowerA (p.s.extract lo hi).data.toList).toArray⟩:ByteArray)=x from hx] at cl;have hxz:x.size≤1000000:=by rw[← hx,lowS_size];exact hsz
 have HX:=Aside0.mk hx;have h0:=H.row.at 0 _ rfl;have mne:=map_ne mb;clear H S hB hasc hx;go_enter Tryz.func129,Tryz.ntmps129;go_upto_region 1 with fail
 have hal:Below w.heap.size w (w.alloc (.cells #[.int .i64 lo,.int .i64 hi] 71)):=(Below.refl _ _).alloc (Nat.le_refl _) _;have hR:=Row.new w [.int .i64 lo,.int .i64 hi] 71;have hs1:w.heap.size < (w.alloc (.cells #[.int .i64 lo,.int .i64 hi] 71)).heap.size:=by simp
 obtain ⟨V0,hV0⟩:∃ V0,w.alloc (.cells #[.int .i64 lo,.int .i64 hi] 71)=V0:=⟨_,rfl⟩
 replace hR:Row V0 w.heap.size [.int .i64 lo,.int .i64 hi]:=hV0▸hR;rw[hV0] at hal hs1 ⊢;clear hV0;refine wp_region_still_tail 9 (by kernel_rfl) (by kernel_rfl) ?_;change wpStill _ _ V0.drew (fun a'=>wpList _ _ _ _ a' V0.drew) _ _;replace hal:=hal.drew;replace hR:Row V0.drew w.heap.size [.int .i64 lo,.int .i64 hi]:=hR.step rfl;replace hs1:w.heap.size < V0.drew.heap.size:=hs1
 obtain ⟨V,hV⟩:∃ V,V0.drew=V:=⟨_,rfl⟩
 rw[hV] at hal hR hs1 ⊢;clear hV;have d0:V.cell? ⟨b,0,none⟩=some (.string p.s):=(hal.cell (p:=⟨b,0,none⟩) hb).trans h0;have d1:=hR.at 0 _ rfl;have d2:=hR.at 1 _ rfl;simp only[List.take_succ_cons,List.take_zero,List.drop_succ_cons,List.drop_zero]
 repeat still_step
 refine wpStill_nil ?_;have HB1:=Aside0.mk hal;have HR1:=Aside0.mk hR;clear hal hR d0 d1 d2 h0;go_wp2_with fail
 refine (cl V).mono ?_;rintro e w2 ⟨rfl,hb2⟩;have HB2:=Aside0.mk (below_step HB1.out hb2);have HR2:=Aside0.mk (HR1.out.below hb2 hs1);have hs2:=Nat.lt_of_lt_of_le hs1 hb2.size;have HP2:=Aside0.mk (HP.out.below HB2.out);have HS2:=Aside0.mk (HS.out.below (HB0.out.trans (HB2.out.mono HB0.out.size)));have d1:=HR2.out.at 0 _ rfl;have d2:=HR2.out.at 1 _ rfl;have hI:=Aside0.mk (HP.out.new_ne (Nat.le_refl _));clear hb2 cl;have hax:∀ (j:Nat) (b:UInt8),x.data.toList[j]? = some b→b.toNat < 128:=by rw[← HX.out];exact lowS_asc _ HA.out
 have cd:=GetKindMain_calls x w2 hxz hax;rw[HX.out] at hd;go_wp2_with fail
 refine cd.mono ?_;rintro e w3 ⟨r,rfl,hr,hb3⟩;rw[hd] at hr;have hr2:(r.toList==[])=false:=hr;clear cd hd hr;have HP3:=Aside0.mk (HP2.out.below hb3);have HB3:=Aside0.mk (below_step HB2.out hb3);replace d1:=(hb3.cell (p:=⟨w.heap.size,0,none⟩) hs2).trans d1;replace d2:=(hb3.cell (p:=⟨w.heap.size,1,none⟩) hs2).trans d2;clear hb3;go_upto_region 24 with fail
 have qa_0:=HP3.out.row.at 6 _ rfl;have qa_f:=HP3.out.row.free 6 (by simp[cells]);have qa_b:=HP3.out.lt;have qa_B:w0.heap.size≤w3.heap.size:=Nat.le_trans HP3.out.base (Nat.le_of_lt qa_b);have qa_n:=Aside0.mk HP3.out.nk;have qa_o:=Aside0.mk HP3.out.ok;refine start_ (n:=11) (S:=fun w'=>w'.cell? ⟨b,6,none⟩=some vk∧w'.cell? ⟨w.heap.size,0,none⟩=some (.int .i64 lo)∧w'.cell? ⟨w.heap.size,1,none⟩=some (.int .i64 hi)) (ds:=[10]) #[false,false,false,false,false,false,false,false,false,false,false] (by kernel_rfl) rfl rfl ⟨qa_0,d1,d2⟩ (fun hHeld=>?_);refine pure_ (i:=0) (N:=some 151) (v:=?_) (a':=?_) #[true,false,false,false,false,false,false,false,false,false,false] rfl rfl (by kernel_rfl) (fun _ _ _ h=>h) (Or.inl ⟨by rfl,?_⟩) ?_ ?_;rotate_left
 ·intro w';go_simp
  with_reducible rfl
 rotate_left
 ·simp only[Act.put,List.setIfInBounds_toArray,List.set_cons_zero,List.set_cons_succ,i64_w,i32_w];rfl
 refine pure_ (i:=1) (N:=some 152) (v:=?_) (a':=?_) #[true,true,false,false,false,false,false,false,false,false,false] rfl rfl (by kernel_rfl) (fun _ _ _ h=>h) (Or.inl ⟨by rfl,?_⟩) ?_ ?_;rotate_left
 ·intro w';go_simp
  with_reducible rfl
 rotate_left
 ·simp only[Act.put,List.setIfInBounds_toArray,List.set_cons_zero,List.set_cons_succ,i64_w,i32_w];rfl
 refine pure_ (i:=2) (N:=some 153) (v:=?_) (a':=?_) #[true,true,true,false,false,false,false,false,false,false,false] rfl rfl (by kernel_rfl) (fun _ _ _ h=>h) (Or.inl ⟨by rfl,?_⟩) ?_ ?_;rotate_left
 ·intro w';go_simp
  with_reducible rfl
 rotate_left
 ·simp only[Act.put,List.setIfInBounds_toArray,List.set_cons_zero,List.set_cons_succ,i64_w,i32_w];rfl
 refine pure_ (i:=3) (N:=some 154) (v:=?_) (a':=?_) #[true,true,true,true,false,false,false,false,false,false,false] rfl rfl (by kernel_rfl) (fun _ _ _ h=>h) (Or.inl ⟨by rfl,?_⟩) ?_ ?_;rotate_left
 ·intro w';go_simp
  with_reducible rfl
 rotate_left
 ·simp only[Act.put,List.setIfInBounds_toArray,List.set_cons_zero,List.set_cons_succ,i64_w,i32_w];rfl
 refine take_ (i:=4) (N:=some 155) (v:=?_) (a':=?_) #[true,true,true,true,true,false,false,false,false,false,false] rfl rfl (by kernel_rfl) (fun _ _ _ h=>h) (Or.inl ⟨by rfl,?_⟩) hHeld ?_ ?_;rotate_left
 ·rintro w' ⟨s0,s1,s2⟩;go_simp
  with_reducible rfl
 rotate_left
 ·simp only[Act.put,List.setIfInBounds_toArray,List.set_cons_zero,List.set_cons_succ,i64_w,i32_w];rfl
 refine take_ (i:=5) (N:=some 156) (v:=?_) (a':=?_) #[true,true,true,true,true,true,false,false,false,false,false] rfl rfl (by kernel_rfl) (fun _ _ _ h=>h) (Or.inl ⟨by rfl,?_⟩) hHeld ?_ ?_;rotate_left
 ·rintro w' ⟨s0,s1,s2⟩;go_simp
  with_reducible rfl
 rotate_left
 ·simp only[Act.put,List.setIfInBounds_toArray,List.set_cons_zero,List.set_cons_succ,i64_w,i32_w];rfl
 refine one_ (i:=6) (N:=some 157) #[true,true,true,true,true,true,true,false,false,false,false] rfl rfl (by kernel_rfl) (by decide) (fun K hK=>?_);refine value_ (w1:=?_) (v:=?_) (by rfl) rfl ?_ ?_;rotate_left 2
 ·go_simp;constructor
  ·rfl
  ·rfl
 have aa_h:Below w3.heap.size w3 (w3.drew.alloc (.cells ([.int .i64 lo,.int .i64 hi]:List Value).toArray 71)):=(Below.refl _ _).drew.alloc (Nat.le_refl _) _;refine hK.out _ _ ⟨((aa_h.cell (p:=⟨b,6,none⟩) (World.block_lt_of_cell? w3 ⟨b,6,none⟩ qa_0)).trans qa_0),((aa_h.cell (p:=⟨w.heap.size,0,none⟩) (World.block_lt_of_cell? w3 ⟨w.heap.size,0,none⟩ d1)).trans d1),((aa_h.cell (p:=⟨w.heap.size,1,none⟩) (World.block_lt_of_cell? w3 ⟨w.heap.size,1,none⟩ d2)).trans d2)⟩ (fun hHeld=>?_);clear hK K;refine norm_ (a':=?_) ?_ ?_;rotate_left
 ·show Act.put _ (some 157) _=_;simp only[Act.put,List.setIfInBounds_toArray,List.set_cons_zero,List.set_cons_succ,i64_w,i32_w];rfl
 refine one_ (i:=7) (N:=some 158) #[true,true,true,true,true,true,true,true,false,false,false] rfl rfl (by kernel_rfl) (by decide) (fun K hK=>?_);refine step_append_cells (w0:=w3) (W:=w3.drew) w0.heap.size (by rfl) (.tmp 155) (.tmp 157) 69 71 _ 2 16 (by rfl) Tryz.underlying69 info81 rfl (by decide) (by decide) vk p.known.length (pairs p.known) [.int .i64 lo,.int .i64 hi] (by rfl) (by rfl) (by rfl) (by simp[Value.oneCell']) qa_o.out ((Below.refl _ _).drew) qa_B (by omega) ?_;intro va war oa bba ga ta;obtain ⟨Aa,ca,eva⟩:=own_slice oa;subst eva;have xa_0:=ga.cell (w:=w3.drew) (a:=⟨b,6,none⟩) qa_0 qa_n.out;have xa_f:=(World.frozen?_of_block (w:=w3.drew) (a:=⟨b,6,none⟩) (ga.block b qa_b qa_n.out)).trans qa_f;have xa_1:=ga.cell (w:=w3.drew) (a:=⟨w.heap.size,0,none⟩) d1 hI.out.2.1
 have xa_2:=ga.cell (w:=w3.drew) (a:=⟨w.heap.size,1,none⟩) d2 hI.out.2.1
 have gga:w3.grownBy war vk.ownBlock:=⟨ga.os,ga.tape,ga.output,ga.size,ga.block⟩
 obtain ⟨hpa,hma⟩:=known_step HP3.out (lo,hi) (w':=war) oa gga ta;have HPa:=Aside0.mk hpa;have HMa:=Aside0.mk hma;clear hpa hma oa bba ga gga ta;refine hK.out _ _ ⟨xa_0,xa_1,xa_2⟩ (fun hHeld=>?_);clear hK K;refine norm_ (a':=?_) ?_ ?_;rotate_left
 ·show Act.put _ (some 158) _=_;simp only[Act.put,List.setIfInBounds_toArray,List.set_cons_zero,List.set_cons_succ,i64_w,i32_w];rfl
 refine pure_ (i:=8) (N:=some 159) (v:=?_) (a':=?_) #[true,true,true,true,true,true,true,true,true,false,false] rfl rfl (by kernel_rfl) (fun _ _ _ h=>h) (Or.inl ⟨by rfl,?_⟩) ?_ ?_;rotate_left
 ·intro w';go_simp
  with_reducible rfl
 rotate_left
 ·simp only[Act.put,List.setIfInBounds_toArray,List.set_cons_zero,List.set_cons_succ,i64_w,i32_w];rfl
 refine pure_ (i:=9) (N:=some 160) (v:=?_) (a':=?_) #[true,true,true,true,true,true,true,true,true,true,false] rfl rfl (by kernel_rfl) (fun _ _ _ h=>h) (Or.inl ⟨by rfl,?_⟩) ?_ ?_;rotate_left
 ·intro w';go_simp
  with_reducible rfl
 rotate_left
 ·simp only[Act.put,List.setIfInBounds_toArray,List.set_cons_zero,List.set_cons_succ,i64_w,i32_w];rfl
 refine last_ (i:=10) (N:=none) #[true,true,true,true,true,true,true,true,true,true,true] rfl rfl (by kernel_rfl) (by decide) (fun K hK=>?_);refine skip_ (w1:=?_) (by rfl) rfl ?_ ?_;rotate_left
 ·go_simp;rfl
 refine hK.out _ _ ?_;clear hK K;refine done_ (by kernel_rfl) ?_;clear d1 d2 xa_0 xa_f xa_1 xa_2 qa_0 qa_f qa_b qa_B qa_n qa_o aa_h
 obtain ⟨Wa,hWa⟩:∃ W,war.setCell ⟨b,6,none⟩ (.slice Aa (p.known.length+1) ca)=W:=⟨_,rfl⟩
 replace HPa:Aside0 (PathAt Wa w0.heap.size b { p with known:=p.known++[((lo:Int),(hi:Int))] } (.slice Aa (p.known.length+1) ca) vu vl u):=hWa▸HPa;replace HMa:Aside0 (Moved w3 Wa b vk vu vl (.slice Aa (p.known.length+1) ca) vu vl):=hWa▸HMa;rw[hWa];clear hWa;have z4:IntKind.i64.wrap (p.known.length:Int)=(p.known.length:Int):=by rw[IntWalk.i64_in _ (by omega)]
 have k6:=HPa.out.row.at 6 _ rfl;have k7:=HPa.out.row.at 18 _ rfl;have k8:=HPa.out.row.free 18 (by simp[cells]);go_wp2_with fail
 obtain ⟨hpc,hmc⟩:=put_step HPa.out 18 (.int .i64 p.known.length) { p with known:=p.known++[((lo:Int),(hi:Int))],pkind:=p.known.length } u rfl rfl rfl rfl (by omega);go_ret;exact ⟨rfl,_,_,hpc,((Moved.of_below HB3.out).trans HMa.out).trans hmc⟩
set_option maxRecDepth 100000 in
set_option maxHeartbeats 4000000 in
theorem apply_kind_no (S:ParserAt w0 pb st sl sd sf sc mb sb fb) (OS:SiteOk st) (hB:Below w0.heap.size w0 w) (H:PathAt w w0.heap.size b p vk vu vl u) (osz:p.s.size≤1000000) (okl:p.known.length≤1000000) (oll:p.plangs.length≤1000000) (comp:ByteArray) (lo hi:Nat) (q1:lo≤hi) (q2:hi≤p.s.size) (hasc:asc (p.s.extract lo hi)) (hc:(comp.toList==[108,97,121,111,117,116,115])=true) (hd:isKindL (Lib.toLowerA (L (lowS (p.s.extract lo hi))))=false) :
 Calls Tryz.prog 129 #[.pointer (some ⟨pb,0,none⟩),.string comp,.string ⟨#[107,105,110,100,95]⟩,.pointer (some ⟨b,0,none⟩),.agg #[.int .i64 lo,.int .i64 hi]] w fun e w' =>
  e = .returned (.bool false)∧Below w.heap.size w w':=by
 have HA:=Aside0.mk hasc;have HP:=Aside0.mk H;have hb:=H.lt;have HS:=Aside0.mk S;have HB0:=Aside0.mk hB;have hsz:(p.s.extract lo hi).size≤1000000:=Nat.le_trans (extract_le _ _ _) osz;have cl:=fun W=>Tryz.strings_ToLower_ascii (p.s.extract lo hi) W (by omega) hasc
 obtain ⟨x,hx⟩:∃ x,lowS (p.s.extract lo hi)=x:=⟨_,rfl⟩
 rw[show (⟨(Lib.toLowerA (p.s.extract lo hi).data.toList).toArray⟩:ByteArray)=x from hx] at cl;have hxz:x.size≤1000000:=by rw[← hx,lowS_size];exact hsz
 have HX:=Aside0.mk hx;have h0:=H.row.at 0 _ rfl;have mne:=map_ne mb;clear H S hB hasc hx;go_enter Tryz.func129,Tryz.ntmps129;go_upto_region 1 with fail
 have hal:Below w.heap.size w (w.alloc (.cells #[.int .i64 lo,.int .i64 hi] 71)):=(Below.refl _ _).alloc (Nat.le_refl _) _;have hR:=Row.new w [.int .i64 lo,.int .i64 hi] 71;have hs1:w.heap.size < (w.alloc (.cells #[.int .i64 lo,.int .i64 hi] 71)).heap.size:=by simp
 obtain ⟨V0,hV0⟩:∃ V0,w.alloc (.cells #[.int .i64 lo,.int .i64 hi] 71)=V0:=⟨_,rfl⟩
 replace hR:Row V0 w.heap.size [.int .i64 lo,.int .i64 hi]:=hV0▸hR;rw[hV0] at hal hs1 ⊢;clear hV0;refine wp_region_still_tail 9 (by kernel_rfl) (by kernel_rfl) ?_;change wpStill _ _ V0.drew (fun a'=>wpList _ _ _ _ a' V0.drew) _ _;replace hal:=hal.drew;replace hR:Row V0.drew w.heap.size [.int .i64 lo,.int .i64 hi]:=hR.step rfl;replace hs1:w.heap.size < V0.drew.heap.size:=hs1
 obtain ⟨V,hV⟩:∃ V,V0.drew=V:=⟨_,rfl⟩
 rw[hV] at hal hR hs1 ⊢;clear hV;have d0:V.cell? ⟨b,0,none⟩=some (.string p.s):=(hal.cell (p:=⟨b,0,none⟩) hb).trans h0;have d1:=hR.at 0 _ rfl;have d2:=hR.at 1 _ rfl;simp only[List.take_succ_cons,List.take_zero,List.drop_succ_cons,List.drop_zero]
 repeat still_step
 refine wpStill_nil ?_;have HB1:=Aside0.mk hal;have HR1:=Aside0.mk hR;clear hal hR d0 d1 d2 h0;go_wp2_with fail
 refine (cl V).mono ?_;rintro e w2 ⟨rfl,hb2⟩;have HB2:=Aside0.mk (below_step HB1.out hb2);have HR2:=Aside0.mk (HR1.out.below hb2 hs1);have hs2:=Nat.lt_of_lt_of_le hs1 hb2.size;have HP2:=Aside0.mk (HP.out.below HB2.out);have HS2:=Aside0.mk (HS.out.below (HB0.out.trans (HB2.out.mono HB0.out.size)));have d1:=HR2.out.at 0 _ rfl;have d2:=HR2.out.at 1 _ rfl;have hI:=Aside0.mk (HP.out.new_ne (Nat.le_refl _));clear hb2 cl;have hax:∀ (j:Nat) (b:UInt8),x.data.toList[j]? = some b→b.toNat < 128:=by rw[← HX.out];exact lowS_asc _ HA.out
 have cd:=GetKindMain_calls x w2 hxz hax;rw[HX.out] at hd;go_wp2_with fail
 refine cd.mono ?_;rintro e w3 ⟨r,rfl,hr,hb3⟩;rw[hd] at hr;have hr2:(r.toList==[])=true:=hr;clear cd hd hr;have HB3:=Aside0.mk (below_step HB2.out hb3);clear hb3;go_wp2_with fail
 go_ret;exact ⟨rfl,HB3.out⟩
set_option maxRecDepth 100000 in
set_option maxHeartbeats 4000000 in
theorem apply_kind_comp (S:ParserAt w0 pb st sl sd sf sc mb sb fb) (OS:SiteOk st) (hB:Below w0.heap.size w0 w) (H:PathAt w w0.heap.size b p vk vu vl u) (osz:p.s.size≤1000000) (okl:p.known.length≤1000000) (oll:p.plangs.length≤1000000) (comp:ByteArray) (lo hi:Nat) (q1:lo≤hi) (q2:hi≤p.s.size) (hasc:asc (p.s.extract lo hi)) (hc:(comp.toList==[108,97,121,111,117,116,115])=false) :
 Calls Tryz.prog 129 #[.pointer (some ⟨pb,0,none⟩),.string comp,.string ⟨#[107,105,110,100,95]⟩,.pointer (some ⟨b,0,none⟩),.agg #[.int .i64 lo,.int .i64 hi]] w fun e w' =>
  e = .returned (.bool false)∧Below w.heap.size w w':=by
 have HP:=Aside0.mk H;have hb:=H.lt;have HS:=Aside0.mk S;have HB0:=Aside0.mk hB;have hsz:(p.s.extract lo hi).size≤1000000:=Nat.le_trans (extract_le _ _ _) osz;have cl:=fun W=>Tryz.strings_ToLower_ascii (p.s.extract lo hi) W (by omega) hasc
 obtain ⟨x,hx⟩:∃ x,lowS (p.s.extract lo hi)=x:=⟨_,rfl⟩
 rw[show (⟨(Lib.toLowerA (p.s.extract lo hi).data.toList).toArray⟩:ByteArray)=x from hx] at cl;have hxz:x.size≤1000000:=by rw[← hx,lowS_size];exact hsz
 have HX:=Aside0.mk hx;have h0:=H.row.at 0 _ rfl;have mne:=map_ne mb;clear H S hB hasc hx;go_enter Tryz.func129,Tryz.ntmps129;go_upto_region 1 with fail
 have hal:Below w.heap.size w (w.alloc (.cells #[.int .i64 lo,.int .i64 hi] 71)):=(Below.refl _ _).alloc (Nat.le_refl _) _;have hR:=Row.new w [.int .i64 lo,.int .i64 hi] 71;have hs1:w.heap.size < (w.alloc (.cells #[.int .i64 lo,.int .i64 hi] 71)).heap.size:=by simp
 obtain ⟨V0,hV0⟩:∃ V0,w.alloc (.cells #[.int .i64 lo,.int .i64 hi] 71)=V0:=⟨_,rfl⟩
 replace hR:Row V0 w.heap.size [.int .i64 lo,.int .i64 hi]:=hV0▸hR;rw[hV0] at hal hs1 ⊢;clear hV0;refine wp_region_still_tail 9 (by kernel_rfl) (by kernel_rfl) ?_;change wpStill _ _ V0.drew (fun a'=>wpList _ _ _ _ a' V0.drew) _ _;replace hal:=hal.drew;replace hR:Row V0.drew w.heap.size [.int .i64 lo,.int .i64 hi]:=hR.step rfl;replace hs1:w.heap.size < V0.drew.heap.size:=hs1
 obtain ⟨V,hV⟩:∃ V,V0.drew=V:=⟨_,rfl⟩
 rw[hV] at hal hR hs1 ⊢;clear hV;have d0:V.cell? ⟨b,0,none⟩=some (.string p.s):=(hal.cell (p:=⟨b,0,none⟩) hb).trans h0;have d1:=hR.at 0 _ rfl;have d2:=hR.at 1 _ rfl;simp only[List.take_succ_cons,List.take_zero,List.drop_succ_cons,List.drop_zero]
 repeat still_step
 refine wpStill_nil ?_;have HB1:=Aside0.mk hal;have HR1:=Aside0.mk hR;clear hal hR d0 d1 d2 h0;go_wp2_with fail
 refine (cl V).mono ?_;rintro e w2 ⟨rfl,hb2⟩;have HB2:=Aside0.mk (below_step HB1.out hb2);have HR2:=Aside0.mk (HR1.out.below hb2 hs1);have hs2:=Nat.lt_of_lt_of_le hs1 hb2.size;have HP2:=Aside0.mk (HP.out.below HB2.out);have HS2:=Aside0.mk (HS.out.below (HB0.out.trans (HB2.out.mono HB0.out.size)));have d1:=HR2.out.at 0 _ rfl;have d2:=HR2.out.at 1 _ rfl;have hI:=Aside0.mk (HP.out.new_ne (Nat.le_refl _));clear hb2 cl;go_wp2_with fail
 go_ret;exact ⟨rfl,HB2.out⟩
end
end Go.Proofs.YtjlaamcklhdhaaaGreatDoor.Path
set_option linter.unusedSimpArgs false
set_option linter.unusedVariables false
namespace Go.Proofs.YtjlaamcklhdhaaaGreatDoor.Path
open Go.RowKit Go.WideMaps Go.Proofs.YtjlaamcklhdhaaaGreatDoorW.PrintWords Go.Proofs.YtjlaamcklhdhaaaGreatDoorW.PrintLast Go.Proofs.YtjlaamcklhdhaaaGreatDoor.Base
section
variable {w0 w:World} {b:Nat} {p:PathV} {vk vu vl u:Value} {pb mb sb fb:Nat} {st:SiteV} {sl sd sf sc:Value}
set_option maxRecDepth 100000 in
set_option maxHeartbeats 4000000 in
theorem apply_layout (S:ParserAt w0 pb st sl sd sf sc mb sb fb) (OS:SiteOk st) (hB:Below w0.heap.size w0 w) (H:PathAt w w0.heap.size b p vk vu vl u) (osz:p.s.size≤1000000) (okl:p.known.length≤1000000) (oll:p.plangs.length≤1000000) (comp:ByteArray) (lo hi:Nat) (q1:lo≤hi) (q2:hi≤p.s.size) (hasc:asc (p.s.extract lo hi)) (hc:(comp.toList==[108,97,121,111,117,116,115])=true) :
 Calls Tryz.prog 129 #[.pointer (some ⟨pb,0,none⟩),.string comp,.string ⟨#[108,97,121,111,117,116,95]⟩,.pointer (some ⟨b,0,none⟩),.agg #[.int .i64 lo,.int .i64 hi]] w fun e w' =>
  e = .returned (.bool true)∧∃ vk' vl',PathAt w' w0.heap.size b { p with known:=p.known++[((lo:Int),(hi:Int))],play:=p.known.length } vk' vu vl' u∧Moved w w' b vk vu vl vk' vu vl':=by
 have HP:=Aside0.mk H;have hb:=H.lt;have HS:=Aside0.mk S;have HB0:=Aside0.mk hB;have hsz:(p.s.extract lo hi).size≤1000000:=Nat.le_trans (extract_le _ _ _) osz;have cl:=fun W=>Tryz.strings_ToLower_ascii (p.s.extract lo hi) W (by omega) hasc
 obtain ⟨x,hx⟩:∃ x,lowS (p.s.extract lo hi)=x:=⟨_,rfl⟩
 rw[show (⟨(Lib.toLowerA (p.s.extract lo hi).data.toList).toArray⟩:ByteArray)=x from hx] at cl;have hxz:x.size≤1000000:=by rw[← hx,lowS_size];exact hsz
 have HX:=Aside0.mk hx;have h0:=H.row.at 0 _ rfl;have mne:=map_ne mb;clear H S hB hasc hx;go_enter Tryz.func129,Tryz.ntmps129;go_upto_region 1 with fail
 have hal:Below w.heap.size w (w.alloc (.cells #[.int .i64 lo,.int .i64 hi] 71)):=(Below.refl _ _).alloc (Nat.le_refl _) _;have hR:=Row.new w [.int .i64 lo,.int .i64 hi] 71;have hs1:w.heap.size < (w.alloc (.cells #[.int .i64 lo,.int .i64 hi] 71)).heap.size:=by simp
 obtain ⟨V0,hV0⟩:∃ V0,w.alloc (.cells #[.int .i64 lo,.int .i64 hi] 71)=V0:=⟨_,rfl⟩
 replace hR:Row V0 w.heap.size [.int .i64 lo,.int .i64 hi]:=hV0▸hR;rw[hV0] at hal hs1 ⊢;clear hV0;refine wp_region_still_tail 9 (by kernel_rfl) (by kernel_rfl) ?_;change wpStill _ _ V0.drew (fun a'=>wpList _ _ _ _ a' V0.drew) _ _;replace hal:=hal.drew;replace hR:Row V0.drew w.heap.size [.int .i64 lo,.int .i64 hi]:=hR.step rfl;replace hs1:w.heap.size < V0.drew.heap.size:=hs1
 obtain ⟨V,hV⟩:∃ V,V0.drew=V:=⟨_,rfl⟩
 rw[hV] at hal hR hs1 ⊢;clear hV;have d0:V.cell? ⟨b,0,none⟩=some (.string p.s):=(hal.cell (p:=⟨b,0,none⟩) hb).trans h0;have d1:=hR.at 0 _ rfl;have d2:=hR.at 1 _ rfl;simp only[List.take_succ_cons,List.take_zero,List.drop_succ_cons,List.drop_zero]
 repeat still_step
 refine wpStill_nil ?_;have HB1:=Aside0.mk hal;have HR1:=Aside0.mk hR;clear hal hR d0 d1 d2 h0;go_wp2_with fail
 refine (cl V).mono ?_;rintro e w2 ⟨rfl,hb2⟩;have HB2:=Aside0.mk (below_step HB1.out hb2);have HR2:=Aside0.mk (HR1.out.below hb2 hs1);have hs2:=Nat.lt_of_lt_of_le hs1 hb2.size;have HP2:=Aside0.mk (HP.out.below HB2.out);have HS2:=Aside0.mk (HS.out.below (HB0.out.trans (HB2.out.mono HB0.out.size)));have d1:=HR2.out.at 0 _ rfl;have d2:=HR2.out.at 1 _ rfl;have hI:=Aside0.mk (HP.out.new_ne (Nat.le_refl _));clear hb2 cl;go_upto_region 29 with fail
 have qa_0:=HP2.out.row.at 6 _ rfl;have qa_f:=HP2.out.row.free 6 (by simp[cells]);have qa_b:=HP2.out.lt;have qa_B:w0.heap.size≤w2.heap.size:=Nat.le_trans HP2.out.base (Nat.le_of_lt qa_b);have qa_n:=Aside0.mk HP2.out.nk;have qa_o:=Aside0.mk HP2.out.ok;refine start_ (n:=11) (S:=fun w'=>w'.cell? ⟨b,6,none⟩=some vk∧w'.cell? ⟨w.heap.size,0,none⟩=some (.int .i64 lo)∧w'.cell? ⟨w.heap.size,1,none⟩=some (.int .i64 hi)) (ds:=[10]) #[false,false,false,false,false,false,false,false,false,false,false] (by kernel_rfl) rfl rfl ⟨qa_0,d1,d2⟩ (fun hHeld=>?_);refine pure_ (i:=0) (N:=some 174) (v:=?_) (a':=?_) #[true,false,false,false,false,false,false,false,false,false,false] rfl rfl (by kernel_rfl) (fun _ _ _ h=>h) (Or.inl ⟨by rfl,?_⟩) ?_ ?_;rotate_left
 ·intro w';go_simp
  with_reducible rfl
 rotate_left
 ·simp only[Act.put,List.setIfInBounds_toArray,List.set_cons_zero,List.set_cons_succ,i64_w,i32_w];rfl
 refine pure_ (i:=1) (N:=some 175) (v:=?_) (a':=?_) #[true,true,false,false,false,false,false,false,false,false,false] rfl rfl (by kernel_rfl) (fun _ _ _ h=>h) (Or.inl ⟨by rfl,?_⟩) ?_ ?_;rotate_left
 ·intro w';go_simp
  with_reducible rfl
 rotate_left
 ·simp only[Act.put,List.setIfInBounds_toArray,List.set_cons_zero,List.set_cons_succ,i64_w,i32_w];rfl
 refine pure_ (i:=2) (N:=some 176) (v:=?_) (a':=?_) #[true,true,true,false,false,false,false,false,false,false,false] rfl rfl (by kernel_rfl) (fun _ _ _ h=>h) (Or.inl ⟨by rfl,?_⟩) ?_ ?_;rotate_left
 ·intro w';go_simp
  with_reducible rfl
 rotate_left
 ·simp only[Act.put,List.setIfInBounds_toArray,List.set_cons_zero,List.set_cons_succ,i64_w,i32_w];rfl
 refine pure_ (i:=3) (N:=some 177) (v:=?_) (a':=?_) #[true,true,true,true,false,false,false,false,false,false,false] rfl rfl (by kernel_rfl) (fun _ _ _ h=>h) (Or.inl ⟨by rfl,?_⟩) ?_ ?_;rotate_left
 ·intro w';go_simp
  with_reducible rfl
 rotate_left
 ·simp only[Act.put,List.setIfInBounds_toArray,List.set_cons_zero,List.set_cons_succ,i64_w,i32_w];rfl
 refine take_ (i:=4) (N:=some 178) (v:=?_) (a':=?_) #[true,true,true,true,true,false,false,false,false,false,false] rfl rfl (by kernel_rfl) (fun _ _ _ h=>h) (Or.inl ⟨by rfl,?_⟩) hHeld ?_ ?_;rotate_left
 ·rintro w' ⟨s0,s1,s2⟩;go_simp
  with_reducible rfl
 rotate_left
 ·simp only[Act.put,List.setIfInBounds_toArray,List.set_cons_zero,List.set_cons_succ,i64_w,i32_w];rfl
 refine take_ (i:=5) (N:=some 179) (v:=?_) (a':=?_) #[true,true,true,true,true,true,false,false,false,false,false] rfl rfl (by kernel_rfl) (fun _ _ _ h=>h) (Or.inl ⟨by rfl,?_⟩) hHeld ?_ ?_;rotate_left
 ·rintro w' ⟨s0,s1,s2⟩;go_simp
  with_reducible rfl
 rotate_left
 ·simp only[Act.put,List.setIfInBounds_toArray,List.set_cons_zero,List.set_cons_succ,i64_w,i32_w];rfl
 refine one_ (i:=6) (N:=some 180) #[true,true,true,true,true,true,true,false,false,false,false] rfl rfl (by kernel_rfl) (by decide) (fun K hK=>?_);refine value_ (w1:=?_) (v:=?_) (by rfl) rfl ?_ ?_;rotate_left 2
 ·go_simp;constructor
  ·rfl
  ·rfl
 have aa_h:Below w2.heap.size w2 (w2.drew.alloc (.cells ([.int .i64 lo,.int .i64 hi]:List Value).toArray 71)):=(Below.refl _ _).drew.alloc (Nat.le_refl _) _;refine hK.out _ _ ⟨((aa_h.cell (p:=⟨b,6,none⟩) (World.block_lt_of_cell? w2 ⟨b,6,none⟩ qa_0)).trans qa_0),((aa_h.cell (p:=⟨w.heap.size,0,none⟩) (World.block_lt_of_cell? w2 ⟨w.heap.size,0,none⟩ d1)).trans d1),((aa_h.cell (p:=⟨w.heap.size,1,none⟩) (World.block_lt_of_cell? w2 ⟨w.heap.size,1,none⟩ d2)).trans d2)⟩ (fun hHeld=>?_);clear hK K;refine norm_ (a':=?_) ?_ ?_;rotate_left
 ·show Act.put _ (some 180) _=_;simp only[Act.put,List.setIfInBounds_toArray,List.set_cons_zero,List.set_cons_succ,i64_w,i32_w];rfl
 refine one_ (i:=7) (N:=some 181) #[true,true,true,true,true,true,true,true,false,false,false] rfl rfl (by kernel_rfl) (by decide) (fun K hK=>?_);refine step_append_cells (w0:=w2) (W:=w2.drew) w0.heap.size (by rfl) (.tmp 178) (.tmp 180) 69 71 _ 2 16 (by rfl) Tryz.underlying69 info81 rfl (by decide) (by decide) vk p.known.length (pairs p.known) [.int .i64 lo,.int .i64 hi] (by rfl) (by rfl) (by rfl) (by simp[Value.oneCell']) qa_o.out ((Below.refl _ _).drew) qa_B (by omega) ?_;intro va war oa bba ga ta;obtain ⟨Aa,ca,eva⟩:=own_slice oa;subst eva;have xa_0:=ga.cell (w:=w2.drew) (a:=⟨b,6,none⟩) qa_0 qa_n.out;have xa_f:=(World.frozen?_of_block (w:=w2.drew) (a:=⟨b,6,none⟩) (ga.block b qa_b qa_n.out)).trans qa_f;have xa_1:=ga.cell (w:=w2.drew) (a:=⟨w.heap.size,0,none⟩) d1 hI.out.2.1
 have xa_2:=ga.cell (w:=w2.drew) (a:=⟨w.heap.size,1,none⟩) d2 hI.out.2.1
 have gga:w2.grownBy war vk.ownBlock:=⟨ga.os,ga.tape,ga.output,ga.size,ga.block⟩
 obtain ⟨hpa,hma⟩:=known_step HP2.out (lo,hi) (w':=war) oa gga ta;have HPa:=Aside0.mk hpa;have HMa:=Aside0.mk hma;clear hpa hma oa bba ga gga ta;refine hK.out _ _ ⟨xa_0,xa_1,xa_2⟩ (fun hHeld=>?_);clear hK K;refine norm_ (a':=?_) ?_ ?_;rotate_left
 ·show Act.put _ (some 181) _=_;simp only[Act.put,List.setIfInBounds_toArray,List.set_cons_zero,List.set_cons_succ,i64_w,i32_w];rfl
 refine pure_ (i:=8) (N:=some 182) (v:=?_) (a':=?_) #[true,true,true,true,true,true,true,true,true,false,false] rfl rfl (by kernel_rfl) (fun _ _ _ h=>h) (Or.inl ⟨by rfl,?_⟩) ?_ ?_;rotate_left
 ·intro w';go_simp
  with_reducible rfl
 rotate_left
 ·simp only[Act.put,List.setIfInBounds_toArray,List.set_cons_zero,List.set_cons_succ,i64_w,i32_w];rfl
 refine pure_ (i:=9) (N:=some 183) (v:=?_) (a':=?_) #[true,true,true,true,true,true,true,true,true,true,false] rfl rfl (by kernel_rfl) (fun _ _ _ h=>h) (Or.inl ⟨by rfl,?_⟩) ?_ ?_;rotate_left
 ·intro w';go_simp
  with_reducible rfl
 rotate_left
 ·simp only[Act.put,List.setIfInBounds_toArray,List.set_cons_zero,List.set_cons_succ,i64_w,i32_w];rfl
 refine last_ (i:=10) (N:=none) #[true,true,true,true,true,true,true,true,true,true,true] rfl rfl (by kernel_rfl) (by decide) (fun K hK=>?_);refine skip_ (w1:=?_) (by rfl) rfl ?_ ?_;rotate_left
 ·go_simp;rfl
 refine hK.out _ _ ?_;clear hK K;refine done_ (by kernel_rfl) ?_;clear d1 d2 xa_0 xa_f xa_1 xa_2 qa_0 qa_f qa_b qa_B qa_n qa_o aa_h
 obtain ⟨Wa,hWa⟩:∃ W,war.setCell ⟨b,6,none⟩ (.slice Aa (p.known.length+1) ca)=W:=⟨_,rfl⟩
 replace HPa:Aside0 (PathAt Wa w0.heap.size b { p with known:=p.known++[((lo:Int),(hi:Int))] } (.slice Aa (p.known.length+1) ca) vu vl u):=hWa▸HPa;replace HMa:Aside0 (Moved w2 Wa b vk vu vl (.slice Aa (p.known.length+1) ca) vu vl):=hWa▸HMa;rw[hWa];clear hWa;have z4:IntKind.i64.wrap (p.known.length:Int)=(p.known.length:Int):=by rw[IntWalk.i64_in _ (by omega)]
 have k6:=HPa.out.row.at 6 _ rfl;have k7:=HPa.out.row.at 19 _ rfl;have k8:=HPa.out.row.free 19 (by simp[cells]);go_wp2_with fail
 obtain ⟨hpc,hmc⟩:=put_step HPa.out 19 (.int .i64 p.known.length) { p with known:=p.known++[((lo:Int),(hi:Int))],play:=p.known.length } u rfl rfl rfl rfl (by omega);go_ret;exact ⟨rfl,_,_,hpc,((Moved.of_below HB2.out).trans HMa.out).trans hmc⟩
set_option maxRecDepth 100000 in
set_option maxHeartbeats 4000000 in
theorem apply_layout_comp (S:ParserAt w0 pb st sl sd sf sc mb sb fb) (OS:SiteOk st) (hB:Below w0.heap.size w0 w) (H:PathAt w w0.heap.size b p vk vu vl u) (osz:p.s.size≤1000000) (okl:p.known.length≤1000000) (oll:p.plangs.length≤1000000) (comp:ByteArray) (lo hi:Nat) (q1:lo≤hi) (q2:hi≤p.s.size) (hasc:asc (p.s.extract lo hi)) (hc:(comp.toList==[108,97,121,111,117,116,115])=false) :
 Calls Tryz.prog 129 #[.pointer (some ⟨pb,0,none⟩),.string comp,.string ⟨#[108,97,121,111,117,116,95]⟩,.pointer (some ⟨b,0,none⟩),.agg #[.int .i64 lo,.int .i64 hi]] w fun e w' =>
  e = .returned (.bool false)∧Below w.heap.size w w':=by
 have HP:=Aside0.mk H;have hb:=H.lt;have HS:=Aside0.mk S;have HB0:=Aside0.mk hB;have hsz:(p.s.extract lo hi).size≤1000000:=Nat.le_trans (extract_le _ _ _) osz;have cl:=fun W=>Tryz.strings_ToLower_ascii (p.s.extract lo hi) W (by omega) hasc
 obtain ⟨x,hx⟩:∃ x,lowS (p.s.extract lo hi)=x:=⟨_,rfl⟩
 rw[show (⟨(Lib.toLowerA (p.s.extract lo hi).data.toList).toArray⟩:ByteArray)=x from hx] at cl;have hxz:x.size≤1000000:=by rw[← hx,lowS_size];exact hsz
 have HX:=Aside0.mk hx;have h0:=H.row.at 0 _ rfl;have mne:=map_ne mb;clear H S hB hasc hx;go_enter Tryz.func129,Tryz.ntmps129;go_upto_region 1 with fail
 have hal:Below w.heap.size w (w.alloc (.cells #[.int .i64 lo,.int .i64 hi] 71)):=(Below.refl _ _).alloc (Nat.le_refl _) _;have hR:=Row.new w [.int .i64 lo,.int .i64 hi] 71;have hs1:w.heap.size < (w.alloc (.cells #[.int .i64 lo,.int .i64 hi] 71)).heap.size:=by simp
 obtain ⟨V0,hV0⟩:∃ V0,w.alloc (.cells #[.int .i64 lo,.int .i64 hi] 71)=V0:=⟨_,rfl⟩
 replace hR:Row V0 w.heap.size [.int .i64 lo,.int .i64 hi]:=hV0▸hR;rw[hV0] at hal hs1 ⊢;clear hV0;refine wp_region_still_tail 9 (by kernel_rfl) (by kernel_rfl) ?_;change wpStill _ _ V0.drew (fun a'=>wpList _ _ _ _ a' V0.drew) _ _;replace hal:=hal.drew;replace hR:Row V0.drew w.heap.size [.int .i64 lo,.int .i64 hi]:=hR.step rfl;replace hs1:w.heap.size < V0.drew.heap.size:=hs1
 obtain ⟨V,hV⟩:∃ V,V0.drew=V:=⟨_,rfl⟩
 rw[hV] at hal hR hs1 ⊢;clear hV;have d0:V.cell? ⟨b,0,none⟩=some (.string p.s):=(hal.cell (p:=⟨b,0,none⟩) hb).trans h0;have d1:=hR.at 0 _ rfl;have d2:=hR.at 1 _ rfl;simp only[List.take_succ_cons,List.take_zero,List.drop_succ_cons,List.drop_zero]
 repeat still_step
 refine wpStill_nil ?_;have HB1:=Aside0.mk hal;have HR1:=Aside0.mk hR;clear hal hR d0 d1 d2 h0;go_wp2_with fail
 refine (cl V).mono ?_;rintro e w2 ⟨rfl,hb2⟩;have HB2:=Aside0.mk (below_step HB1.out hb2);have HR2:=Aside0.mk (HR1.out.below hb2 hs1);have hs2:=Nat.lt_of_lt_of_le hs1 hb2.size;have HP2:=Aside0.mk (HP.out.below HB2.out);have HS2:=Aside0.mk (HS.out.below (HB0.out.trans (HB2.out.mono HB0.out.size)));have d1:=HR2.out.at 0 _ rfl;have d2:=HR2.out.at 1 _ rfl;have hI:=Aside0.mk (HP.out.new_ne (Nat.le_refl _));clear hb2 cl;go_wp2_with fail
 go_ret;exact ⟨rfl,HB2.out⟩
set_option maxRecDepth 100000 in
set_option maxHeartbeats 4000000 in
theorem apply_version (S:ParserAt w0 pb st sl sd sf sc mb sb fb) (OS:SiteOk st) (hB:Below w0.heap.size w0 w) (H:PathAt w w0.heap.size b p vk vu vl u) (osz:p.s.size≤1000000) (okl:p.known.length≤1000000) (oll:p.plangs.length≤1000000) (comp:ByteArray) (lo hi:Nat) (q1:lo≤hi) (q2:hi≤p.s.size) (hasc:asc (p.s.extract lo hi))  :
 Calls Tryz.prog 129 #[.pointer (some ⟨pb,0,none⟩),.string comp,.string ⟨#[118,101,114,115,105,111,110,95]⟩,.pointer (some ⟨b,0,none⟩),.agg #[.int .i64 lo,.int .i64 hi]] w fun e w' =>
  e = .returned (.bool false)∧Below w.heap.size w w':=by
 have HP:=Aside0.mk H;have hb:=H.lt;have HS:=Aside0.mk S;have HB0:=Aside0.mk hB;have hsz:(p.s.extract lo hi).size≤1000000:=Nat.le_trans (extract_le _ _ _) osz;have cl:=fun W=>Tryz.strings_ToLower_ascii (p.s.extract lo hi) W (by omega) hasc
 obtain ⟨x,hx⟩:∃ x,lowS (p.s.extract lo hi)=x:=⟨_,rfl⟩
 rw[show (⟨(Lib.toLowerA (p.s.extract lo hi).data.toList).toArray⟩:ByteArray)=x from hx] at cl;have hxz:x.size≤1000000:=by rw[← hx,lowS_size];exact hsz
 have HX:=Aside0.mk hx;have h0:=H.row.at 0 _ rfl;have mne:=map_ne mb;clear H S hB hasc hx;go_enter Tryz.func129,Tryz.ntmps129;go_upto_region 1 with fail
 have hal:Below w.heap.size w (w.alloc (.cells #[.int .i64 lo,.int .i64 hi] 71)):=(Below.refl _ _).alloc (Nat.le_refl _) _;have hR:=Row.new w [.int .i64 lo,.int .i64 hi] 71;have hs1:w.heap.size < (w.alloc (.cells #[.int .i64 lo,.int .i64 hi] 71)).heap.size:=by simp
 obtain ⟨V0,hV0⟩:∃ V0,w.alloc (.cells #[.int .i64 lo,.int .i64 hi] 71)=V0:=⟨_,rfl⟩
 replace hR:Row V0 w.heap.size [.int .i64 lo,.int .i64 hi]:=hV0▸hR;rw[hV0] at hal hs1 ⊢;clear hV0;refine wp_region_still_tail 9 (by kernel_rfl) (by kernel_rfl) ?_;change wpStill _ _ V0.drew (fun a'=>wpList _ _ _ _ a' V0.drew) _ _;replace hal:=hal.drew;replace hR:Row V0.drew w.heap.size [.int .i64 lo,.int .i64 hi]:=hR.step rfl;replace hs1:w.heap.size < V0.drew.heap.size:=hs1
 obtain ⟨V,hV⟩:∃ V,V0.drew=V:=⟨_,rfl⟩
 rw[hV] at hal hR hs1 ⊢;clear hV;have d0:V.cell? ⟨b,0,none⟩=some (.string p.s):=(hal.cell (p:=⟨b,0,none⟩) hb).trans h0;have d1:=hR.at 0 _ rfl;have d2:=hR.at 1 _ rfl;simp only[List.take_succ_cons,List.take_zero,List.drop_succ_cons,List.drop_zero]
 repeat still_step
 refine wpStill_nil ?_;have HB1:=Aside0.mk hal;have HR1:=Aside0.mk hR;clear hal hR d0 d1 d2 h0;go_wp2_with fail
 refine (cl V).mono ?_;rintro e w2 ⟨rfl,hb2⟩;have HB2:=Aside0.mk (below_step HB1.out hb2);have HR2:=Aside0.mk (HR1.out.below hb2 hs1);have hs2:=Nat.lt_of_lt_of_le hs1 hb2.size;have HP2:=Aside0.mk (HP.out.below HB2.out);have HS2:=Aside0.mk (HS.out.below (HB0.out.trans (HB2.out.mono HB0.out.size)));have d1:=HR2.out.at 0 _ rfl;have d2:=HR2.out.at 1 _ rfl;have hI:=Aside0.mk (HP.out.new_ne (Nat.le_refl _));clear hb2 cl;go_wp2_with fail
 go_ret;exact ⟨rfl,HB2.out⟩
set_option maxRecDepth 100000 in
set_option maxHeartbeats 4000000 in
theorem apply_role (S:ParserAt w0 pb st sl sd sf sc mb sb fb) (OS:SiteOk st) (hB:Below w0.heap.size w0 w) (H:PathAt w w0.heap.size b p vk vu vl u) (osz:p.s.size≤1000000) (okl:p.known.length≤1000000) (oll:p.plangs.length≤1000000) (comp:ByteArray) (lo hi:Nat) (q1:lo≤hi) (q2:hi≤p.s.size) (hasc:asc (p.s.extract lo hi))  :
 Calls Tryz.prog 129 #[.pointer (some ⟨pb,0,none⟩),.string comp,.string ⟨#[114,111,108,101,95]⟩,.pointer (some ⟨b,0,none⟩),.agg #[.int .i64 lo,.int .i64 hi]] w fun e w' =>
  e = .returned (.bool false)∧Below w.heap.size w w':=by
 have HP:=Aside0.mk H;have hb:=H.lt;have HS:=Aside0.mk S;have HB0:=Aside0.mk hB;have hsz:(p.s.extract lo hi).size≤1000000:=Nat.le_trans (extract_le _ _ _) osz;have cl:=fun W=>Tryz.strings_ToLower_ascii (p.s.extract lo hi) W (by omega) hasc
 obtain ⟨x,hx⟩:∃ x,lowS (p.s.extract lo hi)=x:=⟨_,rfl⟩
 rw[show (⟨(Lib.toLowerA (p.s.extract lo hi).data.toList).toArray⟩:ByteArray)=x from hx] at cl;have hxz:x.size≤1000000:=by rw[← hx,lowS_size];exact hsz
 have HX:=Aside0.mk hx;have h0:=H.row.at 0 _ rfl;have mne:=map_ne mb;clear H S hB hasc hx;go_enter Tryz.func129,Tryz.ntmps129;go_upto_region 1 with fail
 have hal:Below w.heap.size w (w.alloc (.cells #[.int .i64 lo,.int .i64 hi] 71)):=(Below.refl _ _).alloc (Nat.le_refl _) _;have hR:=Row.new w [.int .i64 lo,.int .i64 hi] 71;have hs1:w.heap.size < (w.alloc (.cells #[.int .i64 lo,.int .i64 hi] 71)).heap.size:=by simp
 obtain ⟨V0,hV0⟩:∃ V0,w.alloc (.cells #[.int .i64 lo,.int .i64 hi] 71)=V0:=⟨_,rfl⟩
 replace hR:Row V0 w.heap.size [.int .i64 lo,.int .i64 hi]:=hV0▸hR;rw[hV0] at hal hs1 ⊢;clear hV0;refine wp_region_still_tail 9 (by kernel_rfl) (by kernel_rfl) ?_;change wpStill _ _ V0.drew (fun a'=>wpList _ _ _ _ a' V0.drew) _ _;replace hal:=hal.drew;replace hR:Row V0.drew w.heap.size [.int .i64 lo,.int .i64 hi]:=hR.step rfl;replace hs1:w.heap.size < V0.drew.heap.size:=hs1
 obtain ⟨V,hV⟩:∃ V,V0.drew=V:=⟨_,rfl⟩
 rw[hV] at hal hR hs1 ⊢;clear hV;have d0:V.cell? ⟨b,0,none⟩=some (.string p.s):=(hal.cell (p:=⟨b,0,none⟩) hb).trans h0;have d1:=hR.at 0 _ rfl;have d2:=hR.at 1 _ rfl;simp only[List.take_succ_cons,List.take_zero,List.drop_succ_cons,List.drop_zero]
 repeat still_step
 refine wpStill_nil ?_;have HB1:=Aside0.mk hal;have HR1:=Aside0.mk hR;clear hal hR d0 d1 d2 h0;go_wp2_with fail
 refine (cl V).mono ?_;rintro e w2 ⟨rfl,hb2⟩;have HB2:=Aside0.mk (below_step HB1.out hb2);have HR2:=Aside0.mk (HR1.out.below hb2 hs1);have hs2:=Nat.lt_of_lt_of_le hs1 hb2.size;have HP2:=Aside0.mk (HP.out.below HB2.out);have HS2:=Aside0.mk (HS.out.below (HB0.out.trans (HB2.out.mono HB0.out.size)));have d1:=HR2.out.at 0 _ rfl;have d2:=HR2.out.at 1 _ rfl;have hI:=Aside0.mk (HP.out.new_ne (Nat.le_refl _));clear hb2 cl;go_wp2_with fail
 go_ret;exact ⟨rfl,HB2.out⟩
end
end Go.Proofs.YtjlaamcklhdhaaaGreatDoor.Path
namespace Go.Proofs.YtjlaamcklhdhaaaGreatDoor.Path
open Go.RowKit Go.WideMaps Go.Proofs.YtjlaamcklhdhaaaGreatDoorW.PrintWords Go.Proofs.YtjlaamcklhdhaaaGreatDoor.Base
structure Env where
 lang:ByteArray→Bool
 dis:ByteArray→Bool
 fmt:ByteArray→ByteArray→Bool
 cont:ByteArray→Bool
def envOf (st:SiteV):Env:=⟨listed st.langs,listed st.dis,fmtAsk st.fmts,listed st.cont⟩
def isLay (comp:ByteArray):Bool:=comp.toList==[108,97,121,111,117,116,115]
def isKind (s:ByteArray):Bool:=isKindL (Lib.toLowerA (L s))
def prefLang:ByteArray:=⟨#[108,97,110,103,117,97,103,101,95]⟩
def prefVersion:ByteArray:=⟨#[118,101,114,115,105,111,110,95]⟩
def prefRole:ByteArray:=⟨#[114,111,108,101,95]⟩
def prefFmt:ByteArray:=⟨#[111,117,116,112,117,116,102,111,114,109,97,116,95]⟩
def prefKind:ByteArray:=⟨#[107,105,110,100,95]⟩
def prefLayout:ByteArray:=⟨#[108,97,121,111,117,116,95]⟩
def mApply (E:Env) (lay:Bool) (p:PathV) (pre:ByteArray) (x:Int×Int) (v:ByteArray):Option PathV :=
 if pre=prefLang then
  if E.lang v then some { p with known:=p.known++[x],plangs:=p.plangs++[(p.known.length:Int)] }
  else if E.dis v then some { p with known:=p.known++[x],plangs:=p.plangs++[(p.known.length:Int)],dis:=true } else none
 else if pre=prefFmt then if lay && E.fmt v ⟨#[]⟩ then some { p with known:=p.known++[x],pfmt:=p.known.length } else none
 else if pre=prefKind then if lay && isKind v then some { p with known:=p.known++[x],pkind:=p.known.length } else none
 else if pre=prefLayout then if lay then some { p with known:=p.known++[x],play:=p.known.length } else none
 else none
theorem prefOf_cases (s:ByteArray):prefOf s=⟨#[]⟩∨prefOf s=prefLang∨prefOf s=prefVersion∨prefOf s=prefRole∨prefOf s=prefFmt∨prefOf s=prefKind∨prefOf s=prefLayout:=by
 unfold prefOf prefs;simp only[prefIn]
 repeat' split
 all_goals simp[prefLang,prefVersion,prefRole,prefFmt,prefKind,prefLayout]
section
variable {w0 w:World} {b:Nat} {p:PathV} {vk vu vl u:Value} {pb mb sb fb:Nat} {st:SiteV} {sl sd sf sc:Value}
theorem apply_calls (S:ParserAt w0 pb st sl sd sf sc mb sb fb) (OS:SiteOk st) (hB:Below w0.heap.size w0 w) (H:PathAt w w0.heap.size b p vk vu vl u) (osz:p.s.size≤1000000) (okl:p.known.length≤1000000) (oll:p.plangs.length≤1000000) (comp:ByteArray) (lo hi:Nat) (q1:lo≤hi) (q2:hi≤p.s.size) (hasc:asc (p.s.extract lo hi))
 (pre:ByteArray) (hpre:pre=prefLang∨pre=prefVersion∨pre=prefRole∨pre=prefFmt∨pre=prefKind∨pre=prefLayout) :
 Calls Tryz.prog 129 #[.pointer (some ⟨pb,0,none⟩),.string comp,.string pre,.pointer (some ⟨b,0,none⟩),.agg #[.int .i64 lo,.int .i64 hi]] w fun e w' =>
  match mApply (envOf st) (isLay comp) p pre ((lo:Int),(hi:Int)) (lowS (p.s.extract lo hi)) with
  | some p'=>e = .returned (.bool true)∧∃ vk' vl',PathAt w' w0.heap.size b p' vk' vu vl' u∧Moved w w' b vk vu vl vk' vu vl'
  | none=>e = .returned (.bool false)∧Below w.heap.size w w':=by
 rcases hpre with rfl | rfl | rfl | rfl | rfl | rfl
 ·rw[mApply,if_pos rfl]
  cases h1:(envOf st).lang (lowS (p.s.extract lo hi)) with
  | true=>exact apply_lang_has S OS hB H osz okl oll comp lo hi q1 q2 hasc h1
  | false =>
   cases h2:(envOf st).dis (lowS (p.s.extract lo hi)) with
   | true=>exact apply_lang_dis S OS hB H osz okl oll comp lo hi q1 q2 hasc h1 h2
   | false=>exact apply_lang_no S OS hB H osz okl oll comp lo hi q1 q2 hasc h1 h2
 ·exact apply_version S OS hB H osz okl oll comp lo hi q1 q2 hasc
 ·exact apply_role S OS hB H osz okl oll comp lo hi q1 q2 hasc
 ·rw[mApply,if_neg (by decide),if_pos rfl]
  cases h0:isLay comp with
  | false=>exact apply_fmt_comp S OS hB H osz okl oll comp lo hi q1 q2 hasc h0
  | true =>
   cases h1:(envOf st).fmt (lowS (p.s.extract lo hi)) ⟨#[]⟩ with
   | true=>exact apply_fmt S OS hB H osz okl oll comp lo hi q1 q2 hasc h0 h1
   | false=>exact apply_fmt_no S OS hB H osz okl oll comp lo hi q1 q2 hasc h0 h1
 ·rw[mApply,if_neg (by decide),if_neg (by decide),if_pos rfl]
  cases h0:isLay comp with
  | false=>exact apply_kind_comp S OS hB H osz okl oll comp lo hi q1 q2 hasc h0
  | true =>
   cases h1:isKind (lowS (p.s.extract lo hi)) with
   | true=>exact apply_kind S OS hB H osz okl oll comp lo hi q1 q2 hasc h0 h1
   | false=>exact apply_kind_no S OS hB H osz okl oll comp lo hi q1 q2 hasc h0 h1
 ·rw[mApply,if_neg (by decide),if_neg (by decide),if_neg (by decide),if_pos rfl]
  cases h0:isLay comp with
  | false=>exact apply_layout_comp S OS hB H osz okl oll comp lo hi q1 q2 hasc h0
  | true=>exact apply_layout S OS hB H osz okl oll comp lo hi q1 q2 hasc h0
end
end Go.Proofs.YtjlaamcklhdhaaaGreatDoor.Path
