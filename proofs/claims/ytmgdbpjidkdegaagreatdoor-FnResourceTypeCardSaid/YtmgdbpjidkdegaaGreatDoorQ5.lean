/- Texts that the law leans on: Apply2, Apply3, Apply, Acc3. Condition: as told at each. -/
import Derived.StillTailTactics
import Derived.Test.YtmgdbpjidkdegaaGreatDoorQa
import Derived.Test.YtmgdbpjidkdegaaGreatDoorQ4
set_option linter.unusedVariables false
set_option linter.unusedSimpArgs false
set_option linter.unusedSimpArgs false
set_option linter.unusedVariables false
namespace Go.Proofs.YtmgdbpjidkdegaaGreatDoor.Path
open Go.RowKit Go.WideMaps Go.Proofs.YtmgdbpjidkdegaaGreatDoorW.PrintWords Go.Proofs.YtmgdbpjidkdegaaGreatDoorW.PrintLast Go.Proofs.YtmgdbpjidkdegaaGreatDoor.Base
section
variable {w0 w:World} {b:Nat} {p:PathV} {vk vu vl u:Value} {pb mb sb fb:Nat} {st:SiteV} {sl sd sf sc:Value}
set_option maxRecDepth 100000 in
set_option maxHeartbeats 4000000 in
theorem apply_fmt (S:ParserAt w0 pb st sl sd sf sc mb sb fb) (OS:SiteOk st) (hB:Below w0.heap.size w0 w) (H:PathAt w w0.heap.size b p vk vu vl u) (osz:p.s.size≤1000000) (okl:p.known.length≤1000000) (oll:p.plangs.length≤1000000) (comp:ByteArray) (lo hi:Nat) (q1:lo≤hi) (q2:hi≤p.s.size) (hasc:asc (p.s.extract lo hi)) (hc:(comp.toList==[108,97,121,111,117,116,115])=true) (hd:fmtAsk st.fmts (lowS (p.s.extract lo hi)) ⟨#[]⟩=true) :
 Calls Tryz.prog 174 #[.pointer (some ⟨pb,0,none⟩),.string comp,.string ⟨#[111,117,116,112,117,116,102,111,114,109,97,116,95]⟩,.pointer (some ⟨b,0,none⟩),.agg #[.int .i64 lo,.int .i64 hi]] w fun e w' =>
  e = .returned (.bool true)∧∃ vk' vl',PathAt w' w0.heap.size b { p with known:=p.known++[((lo:Int),(hi:Int))],pfmt:=p.known.length } vk' vu vl' u∧Moved w w' b vk vu vl vk' vu vl':=by
 have HP:=bR H;have hb:=H.lt;have HS:=bR S;have HB0:=bR hB;have hsz:(p.s.extract lo hi).size≤1000000:=Nat.le_trans (extract_le _ _ _) osz;have cl:=fun W=>Tryz.strings_ToLower_ascii (p.s.extract lo hi) W bA hasc
 obtain ⟨x,hx⟩:∃ x,lowS (p.s.extract lo hi)=x:=⟨_,rfl⟩
 rw[show (⟨(Lib.toLowerA (p.s.extract lo hi).data.toList).toArray⟩:ByteArray)=x from hx] at cl;have hxz:x.size≤1000000:=by rw[← hx,lowS_size];exact hsz
 have HX:=bR hx;have h0:=H.row.at 0 _ rfl;have mne:=map_ne mb;clear H S hB hasc hx;go_enter Tryz.func174,Tryz.ntmps174;go_upto_region 1 with fail
 have hal:Below w.heap.size w (w.alloc (.cells #[.int .i64 lo,.int .i64 hi] 90)):=(Below.refl _ _).alloc (Nat.le_refl _) _;have hR:=Row.new w [.int .i64 lo,.int .i64 hi] 90;have hs1:w.heap.size < (w.alloc (.cells #[.int .i64 lo,.int .i64 hi] 90)).heap.size:=by simp
 obtain ⟨V0,hV0⟩:∃ V0,w.alloc (.cells #[.int .i64 lo,.int .i64 hi] 90)=V0:=⟨_,rfl⟩
 replace hR:Row V0 w.heap.size [.int .i64 lo,.int .i64 hi]:=hV0▸hR;rw[hV0] at hal hs1 ⊢;clear hV0;refine wp_region_still_tail 9 bB bB ?_;change wpStill _ _ V0.drew (fun a'=>wpList _ _ _ _ a' V0.drew) _ _;replace hal:=hal.drew;replace hR:Row V0.drew w.heap.size [.int .i64 lo,.int .i64 hi]:=hR.step rfl;replace hs1:w.heap.size < V0.drew.heap.size:=hs1
 obtain ⟨V,hV⟩:∃ V,V0.drew=V:=⟨_,rfl⟩
 rw[hV] at hal hR hs1 ⊢;clear hV;have d0:V.cell? ⟨b,0,none⟩=some (.string p.s):=(hal.cell (p:=⟨b,0,none⟩) hb).trans h0;have d1:=hR.at 0 _ rfl;have d2:=hR.at 1 _ rfl;simp only[List.take_succ_cons,List.take_zero,List.drop_succ_cons,List.drop_zero]
 repeat still_step
 refine wpStill_nil ?_;have HB1:=bR hal;have HR1:=bR hR;clear hal hR d0 d1 d2 h0;go_wp2_with fail
 refine (cl V).mono ?_;rintro e w2 ⟨rfl,hb2⟩;have HB2:=bR (below_step HB1.out hb2);have HR2:=bR (HR1.out.below hb2 hs1);have hs2:=Nat.lt_of_lt_of_le hs1 hb2.size;have HP2:=bR (HP.out.below HB2.out);have HS2:=bR (HS.out.below (HB0.out.trans (HB2.out.mono HB0.out.size)));have d1:=HR2.out.at 0 _ rfl;have d2:=HR2.out.at 1 _ rfl;have hI:=bR (HP.out.new_ne (Nat.le_refl _));clear hb2 cl;have s2:=HS2.out.row.at 2 _ rfl;have fne:=func_ne34 (.func 107) #[] #[.pointer (some ⟨sb,0,none⟩)];have cd:=isFormat_calls HS2.out.site OS x ⟨#[]⟩;rw[HX.out] at hd;rw[hd] at cd;clear hd;go_wp2_with fail
 refine cd.mono ?_;rintro e w3 ⟨rfl,hb3⟩;clear cd;have HP3:=bR (HP2.out.below hb3);have HB3:=bR (below_step HB2.out hb3);replace d1:=(hb3.cell (p:=⟨w.heap.size,0,none⟩) hs2).trans d1;replace d2:=(hb3.cell (p:=⟨w.heap.size,1,none⟩) hs2).trans d2;clear hb3;go_upto_region 18 with fail
 have qa_0:=HP3.out.row.at 6 _ rfl;have qa_f:=HP3.out.row.free 6 bF;have qa_b:=HP3.out.lt;have qa_B:w0.heap.size≤w3.heap.size:=Nat.le_trans HP3.out.base (Nat.le_of_lt qa_b);have qa_n:=bR HP3.out.nk;have qa_o:=bR HP3.out.ok;refine start_ (n:=11) (S:=fun w'=>w'.cell? ⟨b,6,none⟩=some vk∧w'.cell? ⟨w.heap.size,0,none⟩=some (.int .i64 lo)∧w'.cell? ⟨w.heap.size,1,none⟩=some (.int .i64 hi)) (ds:=[10]) #[false,false,false,false,false,false,false,false,false,false,false] bB rfl rfl ⟨qa_0,d1,d2⟩ (fun hHeld=>?_);refine pure_ (i:=0) (N:=some 125) (v:=?_) (a':=?_) #[true,false,false,false,false,false,false,false,false,false,false] rfl rfl bB (fun _ _ _ h=>h) (Or.inl ⟨by rfl,?_⟩) ?_ ?_;rotate_left
 ·intro w';go_simp
  with_reducible rfl
 rotate_left
 ·simp only[Act.put,bS,bT,bU,i64_w,i32_w];rfl
 refine pure_ (i:=1) (N:=some 126) (v:=?_) (a':=?_) #[true,true,false,false,false,false,false,false,false,false,false] rfl rfl bB (fun _ _ _ h=>h) (Or.inl ⟨by rfl,?_⟩) ?_ ?_;rotate_left
 ·intro w';go_simp
  with_reducible rfl
 rotate_left
 ·simp only[Act.put,bS,bT,bU,i64_w,i32_w];rfl
 refine pure_ (i:=2) (N:=some 127) (v:=?_) (a':=?_) #[true,true,true,false,false,false,false,false,false,false,false] rfl rfl bB (fun _ _ _ h=>h) (Or.inl ⟨by rfl,?_⟩) ?_ ?_;rotate_left
 ·intro w';go_simp
  with_reducible rfl
 rotate_left
 ·simp only[Act.put,bS,bT,bU,i64_w,i32_w];rfl
 refine pure_ (i:=3) (N:=some 128) (v:=?_) (a':=?_) #[true,true,true,true,false,false,false,false,false,false,false] rfl rfl bB (fun _ _ _ h=>h) (Or.inl ⟨by rfl,?_⟩) ?_ ?_;rotate_left
 ·intro w';go_simp
  with_reducible rfl
 rotate_left
 ·simp only[Act.put,bS,bT,bU,i64_w,i32_w];rfl
 refine take_ (i:=4) (N:=some 129) (v:=?_) (a':=?_) #[true,true,true,true,true,false,false,false,false,false,false] rfl rfl bB (fun _ _ _ h=>h) (Or.inl ⟨by rfl,?_⟩) hHeld ?_ ?_;rotate_left
 ·rintro w' ⟨s0,s1,s2⟩;go_simp
  with_reducible rfl
 rotate_left
 ·simp only[Act.put,bS,bT,bU,i64_w,i32_w];rfl
 refine take_ (i:=5) (N:=some 130) (v:=?_) (a':=?_) #[true,true,true,true,true,true,false,false,false,false,false] rfl rfl bB (fun _ _ _ h=>h) (Or.inl ⟨by rfl,?_⟩) hHeld ?_ ?_;rotate_left
 ·rintro w' ⟨s0,s1,s2⟩;go_simp
  with_reducible rfl
 rotate_left
 ·simp only[Act.put,bS,bT,bU,i64_w,i32_w];rfl
 refine one_ (i:=6) (N:=some 131) #[true,true,true,true,true,true,true,false,false,false,false] rfl rfl bB bG (fun K hK=>?_);refine value_ (w1:=?_) (v:=?_) bH rfl ?_ ?_;rotate_left 2
 ·go_simp;constructor
  ·rfl
  ·rfl
 have aa_h:Below w3.heap.size w3 (w3.drew.alloc (.cells ([.int .i64 lo,.int .i64 hi]:List Value).toArray 90)):=(Below.refl _ _).drew.alloc (Nat.le_refl _) _;refine hK.out _ _ ⟨((aa_h.cell (p:=⟨b,6,none⟩) (World.block_lt_of_cell? w3 ⟨b,6,none⟩ qa_0)).trans qa_0),((aa_h.cell (p:=⟨w.heap.size,0,none⟩) (World.block_lt_of_cell? w3 ⟨w.heap.size,0,none⟩ d1)).trans d1),((aa_h.cell (p:=⟨w.heap.size,1,none⟩) (World.block_lt_of_cell? w3 ⟨w.heap.size,1,none⟩ d2)).trans d2)⟩ (fun hHeld=>?_);clear hK K;refine norm_ (a':=?_) ?_ ?_;rotate_left
 ·show Act.put _ (some 131) _=_;simp only[Act.put,bS,bT,bU,i64_w,i32_w];rfl
 refine one_ (i:=7) (N:=some 132) #[true,true,true,true,true,true,true,true,false,false,false] rfl rfl bB bG (fun K hK=>?_);refine step_append_cells (w0:=w3) (W:=w3.drew) w0.heap.size bH (.tmp 129) (.tmp 131) 88 90 _ 2 16 bH Tryz.underlying88 info81 rfl bG bG vk p.known.length (pairs p.known) [.int .i64 lo,.int .i64 hi] bH bH bH bK qa_o.out ((Below.refl _ _).drew) qa_B bA ?_;intro va war oa bba ga ta;obtain ⟨Aa,ca,eva⟩:=own_slice oa;subst eva;have xa_0:=ga.cell (w:=w3.drew) (a:=⟨b,6,none⟩) qa_0 qa_n.out;have xa_f:=(World.frozen?_of_block (w:=w3.drew) (a:=⟨b,6,none⟩) (ga.block b qa_b qa_n.out)).trans qa_f;have xa_1:=ga.cell (w:=w3.drew) (a:=⟨w.heap.size,0,none⟩) d1 hI.out.2.1
 have xa_2:=ga.cell (w:=w3.drew) (a:=⟨w.heap.size,1,none⟩) d2 hI.out.2.1
 have gga:w3.grownBy war vk.ownBlock:=⟨ga.os,ga.tape,ga.output,ga.size,ga.block⟩
 obtain ⟨hpa,hma⟩:=known_step HP3.out (lo,hi) (w':=war) oa gga ta;have HPa:=bR hpa;have HMa:=bR hma;clear hpa hma oa bba ga gga ta;refine hK.out _ _ ⟨xa_0,xa_1,xa_2⟩ (fun hHeld=>?_);clear hK K;refine norm_ (a':=?_) ?_ ?_;rotate_left
 ·show Act.put _ (some 132) _=_;simp only[Act.put,bS,bT,bU,i64_w,i32_w];rfl
 refine pure_ (i:=8) (N:=some 133) (v:=?_) (a':=?_) #[true,true,true,true,true,true,true,true,true,false,false] rfl rfl bB (fun _ _ _ h=>h) (Or.inl ⟨by rfl,?_⟩) ?_ ?_;rotate_left
 ·intro w';go_simp
  with_reducible rfl
 rotate_left
 ·simp only[Act.put,bS,bT,bU,i64_w,i32_w];rfl
 refine pure_ (i:=9) (N:=some 134) (v:=?_) (a':=?_) #[true,true,true,true,true,true,true,true,true,true,false] rfl rfl bB (fun _ _ _ h=>h) (Or.inl ⟨by rfl,?_⟩) ?_ ?_;rotate_left
 ·intro w';go_simp
  with_reducible rfl
 rotate_left
 ·simp only[Act.put,bS,bT,bU,i64_w,i32_w];rfl
 refine last_ (i:=10) (N:=none) #[true,true,true,true,true,true,true,true,true,true,true] rfl rfl bB bG (fun K hK=>?_);refine skip_ (w1:=?_) bH rfl ?_ ?_;rotate_left
 ·go_simp;rfl
 refine hK.out _ _ ?_;clear hK K;refine done_ bB ?_;clear d1 d2 xa_0 xa_f xa_1 xa_2 qa_0 qa_f qa_b qa_B qa_n qa_o aa_h
 obtain ⟨Wa,hWa⟩:∃ W,war.setCell ⟨b,6,none⟩ (.slice Aa (p.known.length+1) ca)=W:=⟨_,rfl⟩
 replace HPa:Aside0 (PathAt Wa w0.heap.size b { p with known:=p.known++[((lo:Int),(hi:Int))] } (.slice Aa (p.known.length+1) ca) vu vl u):=hWa▸HPa;replace HMa:Aside0 (Moved w3 Wa b vk vu vl (.slice Aa (p.known.length+1) ca) vu vl):=hWa▸HMa;rw[hWa];clear hWa;have z4:IntKind.i64.wrap (p.known.length:Int)=(p.known.length:Int):=by rw[IntWalk.i64_in _ bA]
 have k6:=HPa.out.row.at 6 _ rfl;have k7:=HPa.out.row.at 17 _ rfl;have k8:=HPa.out.row.free 17 bF;go_wp2_with fail
 obtain ⟨hpc,hmc⟩:=put_step HPa.out 17 (.int .i64 p.known.length) { p with known:=p.known++[((lo:Int),(hi:Int))],pfmt:=p.known.length } u rfl rfl rfl rfl bA;go_ret;exact ⟨rfl,_,_,hpc,((Moved.of_below HB3.out).trans HMa.out).trans hmc⟩
set_option maxRecDepth 100000 in
set_option maxHeartbeats 4000000 in
theorem apply_fmt_no (S:ParserAt w0 pb st sl sd sf sc mb sb fb) (OS:SiteOk st) (hB:Below w0.heap.size w0 w) (H:PathAt w w0.heap.size b p vk vu vl u) (osz:p.s.size≤1000000) (okl:p.known.length≤1000000) (oll:p.plangs.length≤1000000) (comp:ByteArray) (lo hi:Nat) (q1:lo≤hi) (q2:hi≤p.s.size) (hasc:asc (p.s.extract lo hi)) (hc:(comp.toList==[108,97,121,111,117,116,115])=true) (hd:fmtAsk st.fmts (lowS (p.s.extract lo hi)) ⟨#[]⟩=false) :
 Calls Tryz.prog 174 #[.pointer (some ⟨pb,0,none⟩),.string comp,.string ⟨#[111,117,116,112,117,116,102,111,114,109,97,116,95]⟩,.pointer (some ⟨b,0,none⟩),.agg #[.int .i64 lo,.int .i64 hi]] w fun e w' =>
  e = .returned (.bool false)∧Below w.heap.size w w':=by
 have HP:=bR H;have hb:=H.lt;have HS:=bR S;have HB0:=bR hB;have hsz:(p.s.extract lo hi).size≤1000000:=Nat.le_trans (extract_le _ _ _) osz;have cl:=fun W=>Tryz.strings_ToLower_ascii (p.s.extract lo hi) W bA hasc
 obtain ⟨x,hx⟩:∃ x,lowS (p.s.extract lo hi)=x:=⟨_,rfl⟩
 rw[show (⟨(Lib.toLowerA (p.s.extract lo hi).data.toList).toArray⟩:ByteArray)=x from hx] at cl;have hxz:x.size≤1000000:=by rw[← hx,lowS_size];exact hsz
 have HX:=bR hx;have h0:=H.row.at 0 _ rfl;have mne:=map_ne mb;clear H S hB hasc hx;go_enter Tryz.func174,Tryz.ntmps174;go_upto_region 1 with fail
 have hal:Below w.heap.size w (w.alloc (.cells #[.int .i64 lo,.int .i64 hi] 90)):=(Below.refl _ _).alloc (Nat.le_refl _) _;have hR:=Row.new w [.int .i64 lo,.int .i64 hi] 90;have hs1:w.heap.size < (w.alloc (.cells #[.int .i64 lo,.int .i64 hi] 90)).heap.size:=by simp
 obtain ⟨V0,hV0⟩:∃ V0,w.alloc (.cells #[.int .i64 lo,.int .i64 hi] 90)=V0:=⟨_,rfl⟩
 replace hR:Row V0 w.heap.size [.int .i64 lo,.int .i64 hi]:=hV0▸hR;rw[hV0] at hal hs1 ⊢;clear hV0;refine wp_region_still_tail 9 bB bB ?_;change wpStill _ _ V0.drew (fun a'=>wpList _ _ _ _ a' V0.drew) _ _;replace hal:=hal.drew;replace hR:Row V0.drew w.heap.size [.int .i64 lo,.int .i64 hi]:=hR.step rfl;replace hs1:w.heap.size < V0.drew.heap.size:=hs1
 obtain ⟨V,hV⟩:∃ V,V0.drew=V:=⟨_,rfl⟩
 rw[hV] at hal hR hs1 ⊢;clear hV;have d0:V.cell? ⟨b,0,none⟩=some (.string p.s):=(hal.cell (p:=⟨b,0,none⟩) hb).trans h0;have d1:=hR.at 0 _ rfl;have d2:=hR.at 1 _ rfl;simp only[List.take_succ_cons,List.take_zero,List.drop_succ_cons,List.drop_zero]
 repeat still_step
 refine wpStill_nil ?_;have HB1:=bR hal;have HR1:=bR hR;clear hal hR d0 d1 d2 h0;go_wp2_with fail
 refine (cl V).mono ?_;rintro e w2 ⟨rfl,hb2⟩;have HB2:=bR (below_step HB1.out hb2);have HR2:=bR (HR1.out.below hb2 hs1);have hs2:=Nat.lt_of_lt_of_le hs1 hb2.size;have HP2:=bR (HP.out.below HB2.out);have HS2:=bR (HS.out.below (HB0.out.trans (HB2.out.mono HB0.out.size)));have d1:=HR2.out.at 0 _ rfl;have d2:=HR2.out.at 1 _ rfl;have hI:=bR (HP.out.new_ne (Nat.le_refl _));clear hb2 cl;have s2:=HS2.out.row.at 2 _ rfl;have fne:=func_ne34 (.func 107) #[] #[.pointer (some ⟨sb,0,none⟩)];have cd:=isFormat_calls HS2.out.site OS x ⟨#[]⟩;rw[HX.out] at hd;rw[hd] at cd;clear hd;go_wp2_with fail
 refine cd.mono ?_;rintro e w3 ⟨rfl,hb3⟩;clear cd;have HB3:=bR (below_step HB2.out hb3);clear hb3;go_wp2_with fail
 go_ret;exact ⟨rfl,HB3.out⟩
set_option maxRecDepth 100000 in
set_option maxHeartbeats 4000000 in
theorem apply_fmt_comp (S:ParserAt w0 pb st sl sd sf sc mb sb fb) (OS:SiteOk st) (hB:Below w0.heap.size w0 w) (H:PathAt w w0.heap.size b p vk vu vl u) (osz:p.s.size≤1000000) (okl:p.known.length≤1000000) (oll:p.plangs.length≤1000000) (comp:ByteArray) (lo hi:Nat) (q1:lo≤hi) (q2:hi≤p.s.size) (hasc:asc (p.s.extract lo hi)) (hc:(comp.toList==[108,97,121,111,117,116,115])=false) :
 Calls Tryz.prog 174 #[.pointer (some ⟨pb,0,none⟩),.string comp,.string ⟨#[111,117,116,112,117,116,102,111,114,109,97,116,95]⟩,.pointer (some ⟨b,0,none⟩),.agg #[.int .i64 lo,.int .i64 hi]] w fun e w' =>
  e = .returned (.bool false)∧Below w.heap.size w w':=by
 have HP:=bR H;have hb:=H.lt;have HS:=bR S;have HB0:=bR hB;have hsz:(p.s.extract lo hi).size≤1000000:=Nat.le_trans (extract_le _ _ _) osz;have cl:=fun W=>Tryz.strings_ToLower_ascii (p.s.extract lo hi) W bA hasc
 obtain ⟨x,hx⟩:∃ x,lowS (p.s.extract lo hi)=x:=⟨_,rfl⟩
 rw[show (⟨(Lib.toLowerA (p.s.extract lo hi).data.toList).toArray⟩:ByteArray)=x from hx] at cl;have hxz:x.size≤1000000:=by rw[← hx,lowS_size];exact hsz
 have HX:=bR hx;have h0:=H.row.at 0 _ rfl;have mne:=map_ne mb;clear H S hB hasc hx;go_enter Tryz.func174,Tryz.ntmps174;go_upto_region 1 with fail
 have hal:Below w.heap.size w (w.alloc (.cells #[.int .i64 lo,.int .i64 hi] 90)):=(Below.refl _ _).alloc (Nat.le_refl _) _;have hR:=Row.new w [.int .i64 lo,.int .i64 hi] 90;have hs1:w.heap.size < (w.alloc (.cells #[.int .i64 lo,.int .i64 hi] 90)).heap.size:=by simp
 obtain ⟨V0,hV0⟩:∃ V0,w.alloc (.cells #[.int .i64 lo,.int .i64 hi] 90)=V0:=⟨_,rfl⟩
 replace hR:Row V0 w.heap.size [.int .i64 lo,.int .i64 hi]:=hV0▸hR;rw[hV0] at hal hs1 ⊢;clear hV0;refine wp_region_still_tail 9 bB bB ?_;change wpStill _ _ V0.drew (fun a'=>wpList _ _ _ _ a' V0.drew) _ _;replace hal:=hal.drew;replace hR:Row V0.drew w.heap.size [.int .i64 lo,.int .i64 hi]:=hR.step rfl;replace hs1:w.heap.size < V0.drew.heap.size:=hs1
 obtain ⟨V,hV⟩:∃ V,V0.drew=V:=⟨_,rfl⟩
 rw[hV] at hal hR hs1 ⊢;clear hV;have d0:V.cell? ⟨b,0,none⟩=some (.string p.s):=(hal.cell (p:=⟨b,0,none⟩) hb).trans h0;have d1:=hR.at 0 _ rfl;have d2:=hR.at 1 _ rfl;simp only[List.take_succ_cons,List.take_zero,List.drop_succ_cons,List.drop_zero]
 repeat still_step
 refine wpStill_nil ?_;have HB1:=bR hal;have HR1:=bR hR;clear hal hR d0 d1 d2 h0;go_wp2_with fail
 refine (cl V).mono ?_;rintro e w2 ⟨rfl,hb2⟩;have HB2:=bR (below_step HB1.out hb2);have HR2:=bR (HR1.out.below hb2 hs1);have hs2:=Nat.lt_of_lt_of_le hs1 hb2.size;have HP2:=bR (HP.out.below HB2.out);have HS2:=bR (HS.out.below (HB0.out.trans (HB2.out.mono HB0.out.size)));have d1:=HR2.out.at 0 _ rfl;have d2:=HR2.out.at 1 _ rfl;have hI:=bR (HP.out.new_ne (Nat.le_refl _));clear hb2 cl;go_wp2_with fail
 go_ret;exact ⟨rfl,HB2.out⟩
set_option maxRecDepth 100000 in
set_option maxHeartbeats 4000000 in
theorem apply_kind (S:ParserAt w0 pb st sl sd sf sc mb sb fb) (OS:SiteOk st) (hB:Below w0.heap.size w0 w) (H:PathAt w w0.heap.size b p vk vu vl u) (osz:p.s.size≤1000000) (okl:p.known.length≤1000000) (oll:p.plangs.length≤1000000) (comp:ByteArray) (lo hi:Nat) (q1:lo≤hi) (q2:hi≤p.s.size) (hasc:asc (p.s.extract lo hi)) (hc:(comp.toList==[108,97,121,111,117,116,115])=true) (hd:isKindL (Lib.toLowerA (L (lowS (p.s.extract lo hi))))=true) :
 Calls Tryz.prog 174 #[.pointer (some ⟨pb,0,none⟩),.string comp,.string ⟨#[107,105,110,100,95]⟩,.pointer (some ⟨b,0,none⟩),.agg #[.int .i64 lo,.int .i64 hi]] w fun e w' =>
  e = .returned (.bool true)∧∃ vk' vl',PathAt w' w0.heap.size b { p with known:=p.known++[((lo:Int),(hi:Int))],pkind:=p.known.length } vk' vu vl' u∧Moved w w' b vk vu vl vk' vu vl':=by
 have HA:=bR hasc;have HP:=bR H;have hb:=H.lt;have HS:=bR S;have HB0:=bR hB;have hsz:(p.s.extract lo hi).size≤1000000:=Nat.le_trans (extract_le _ _ _) osz;have cl:=fun W=>Tryz.strings_ToLower_ascii (p.s.extract lo hi) W bA hasc
 obtain ⟨x,hx⟩:∃ x,lowS (p.s.extract lo hi)=x:=⟨_,rfl⟩
 rw[show (⟨(Lib.toLowerA (p.s.extract lo hi).data.toList).toArray⟩:ByteArray)=x from hx] at cl;have hxz:x.size≤1000000:=by rw[← hx,lowS_size];exact hsz
 have HX:=bR hx;have h0:=H.row.at 0 _ rfl;have mne:=map_ne mb;clear H S hB hasc hx;go_enter Tryz.func174,Tryz.ntmps174;go_upto_region 1 with fail
 have hal:Below w.heap.size w (w.alloc (.cells #[.int .i64 lo,.int .i64 hi] 90)):=(Below.refl _ _).alloc (Nat.le_refl _) _;have hR:=Row.new w [.int .i64 lo,.int .i64 hi] 90;have hs1:w.heap.size < (w.alloc (.cells #[.int .i64 lo,.int .i64 hi] 90)).heap.size:=by simp
 obtain ⟨V0,hV0⟩:∃ V0,w.alloc (.cells #[.int .i64 lo,.int .i64 hi] 90)=V0:=⟨_,rfl⟩
 replace hR:Row V0 w.heap.size [.int .i64 lo,.int .i64 hi]:=hV0▸hR;rw[hV0] at hal hs1 ⊢;clear hV0;refine wp_region_still_tail 9 bB bB ?_;change wpStill _ _ V0.drew (fun a'=>wpList _ _ _ _ a' V0.drew) _ _;replace hal:=hal.drew;replace hR:Row V0.drew w.heap.size [.int .i64 lo,.int .i64 hi]:=hR.step rfl;replace hs1:w.heap.size < V0.drew.heap.size:=hs1
 obtain ⟨V,hV⟩:∃ V,V0.drew=V:=⟨_,rfl⟩
 rw[hV] at hal hR hs1 ⊢;clear hV;have d0:V.cell? ⟨b,0,none⟩=some (.string p.s):=(hal.cell (p:=⟨b,0,none⟩) hb).trans h0;have d1:=hR.at 0 _ rfl;have d2:=hR.at 1 _ rfl;simp only[List.take_succ_cons,List.take_zero,List.drop_succ_cons,List.drop_zero]
 repeat still_step
 refine wpStill_nil ?_;have HB1:=bR hal;have HR1:=bR hR;clear hal hR d0 d1 d2 h0;go_wp2_with fail
 refine (cl V).mono ?_;rintro e w2 ⟨rfl,hb2⟩;have HB2:=bR (below_step HB1.out hb2);have HR2:=bR (HR1.out.below hb2 hs1);have hs2:=Nat.lt_of_lt_of_le hs1 hb2.size;have HP2:=bR (HP.out.below HB2.out);have HS2:=bR (HS.out.below (HB0.out.trans (HB2.out.mono HB0.out.size)));have d1:=HR2.out.at 0 _ rfl;have d2:=HR2.out.at 1 _ rfl;have hI:=bR (HP.out.new_ne (Nat.le_refl _));clear hb2 cl;have hax:∀ (j:Nat) (b:UInt8),x.data.toList[j]? = some b→b.toNat < 128:=by rw[← HX.out];exact lowS_asc _ HA.out
 have cd:=GetKindMain_calls x w2 hxz hax;rw[HX.out] at hd;go_wp2_with fail
 refine cd.mono ?_;rintro e w3 ⟨r,rfl,hr,hb3⟩;rw[hd] at hr;have hr2:(r.toList==[])=false:=hr;clear cd hd hr;have HP3:=bR (HP2.out.below hb3);have HB3:=bR (below_step HB2.out hb3);replace d1:=(hb3.cell (p:=⟨w.heap.size,0,none⟩) hs2).trans d1;replace d2:=(hb3.cell (p:=⟨w.heap.size,1,none⟩) hs2).trans d2;clear hb3;go_upto_region 24 with fail
 have qa_0:=HP3.out.row.at 6 _ rfl;have qa_f:=HP3.out.row.free 6 bF;have qa_b:=HP3.out.lt;have qa_B:w0.heap.size≤w3.heap.size:=Nat.le_trans HP3.out.base (Nat.le_of_lt qa_b);have qa_n:=bR HP3.out.nk;have qa_o:=bR HP3.out.ok;refine start_ (n:=11) (S:=fun w'=>w'.cell? ⟨b,6,none⟩=some vk∧w'.cell? ⟨w.heap.size,0,none⟩=some (.int .i64 lo)∧w'.cell? ⟨w.heap.size,1,none⟩=some (.int .i64 hi)) (ds:=[10]) #[false,false,false,false,false,false,false,false,false,false,false] bB rfl rfl ⟨qa_0,d1,d2⟩ (fun hHeld=>?_);refine pure_ (i:=0) (N:=some 151) (v:=?_) (a':=?_) #[true,false,false,false,false,false,false,false,false,false,false] rfl rfl bB (fun _ _ _ h=>h) (Or.inl ⟨by rfl,?_⟩) ?_ ?_;rotate_left
 ·intro w';go_simp
  with_reducible rfl
 rotate_left
 ·simp only[Act.put,bS,bT,bU,i64_w,i32_w];rfl
 refine pure_ (i:=1) (N:=some 152) (v:=?_) (a':=?_) #[true,true,false,false,false,false,false,false,false,false,false] rfl rfl bB (fun _ _ _ h=>h) (Or.inl ⟨by rfl,?_⟩) ?_ ?_;rotate_left
 ·intro w';go_simp
  with_reducible rfl
 rotate_left
 ·simp only[Act.put,bS,bT,bU,i64_w,i32_w];rfl
 refine pure_ (i:=2) (N:=some 153) (v:=?_) (a':=?_) #[true,true,true,false,false,false,false,false,false,false,false] rfl rfl bB (fun _ _ _ h=>h) (Or.inl ⟨by rfl,?_⟩) ?_ ?_;rotate_left
 ·intro w';go_simp
  with_reducible rfl
 rotate_left
 ·simp only[Act.put,bS,bT,bU,i64_w,i32_w];rfl
 refine pure_ (i:=3) (N:=some 154) (v:=?_) (a':=?_) #[true,true,true,true,false,false,false,false,false,false,false] rfl rfl bB (fun _ _ _ h=>h) (Or.inl ⟨by rfl,?_⟩) ?_ ?_;rotate_left
 ·intro w';go_simp
  with_reducible rfl
 rotate_left
 ·simp only[Act.put,bS,bT,bU,i64_w,i32_w];rfl
 refine take_ (i:=4) (N:=some 155) (v:=?_) (a':=?_) #[true,true,true,true,true,false,false,false,false,false,false] rfl rfl bB (fun _ _ _ h=>h) (Or.inl ⟨by rfl,?_⟩) hHeld ?_ ?_;rotate_left
 ·rintro w' ⟨s0,s1,s2⟩;go_simp
  with_reducible rfl
 rotate_left
 ·simp only[Act.put,bS,bT,bU,i64_w,i32_w];rfl
 refine take_ (i:=5) (N:=some 156) (v:=?_) (a':=?_) #[true,true,true,true,true,true,false,false,false,false,false] rfl rfl bB (fun _ _ _ h=>h) (Or.inl ⟨by rfl,?_⟩) hHeld ?_ ?_;rotate_left
 ·rintro w' ⟨s0,s1,s2⟩;go_simp
  with_reducible rfl
 rotate_left
 ·simp only[Act.put,bS,bT,bU,i64_w,i32_w];rfl
 refine one_ (i:=6) (N:=some 157) #[true,true,true,true,true,true,true,false,false,false,false] rfl rfl bB bG (fun K hK=>?_);refine value_ (w1:=?_) (v:=?_) bH rfl ?_ ?_;rotate_left 2
 ·go_simp;constructor
  ·rfl
  ·rfl
 have aa_h:Below w3.heap.size w3 (w3.drew.alloc (.cells ([.int .i64 lo,.int .i64 hi]:List Value).toArray 90)):=(Below.refl _ _).drew.alloc (Nat.le_refl _) _;refine hK.out _ _ ⟨((aa_h.cell (p:=⟨b,6,none⟩) (World.block_lt_of_cell? w3 ⟨b,6,none⟩ qa_0)).trans qa_0),((aa_h.cell (p:=⟨w.heap.size,0,none⟩) (World.block_lt_of_cell? w3 ⟨w.heap.size,0,none⟩ d1)).trans d1),((aa_h.cell (p:=⟨w.heap.size,1,none⟩) (World.block_lt_of_cell? w3 ⟨w.heap.size,1,none⟩ d2)).trans d2)⟩ (fun hHeld=>?_);clear hK K;refine norm_ (a':=?_) ?_ ?_;rotate_left
 ·show Act.put _ (some 157) _=_;simp only[Act.put,bS,bT,bU,i64_w,i32_w];rfl
 refine one_ (i:=7) (N:=some 158) #[true,true,true,true,true,true,true,true,false,false,false] rfl rfl bB bG (fun K hK=>?_);refine step_append_cells (w0:=w3) (W:=w3.drew) w0.heap.size bH (.tmp 155) (.tmp 157) 88 90 _ 2 16 bH Tryz.underlying88 info81 rfl bG bG vk p.known.length (pairs p.known) [.int .i64 lo,.int .i64 hi] bH bH bH bK qa_o.out ((Below.refl _ _).drew) qa_B bA ?_;intro va war oa bba ga ta;obtain ⟨Aa,ca,eva⟩:=own_slice oa;subst eva;have xa_0:=ga.cell (w:=w3.drew) (a:=⟨b,6,none⟩) qa_0 qa_n.out;have xa_f:=(World.frozen?_of_block (w:=w3.drew) (a:=⟨b,6,none⟩) (ga.block b qa_b qa_n.out)).trans qa_f;have xa_1:=ga.cell (w:=w3.drew) (a:=⟨w.heap.size,0,none⟩) d1 hI.out.2.1
 have xa_2:=ga.cell (w:=w3.drew) (a:=⟨w.heap.size,1,none⟩) d2 hI.out.2.1
 have gga:w3.grownBy war vk.ownBlock:=⟨ga.os,ga.tape,ga.output,ga.size,ga.block⟩
 obtain ⟨hpa,hma⟩:=known_step HP3.out (lo,hi) (w':=war) oa gga ta;have HPa:=bR hpa;have HMa:=bR hma;clear hpa hma oa bba ga gga ta;refine hK.out _ _ ⟨xa_0,xa_1,xa_2⟩ (fun hHeld=>?_);clear hK K;refine norm_ (a':=?_) ?_ ?_;rotate_left
 ·show Act.put _ (some 158) _=_;simp only[Act.put,bS,bT,bU,i64_w,i32_w];rfl
 refine pure_ (i:=8) (N:=some 159) (v:=?_) (a':=?_) #[true,true,true,true,true,true,true,true,true,false,false] rfl rfl bB (fun _ _ _ h=>h) (Or.inl ⟨by rfl,?_⟩) ?_ ?_;rotate_left
 ·intro w';go_simp
  with_reducible rfl
 rotate_left
 ·simp only[Act.put,bS,bT,bU,i64_w,i32_w];rfl
 refine pure_ (i:=9) (N:=some 160) (v:=?_) (a':=?_) #[true,true,true,true,true,true,true,true,true,true,false] rfl rfl bB (fun _ _ _ h=>h) (Or.inl ⟨by rfl,?_⟩) ?_ ?_;rotate_left
 ·intro w';go_simp
  with_reducible rfl
 rotate_left
 ·simp only[Act.put,bS,bT,bU,i64_w,i32_w];rfl
 refine last_ (i:=10) (N:=none) #[true,true,true,true,true,true,true,true,true,true,true] rfl rfl bB bG (fun K hK=>?_);refine skip_ (w1:=?_) bH rfl ?_ ?_;rotate_left
 ·go_simp;rfl
 refine hK.out _ _ ?_;clear hK K;refine done_ bB ?_;clear d1 d2 xa_0 xa_f xa_1 xa_2 qa_0 qa_f qa_b qa_B qa_n qa_o aa_h
 obtain ⟨Wa,hWa⟩:∃ W,war.setCell ⟨b,6,none⟩ (.slice Aa (p.known.length+1) ca)=W:=⟨_,rfl⟩
 replace HPa:Aside0 (PathAt Wa w0.heap.size b { p with known:=p.known++[((lo:Int),(hi:Int))] } (.slice Aa (p.known.length+1) ca) vu vl u):=hWa▸HPa;replace HMa:Aside0 (Moved w3 Wa b vk vu vl (.slice Aa (p.known.length+1) ca) vu vl):=hWa▸HMa;rw[hWa];clear hWa;have z4:IntKind.i64.wrap (p.known.length:Int)=(p.known.length:Int):=by rw[IntWalk.i64_in _ bA]
 have k6:=HPa.out.row.at 6 _ rfl;have k7:=HPa.out.row.at 18 _ rfl;have k8:=HPa.out.row.free 18 bF;go_wp2_with fail
 obtain ⟨hpc,hmc⟩:=put_step HPa.out 18 (.int .i64 p.known.length) { p with known:=p.known++[((lo:Int),(hi:Int))],pkind:=p.known.length } u rfl rfl rfl rfl bA;go_ret;exact ⟨rfl,_,_,hpc,((Moved.of_below HB3.out).trans HMa.out).trans hmc⟩
set_option maxRecDepth 100000 in
set_option maxHeartbeats 4000000 in
theorem apply_kind_no (S:ParserAt w0 pb st sl sd sf sc mb sb fb) (OS:SiteOk st) (hB:Below w0.heap.size w0 w) (H:PathAt w w0.heap.size b p vk vu vl u) (osz:p.s.size≤1000000) (okl:p.known.length≤1000000) (oll:p.plangs.length≤1000000) (comp:ByteArray) (lo hi:Nat) (q1:lo≤hi) (q2:hi≤p.s.size) (hasc:asc (p.s.extract lo hi)) (hc:(comp.toList==[108,97,121,111,117,116,115])=true) (hd:isKindL (Lib.toLowerA (L (lowS (p.s.extract lo hi))))=false) :
 Calls Tryz.prog 174 #[.pointer (some ⟨pb,0,none⟩),.string comp,.string ⟨#[107,105,110,100,95]⟩,.pointer (some ⟨b,0,none⟩),.agg #[.int .i64 lo,.int .i64 hi]] w fun e w' =>
  e = .returned (.bool false)∧Below w.heap.size w w':=by
 have HA:=bR hasc;have HP:=bR H;have hb:=H.lt;have HS:=bR S;have HB0:=bR hB;have hsz:(p.s.extract lo hi).size≤1000000:=Nat.le_trans (extract_le _ _ _) osz;have cl:=fun W=>Tryz.strings_ToLower_ascii (p.s.extract lo hi) W bA hasc
 obtain ⟨x,hx⟩:∃ x,lowS (p.s.extract lo hi)=x:=⟨_,rfl⟩
 rw[show (⟨(Lib.toLowerA (p.s.extract lo hi).data.toList).toArray⟩:ByteArray)=x from hx] at cl;have hxz:x.size≤1000000:=by rw[← hx,lowS_size];exact hsz
 have HX:=bR hx;have h0:=H.row.at 0 _ rfl;have mne:=map_ne mb;clear H S hB hasc hx;go_enter Tryz.func174,Tryz.ntmps174;go_upto_region 1 with fail
 have hal:Below w.heap.size w (w.alloc (.cells #[.int .i64 lo,.int .i64 hi] 90)):=(Below.refl _ _).alloc (Nat.le_refl _) _;have hR:=Row.new w [.int .i64 lo,.int .i64 hi] 90;have hs1:w.heap.size < (w.alloc (.cells #[.int .i64 lo,.int .i64 hi] 90)).heap.size:=by simp
 obtain ⟨V0,hV0⟩:∃ V0,w.alloc (.cells #[.int .i64 lo,.int .i64 hi] 90)=V0:=⟨_,rfl⟩
 replace hR:Row V0 w.heap.size [.int .i64 lo,.int .i64 hi]:=hV0▸hR;rw[hV0] at hal hs1 ⊢;clear hV0;refine wp_region_still_tail 9 bB bB ?_;change wpStill _ _ V0.drew (fun a'=>wpList _ _ _ _ a' V0.drew) _ _;replace hal:=hal.drew;replace hR:Row V0.drew w.heap.size [.int .i64 lo,.int .i64 hi]:=hR.step rfl;replace hs1:w.heap.size < V0.drew.heap.size:=hs1
 obtain ⟨V,hV⟩:∃ V,V0.drew=V:=⟨_,rfl⟩
 rw[hV] at hal hR hs1 ⊢;clear hV;have d0:V.cell? ⟨b,0,none⟩=some (.string p.s):=(hal.cell (p:=⟨b,0,none⟩) hb).trans h0;have d1:=hR.at 0 _ rfl;have d2:=hR.at 1 _ rfl;simp only[List.take_succ_cons,List.take_zero,List.drop_succ_cons,List.drop_zero]
 repeat still_step
 refine wpStill_nil ?_;have HB1:=bR hal;have HR1:=bR hR;clear hal hR d0 d1 d2 h0;go_wp2_with fail
 refine (cl V).mono ?_;rintro e w2 ⟨rfl,hb2⟩;have HB2:=bR (below_step HB1.out hb2);have HR2:=bR (HR1.out.below hb2 hs1);have hs2:=Nat.lt_of_lt_of_le hs1 hb2.size;have HP2:=bR (HP.out.below HB2.out);have HS2:=bR (HS.out.below (HB0.out.trans (HB2.out.mono HB0.out.size)));have d1:=HR2.out.at 0 _ rfl;have d2:=HR2.out.at 1 _ rfl;have hI:=bR (HP.out.new_ne (Nat.le_refl _));clear hb2 cl;have hax:∀ (j:Nat) (b:UInt8),x.data.toList[j]? = some b→b.toNat < 128:=by rw[← HX.out];exact lowS_asc _ HA.out
 have cd:=GetKindMain_calls x w2 hxz hax;rw[HX.out] at hd;go_wp2_with fail
 refine cd.mono ?_;rintro e w3 ⟨r,rfl,hr,hb3⟩;rw[hd] at hr;have hr2:(r.toList==[])=true:=hr;clear cd hd hr;have HB3:=bR (below_step HB2.out hb3);clear hb3;go_wp2_with fail
 go_ret;exact ⟨rfl,HB3.out⟩
set_option maxRecDepth 100000 in
set_option maxHeartbeats 4000000 in
theorem apply_kind_comp (S:ParserAt w0 pb st sl sd sf sc mb sb fb) (OS:SiteOk st) (hB:Below w0.heap.size w0 w) (H:PathAt w w0.heap.size b p vk vu vl u) (osz:p.s.size≤1000000) (okl:p.known.length≤1000000) (oll:p.plangs.length≤1000000) (comp:ByteArray) (lo hi:Nat) (q1:lo≤hi) (q2:hi≤p.s.size) (hasc:asc (p.s.extract lo hi)) (hc:(comp.toList==[108,97,121,111,117,116,115])=false) :
 Calls Tryz.prog 174 #[.pointer (some ⟨pb,0,none⟩),.string comp,.string ⟨#[107,105,110,100,95]⟩,.pointer (some ⟨b,0,none⟩),.agg #[.int .i64 lo,.int .i64 hi]] w fun e w' =>
  e = .returned (.bool false)∧Below w.heap.size w w':=by
 have HP:=bR H;have hb:=H.lt;have HS:=bR S;have HB0:=bR hB;have hsz:(p.s.extract lo hi).size≤1000000:=Nat.le_trans (extract_le _ _ _) osz;have cl:=fun W=>Tryz.strings_ToLower_ascii (p.s.extract lo hi) W bA hasc
 obtain ⟨x,hx⟩:∃ x,lowS (p.s.extract lo hi)=x:=⟨_,rfl⟩
 rw[show (⟨(Lib.toLowerA (p.s.extract lo hi).data.toList).toArray⟩:ByteArray)=x from hx] at cl;have hxz:x.size≤1000000:=by rw[← hx,lowS_size];exact hsz
 have HX:=bR hx;have h0:=H.row.at 0 _ rfl;have mne:=map_ne mb;clear H S hB hasc hx;go_enter Tryz.func174,Tryz.ntmps174;go_upto_region 1 with fail
 have hal:Below w.heap.size w (w.alloc (.cells #[.int .i64 lo,.int .i64 hi] 90)):=(Below.refl _ _).alloc (Nat.le_refl _) _;have hR:=Row.new w [.int .i64 lo,.int .i64 hi] 90;have hs1:w.heap.size < (w.alloc (.cells #[.int .i64 lo,.int .i64 hi] 90)).heap.size:=by simp
 obtain ⟨V0,hV0⟩:∃ V0,w.alloc (.cells #[.int .i64 lo,.int .i64 hi] 90)=V0:=⟨_,rfl⟩
 replace hR:Row V0 w.heap.size [.int .i64 lo,.int .i64 hi]:=hV0▸hR;rw[hV0] at hal hs1 ⊢;clear hV0;refine wp_region_still_tail 9 bB bB ?_;change wpStill _ _ V0.drew (fun a'=>wpList _ _ _ _ a' V0.drew) _ _;replace hal:=hal.drew;replace hR:Row V0.drew w.heap.size [.int .i64 lo,.int .i64 hi]:=hR.step rfl;replace hs1:w.heap.size < V0.drew.heap.size:=hs1
 obtain ⟨V,hV⟩:∃ V,V0.drew=V:=⟨_,rfl⟩
 rw[hV] at hal hR hs1 ⊢;clear hV;have d0:V.cell? ⟨b,0,none⟩=some (.string p.s):=(hal.cell (p:=⟨b,0,none⟩) hb).trans h0;have d1:=hR.at 0 _ rfl;have d2:=hR.at 1 _ rfl;simp only[List.take_succ_cons,List.take_zero,List.drop_succ_cons,List.drop_zero]
 repeat still_step
 refine wpStill_nil ?_;have HB1:=bR hal;have HR1:=bR hR;clear hal hR d0 d1 d2 h0;go_wp2_with fail
 refine (cl V).mono ?_;rintro e w2 ⟨rfl,hb2⟩;have HB2:=bR (below_step HB1.out hb2);have HR2:=bR (HR1.out.below hb2 hs1);have hs2:=Nat.lt_of_lt_of_le hs1 hb2.size;have HP2:=bR (HP.out.below HB2.out);have HS2:=bR (HS.out.below (HB0.out.trans (HB2.out.mono HB0.out.size)));have d1:=HR2.out.at 0 _ rfl;have d2:=HR2.out.at 1 _ rfl;have hI:=bR (HP.out.new_ne (Nat.le_refl _));clear hb2 cl;go_wp2_with fail
 go_ret;exact ⟨rfl,HB2.out⟩
end
end Go.Proofs.YtmgdbpjidkdegaaGreatDoor.Path
set_option linter.unusedSimpArgs false
set_option linter.unusedVariables false
namespace Go.Proofs.YtmgdbpjidkdegaaGreatDoor.Path
open Go.RowKit Go.WideMaps Go.Proofs.YtmgdbpjidkdegaaGreatDoorW.PrintWords Go.Proofs.YtmgdbpjidkdegaaGreatDoorW.PrintLast Go.Proofs.YtmgdbpjidkdegaaGreatDoor.Base
section
variable {w0 w:World} {b:Nat} {p:PathV} {vk vu vl u:Value} {pb mb sb fb:Nat} {st:SiteV} {sl sd sf sc:Value}
set_option maxRecDepth 100000 in
set_option maxHeartbeats 4000000 in
theorem apply_layout (S:ParserAt w0 pb st sl sd sf sc mb sb fb) (OS:SiteOk st) (hB:Below w0.heap.size w0 w) (H:PathAt w w0.heap.size b p vk vu vl u) (osz:p.s.size≤1000000) (okl:p.known.length≤1000000) (oll:p.plangs.length≤1000000) (comp:ByteArray) (lo hi:Nat) (q1:lo≤hi) (q2:hi≤p.s.size) (hasc:asc (p.s.extract lo hi)) (hc:(comp.toList==[108,97,121,111,117,116,115])=true) :
 Calls Tryz.prog 174 #[.pointer (some ⟨pb,0,none⟩),.string comp,.string ⟨#[108,97,121,111,117,116,95]⟩,.pointer (some ⟨b,0,none⟩),.agg #[.int .i64 lo,.int .i64 hi]] w fun e w' =>
  e = .returned (.bool true)∧∃ vk' vl',PathAt w' w0.heap.size b { p with known:=p.known++[((lo:Int),(hi:Int))],play:=p.known.length } vk' vu vl' u∧Moved w w' b vk vu vl vk' vu vl':=by
 have HP:=bR H;have hb:=H.lt;have HS:=bR S;have HB0:=bR hB;have hsz:(p.s.extract lo hi).size≤1000000:=Nat.le_trans (extract_le _ _ _) osz;have cl:=fun W=>Tryz.strings_ToLower_ascii (p.s.extract lo hi) W bA hasc
 obtain ⟨x,hx⟩:∃ x,lowS (p.s.extract lo hi)=x:=⟨_,rfl⟩
 rw[show (⟨(Lib.toLowerA (p.s.extract lo hi).data.toList).toArray⟩:ByteArray)=x from hx] at cl;have hxz:x.size≤1000000:=by rw[← hx,lowS_size];exact hsz
 have HX:=bR hx;have h0:=H.row.at 0 _ rfl;have mne:=map_ne mb;clear H S hB hasc hx;go_enter Tryz.func174,Tryz.ntmps174;go_upto_region 1 with fail
 have hal:Below w.heap.size w (w.alloc (.cells #[.int .i64 lo,.int .i64 hi] 90)):=(Below.refl _ _).alloc (Nat.le_refl _) _;have hR:=Row.new w [.int .i64 lo,.int .i64 hi] 90;have hs1:w.heap.size < (w.alloc (.cells #[.int .i64 lo,.int .i64 hi] 90)).heap.size:=by simp
 obtain ⟨V0,hV0⟩:∃ V0,w.alloc (.cells #[.int .i64 lo,.int .i64 hi] 90)=V0:=⟨_,rfl⟩
 replace hR:Row V0 w.heap.size [.int .i64 lo,.int .i64 hi]:=hV0▸hR;rw[hV0] at hal hs1 ⊢;clear hV0;refine wp_region_still_tail 9 bB bB ?_;change wpStill _ _ V0.drew (fun a'=>wpList _ _ _ _ a' V0.drew) _ _;replace hal:=hal.drew;replace hR:Row V0.drew w.heap.size [.int .i64 lo,.int .i64 hi]:=hR.step rfl;replace hs1:w.heap.size < V0.drew.heap.size:=hs1
 obtain ⟨V,hV⟩:∃ V,V0.drew=V:=⟨_,rfl⟩
 rw[hV] at hal hR hs1 ⊢;clear hV;have d0:V.cell? ⟨b,0,none⟩=some (.string p.s):=(hal.cell (p:=⟨b,0,none⟩) hb).trans h0;have d1:=hR.at 0 _ rfl;have d2:=hR.at 1 _ rfl;simp only[List.take_succ_cons,List.take_zero,List.drop_succ_cons,List.drop_zero]
 repeat still_step
 refine wpStill_nil ?_;have HB1:=bR hal;have HR1:=bR hR;clear hal hR d0 d1 d2 h0;go_wp2_with fail
 refine (cl V).mono ?_;rintro e w2 ⟨rfl,hb2⟩;have HB2:=bR (below_step HB1.out hb2);have HR2:=bR (HR1.out.below hb2 hs1);have hs2:=Nat.lt_of_lt_of_le hs1 hb2.size;have HP2:=bR (HP.out.below HB2.out);have HS2:=bR (HS.out.below (HB0.out.trans (HB2.out.mono HB0.out.size)));have d1:=HR2.out.at 0 _ rfl;have d2:=HR2.out.at 1 _ rfl;have hI:=bR (HP.out.new_ne (Nat.le_refl _));clear hb2 cl;go_upto_region 29 with fail
 have qa_0:=HP2.out.row.at 6 _ rfl;have qa_f:=HP2.out.row.free 6 bF;have qa_b:=HP2.out.lt;have qa_B:w0.heap.size≤w2.heap.size:=Nat.le_trans HP2.out.base (Nat.le_of_lt qa_b);have qa_n:=bR HP2.out.nk;have qa_o:=bR HP2.out.ok;refine start_ (n:=11) (S:=fun w'=>w'.cell? ⟨b,6,none⟩=some vk∧w'.cell? ⟨w.heap.size,0,none⟩=some (.int .i64 lo)∧w'.cell? ⟨w.heap.size,1,none⟩=some (.int .i64 hi)) (ds:=[10]) #[false,false,false,false,false,false,false,false,false,false,false] bB rfl rfl ⟨qa_0,d1,d2⟩ (fun hHeld=>?_);refine pure_ (i:=0) (N:=some 174) (v:=?_) (a':=?_) #[true,false,false,false,false,false,false,false,false,false,false] rfl rfl bB (fun _ _ _ h=>h) (Or.inl ⟨by rfl,?_⟩) ?_ ?_;rotate_left
 ·intro w';go_simp
  with_reducible rfl
 rotate_left
 ·simp only[Act.put,bS,bT,bU,i64_w,i32_w];rfl
 refine pure_ (i:=1) (N:=some 175) (v:=?_) (a':=?_) #[true,true,false,false,false,false,false,false,false,false,false] rfl rfl bB (fun _ _ _ h=>h) (Or.inl ⟨by rfl,?_⟩) ?_ ?_;rotate_left
 ·intro w';go_simp
  with_reducible rfl
 rotate_left
 ·simp only[Act.put,bS,bT,bU,i64_w,i32_w];rfl
 refine pure_ (i:=2) (N:=some 176) (v:=?_) (a':=?_) #[true,true,true,false,false,false,false,false,false,false,false] rfl rfl bB (fun _ _ _ h=>h) (Or.inl ⟨by rfl,?_⟩) ?_ ?_;rotate_left
 ·intro w';go_simp
  with_reducible rfl
 rotate_left
 ·simp only[Act.put,bS,bT,bU,i64_w,i32_w];rfl
 refine pure_ (i:=3) (N:=some 177) (v:=?_) (a':=?_) #[true,true,true,true,false,false,false,false,false,false,false] rfl rfl bB (fun _ _ _ h=>h) (Or.inl ⟨by rfl,?_⟩) ?_ ?_;rotate_left
 ·intro w';go_simp
  with_reducible rfl
 rotate_left
 ·simp only[Act.put,bS,bT,bU,i64_w,i32_w];rfl
 refine take_ (i:=4) (N:=some 178) (v:=?_) (a':=?_) #[true,true,true,true,true,false,false,false,false,false,false] rfl rfl bB (fun _ _ _ h=>h) (Or.inl ⟨by rfl,?_⟩) hHeld ?_ ?_;rotate_left
 ·rintro w' ⟨s0,s1,s2⟩;go_simp
  with_reducible rfl
 rotate_left
 ·simp only[Act.put,bS,bT,bU,i64_w,i32_w];rfl
 refine take_ (i:=5) (N:=some 179) (v:=?_) (a':=?_) #[true,true,true,true,true,true,false,false,false,false,false] rfl rfl bB (fun _ _ _ h=>h) (Or.inl ⟨by rfl,?_⟩) hHeld ?_ ?_;rotate_left
 ·rintro w' ⟨s0,s1,s2⟩;go_simp
  with_reducible rfl
 rotate_left
 ·simp only[Act.put,bS,bT,bU,i64_w,i32_w];rfl
 refine one_ (i:=6) (N:=some 180) #[true,true,true,true,true,true,true,false,false,false,false] rfl rfl bB bG (fun K hK=>?_);refine value_ (w1:=?_) (v:=?_) bH rfl ?_ ?_;rotate_left 2
 ·go_simp;constructor
  ·rfl
  ·rfl
 have aa_h:Below w2.heap.size w2 (w2.drew.alloc (.cells ([.int .i64 lo,.int .i64 hi]:List Value).toArray 90)):=(Below.refl _ _).drew.alloc (Nat.le_refl _) _;refine hK.out _ _ ⟨((aa_h.cell (p:=⟨b,6,none⟩) (World.block_lt_of_cell? w2 ⟨b,6,none⟩ qa_0)).trans qa_0),((aa_h.cell (p:=⟨w.heap.size,0,none⟩) (World.block_lt_of_cell? w2 ⟨w.heap.size,0,none⟩ d1)).trans d1),((aa_h.cell (p:=⟨w.heap.size,1,none⟩) (World.block_lt_of_cell? w2 ⟨w.heap.size,1,none⟩ d2)).trans d2)⟩ (fun hHeld=>?_);clear hK K;refine norm_ (a':=?_) ?_ ?_;rotate_left
 ·show Act.put _ (some 180) _=_;simp only[Act.put,bS,bT,bU,i64_w,i32_w];rfl
 refine one_ (i:=7) (N:=some 181) #[true,true,true,true,true,true,true,true,false,false,false] rfl rfl bB bG (fun K hK=>?_);refine step_append_cells (w0:=w2) (W:=w2.drew) w0.heap.size bH (.tmp 178) (.tmp 180) 88 90 _ 2 16 bH Tryz.underlying88 info81 rfl bG bG vk p.known.length (pairs p.known) [.int .i64 lo,.int .i64 hi] bH bH bH bK qa_o.out ((Below.refl _ _).drew) qa_B bA ?_;intro va war oa bba ga ta;obtain ⟨Aa,ca,eva⟩:=own_slice oa;subst eva;have xa_0:=ga.cell (w:=w2.drew) (a:=⟨b,6,none⟩) qa_0 qa_n.out;have xa_f:=(World.frozen?_of_block (w:=w2.drew) (a:=⟨b,6,none⟩) (ga.block b qa_b qa_n.out)).trans qa_f;have xa_1:=ga.cell (w:=w2.drew) (a:=⟨w.heap.size,0,none⟩) d1 hI.out.2.1
 have xa_2:=ga.cell (w:=w2.drew) (a:=⟨w.heap.size,1,none⟩) d2 hI.out.2.1
 have gga:w2.grownBy war vk.ownBlock:=⟨ga.os,ga.tape,ga.output,ga.size,ga.block⟩
 obtain ⟨hpa,hma⟩:=known_step HP2.out (lo,hi) (w':=war) oa gga ta;have HPa:=bR hpa;have HMa:=bR hma;clear hpa hma oa bba ga gga ta;refine hK.out _ _ ⟨xa_0,xa_1,xa_2⟩ (fun hHeld=>?_);clear hK K;refine norm_ (a':=?_) ?_ ?_;rotate_left
 ·show Act.put _ (some 181) _=_;simp only[Act.put,bS,bT,bU,i64_w,i32_w];rfl
 refine pure_ (i:=8) (N:=some 182) (v:=?_) (a':=?_) #[true,true,true,true,true,true,true,true,true,false,false] rfl rfl bB (fun _ _ _ h=>h) (Or.inl ⟨by rfl,?_⟩) ?_ ?_;rotate_left
 ·intro w';go_simp
  with_reducible rfl
 rotate_left
 ·simp only[Act.put,bS,bT,bU,i64_w,i32_w];rfl
 refine pure_ (i:=9) (N:=some 183) (v:=?_) (a':=?_) #[true,true,true,true,true,true,true,true,true,true,false] rfl rfl bB (fun _ _ _ h=>h) (Or.inl ⟨by rfl,?_⟩) ?_ ?_;rotate_left
 ·intro w';go_simp
  with_reducible rfl
 rotate_left
 ·simp only[Act.put,bS,bT,bU,i64_w,i32_w];rfl
 refine last_ (i:=10) (N:=none) #[true,true,true,true,true,true,true,true,true,true,true] rfl rfl bB bG (fun K hK=>?_);refine skip_ (w1:=?_) bH rfl ?_ ?_;rotate_left
 ·go_simp;rfl
 refine hK.out _ _ ?_;clear hK K;refine done_ bB ?_;clear d1 d2 xa_0 xa_f xa_1 xa_2 qa_0 qa_f qa_b qa_B qa_n qa_o aa_h
 obtain ⟨Wa,hWa⟩:∃ W,war.setCell ⟨b,6,none⟩ (.slice Aa (p.known.length+1) ca)=W:=⟨_,rfl⟩
 replace HPa:Aside0 (PathAt Wa w0.heap.size b { p with known:=p.known++[((lo:Int),(hi:Int))] } (.slice Aa (p.known.length+1) ca) vu vl u):=hWa▸HPa;replace HMa:Aside0 (Moved w2 Wa b vk vu vl (.slice Aa (p.known.length+1) ca) vu vl):=hWa▸HMa;rw[hWa];clear hWa;have z4:IntKind.i64.wrap (p.known.length:Int)=(p.known.length:Int):=by rw[IntWalk.i64_in _ bA]
 have k6:=HPa.out.row.at 6 _ rfl;have k7:=HPa.out.row.at 19 _ rfl;have k8:=HPa.out.row.free 19 bF;go_wp2_with fail
 obtain ⟨hpc,hmc⟩:=put_step HPa.out 19 (.int .i64 p.known.length) { p with known:=p.known++[((lo:Int),(hi:Int))],play:=p.known.length } u rfl rfl rfl rfl bA;go_ret;exact ⟨rfl,_,_,hpc,((Moved.of_below HB2.out).trans HMa.out).trans hmc⟩
set_option maxRecDepth 100000 in
set_option maxHeartbeats 4000000 in
theorem apply_layout_comp (S:ParserAt w0 pb st sl sd sf sc mb sb fb) (OS:SiteOk st) (hB:Below w0.heap.size w0 w) (H:PathAt w w0.heap.size b p vk vu vl u) (osz:p.s.size≤1000000) (okl:p.known.length≤1000000) (oll:p.plangs.length≤1000000) (comp:ByteArray) (lo hi:Nat) (q1:lo≤hi) (q2:hi≤p.s.size) (hasc:asc (p.s.extract lo hi)) (hc:(comp.toList==[108,97,121,111,117,116,115])=false) :
 Calls Tryz.prog 174 #[.pointer (some ⟨pb,0,none⟩),.string comp,.string ⟨#[108,97,121,111,117,116,95]⟩,.pointer (some ⟨b,0,none⟩),.agg #[.int .i64 lo,.int .i64 hi]] w fun e w' =>
  e = .returned (.bool false)∧Below w.heap.size w w':=by
 have HP:=bR H;have hb:=H.lt;have HS:=bR S;have HB0:=bR hB;have hsz:(p.s.extract lo hi).size≤1000000:=Nat.le_trans (extract_le _ _ _) osz;have cl:=fun W=>Tryz.strings_ToLower_ascii (p.s.extract lo hi) W bA hasc
 obtain ⟨x,hx⟩:∃ x,lowS (p.s.extract lo hi)=x:=⟨_,rfl⟩
 rw[show (⟨(Lib.toLowerA (p.s.extract lo hi).data.toList).toArray⟩:ByteArray)=x from hx] at cl;have hxz:x.size≤1000000:=by rw[← hx,lowS_size];exact hsz
 have HX:=bR hx;have h0:=H.row.at 0 _ rfl;have mne:=map_ne mb;clear H S hB hasc hx;go_enter Tryz.func174,Tryz.ntmps174;go_upto_region 1 with fail
 have hal:Below w.heap.size w (w.alloc (.cells #[.int .i64 lo,.int .i64 hi] 90)):=(Below.refl _ _).alloc (Nat.le_refl _) _;have hR:=Row.new w [.int .i64 lo,.int .i64 hi] 90;have hs1:w.heap.size < (w.alloc (.cells #[.int .i64 lo,.int .i64 hi] 90)).heap.size:=by simp
 obtain ⟨V0,hV0⟩:∃ V0,w.alloc (.cells #[.int .i64 lo,.int .i64 hi] 90)=V0:=⟨_,rfl⟩
 replace hR:Row V0 w.heap.size [.int .i64 lo,.int .i64 hi]:=hV0▸hR;rw[hV0] at hal hs1 ⊢;clear hV0;refine wp_region_still_tail 9 bB bB ?_;change wpStill _ _ V0.drew (fun a'=>wpList _ _ _ _ a' V0.drew) _ _;replace hal:=hal.drew;replace hR:Row V0.drew w.heap.size [.int .i64 lo,.int .i64 hi]:=hR.step rfl;replace hs1:w.heap.size < V0.drew.heap.size:=hs1
 obtain ⟨V,hV⟩:∃ V,V0.drew=V:=⟨_,rfl⟩
 rw[hV] at hal hR hs1 ⊢;clear hV;have d0:V.cell? ⟨b,0,none⟩=some (.string p.s):=(hal.cell (p:=⟨b,0,none⟩) hb).trans h0;have d1:=hR.at 0 _ rfl;have d2:=hR.at 1 _ rfl;simp only[List.take_succ_cons,List.take_zero,List.drop_succ_cons,List.drop_zero]
 repeat still_step
 refine wpStill_nil ?_;have HB1:=bR hal;have HR1:=bR hR;clear hal hR d0 d1 d2 h0;go_wp2_with fail
 refine (cl V).mono ?_;rintro e w2 ⟨rfl,hb2⟩;have HB2:=bR (below_step HB1.out hb2);have HR2:=bR (HR1.out.below hb2 hs1);have hs2:=Nat.lt_of_lt_of_le hs1 hb2.size;have HP2:=bR (HP.out.below HB2.out);have HS2:=bR (HS.out.below (HB0.out.trans (HB2.out.mono HB0.out.size)));have d1:=HR2.out.at 0 _ rfl;have d2:=HR2.out.at 1 _ rfl;have hI:=bR (HP.out.new_ne (Nat.le_refl _));clear hb2 cl;go_wp2_with fail
 go_ret;exact ⟨rfl,HB2.out⟩
set_option maxRecDepth 100000 in
set_option maxHeartbeats 4000000 in
theorem apply_version (S:ParserAt w0 pb st sl sd sf sc mb sb fb) (OS:SiteOk st) (hB:Below w0.heap.size w0 w) (H:PathAt w w0.heap.size b p vk vu vl u) (osz:p.s.size≤1000000) (okl:p.known.length≤1000000) (oll:p.plangs.length≤1000000) (comp:ByteArray) (lo hi:Nat) (q1:lo≤hi) (q2:hi≤p.s.size) (hasc:asc (p.s.extract lo hi))  :
 Calls Tryz.prog 174 #[.pointer (some ⟨pb,0,none⟩),.string comp,.string ⟨#[118,101,114,115,105,111,110,95]⟩,.pointer (some ⟨b,0,none⟩),.agg #[.int .i64 lo,.int .i64 hi]] w fun e w' =>
  e = .returned (.bool false)∧Below w.heap.size w w':=by
 have HP:=bR H;have hb:=H.lt;have HS:=bR S;have HB0:=bR hB;have hsz:(p.s.extract lo hi).size≤1000000:=Nat.le_trans (extract_le _ _ _) osz;have cl:=fun W=>Tryz.strings_ToLower_ascii (p.s.extract lo hi) W bA hasc
 obtain ⟨x,hx⟩:∃ x,lowS (p.s.extract lo hi)=x:=⟨_,rfl⟩
 rw[show (⟨(Lib.toLowerA (p.s.extract lo hi).data.toList).toArray⟩:ByteArray)=x from hx] at cl;have hxz:x.size≤1000000:=by rw[← hx,lowS_size];exact hsz
 have HX:=bR hx;have h0:=H.row.at 0 _ rfl;have mne:=map_ne mb;clear H S hB hasc hx;go_enter Tryz.func174,Tryz.ntmps174;go_upto_region 1 with fail
 have hal:Below w.heap.size w (w.alloc (.cells #[.int .i64 lo,.int .i64 hi] 90)):=(Below.refl _ _).alloc (Nat.le_refl _) _;have hR:=Row.new w [.int .i64 lo,.int .i64 hi] 90;have hs1:w.heap.size < (w.alloc (.cells #[.int .i64 lo,.int .i64 hi] 90)).heap.size:=by simp
 obtain ⟨V0,hV0⟩:∃ V0,w.alloc (.cells #[.int .i64 lo,.int .i64 hi] 90)=V0:=⟨_,rfl⟩
 replace hR:Row V0 w.heap.size [.int .i64 lo,.int .i64 hi]:=hV0▸hR;rw[hV0] at hal hs1 ⊢;clear hV0;refine wp_region_still_tail 9 bB bB ?_;change wpStill _ _ V0.drew (fun a'=>wpList _ _ _ _ a' V0.drew) _ _;replace hal:=hal.drew;replace hR:Row V0.drew w.heap.size [.int .i64 lo,.int .i64 hi]:=hR.step rfl;replace hs1:w.heap.size < V0.drew.heap.size:=hs1
 obtain ⟨V,hV⟩:∃ V,V0.drew=V:=⟨_,rfl⟩
 rw[hV] at hal hR hs1 ⊢;clear hV;have d0:V.cell? ⟨b,0,none⟩=some (.string p.s):=(hal.cell (p:=⟨b,0,none⟩) hb).trans h0;have d1:=hR.at 0 _ rfl;have d2:=hR.at 1 _ rfl;simp only[List.take_succ_cons,List.take_zero,List.drop_succ_cons,List.drop_zero]
 repeat still_step
 refine wpStill_nil ?_;have HB1:=bR hal;have HR1:=bR hR;clear hal hR d0 d1 d2 h0;go_wp2_with fail
 refine (cl V).mono ?_;rintro e w2 ⟨rfl,hb2⟩;have HB2:=bR (below_step HB1.out hb2);have HR2:=bR (HR1.out.below hb2 hs1);have hs2:=Nat.lt_of_lt_of_le hs1 hb2.size;have HP2:=bR (HP.out.below HB2.out);have HS2:=bR (HS.out.below (HB0.out.trans (HB2.out.mono HB0.out.size)));have d1:=HR2.out.at 0 _ rfl;have d2:=HR2.out.at 1 _ rfl;have hI:=bR (HP.out.new_ne (Nat.le_refl _));clear hb2 cl;go_wp2_with fail
 go_ret;exact ⟨rfl,HB2.out⟩
set_option maxRecDepth 100000 in
set_option maxHeartbeats 4000000 in
theorem apply_role (S:ParserAt w0 pb st sl sd sf sc mb sb fb) (OS:SiteOk st) (hB:Below w0.heap.size w0 w) (H:PathAt w w0.heap.size b p vk vu vl u) (osz:p.s.size≤1000000) (okl:p.known.length≤1000000) (oll:p.plangs.length≤1000000) (comp:ByteArray) (lo hi:Nat) (q1:lo≤hi) (q2:hi≤p.s.size) (hasc:asc (p.s.extract lo hi))  :
 Calls Tryz.prog 174 #[.pointer (some ⟨pb,0,none⟩),.string comp,.string ⟨#[114,111,108,101,95]⟩,.pointer (some ⟨b,0,none⟩),.agg #[.int .i64 lo,.int .i64 hi]] w fun e w' =>
  e = .returned (.bool false)∧Below w.heap.size w w':=by
 have HP:=bR H;have hb:=H.lt;have HS:=bR S;have HB0:=bR hB;have hsz:(p.s.extract lo hi).size≤1000000:=Nat.le_trans (extract_le _ _ _) osz;have cl:=fun W=>Tryz.strings_ToLower_ascii (p.s.extract lo hi) W bA hasc
 obtain ⟨x,hx⟩:∃ x,lowS (p.s.extract lo hi)=x:=⟨_,rfl⟩
 rw[show (⟨(Lib.toLowerA (p.s.extract lo hi).data.toList).toArray⟩:ByteArray)=x from hx] at cl;have hxz:x.size≤1000000:=by rw[← hx,lowS_size];exact hsz
 have HX:=bR hx;have h0:=H.row.at 0 _ rfl;have mne:=map_ne mb;clear H S hB hasc hx;go_enter Tryz.func174,Tryz.ntmps174;go_upto_region 1 with fail
 have hal:Below w.heap.size w (w.alloc (.cells #[.int .i64 lo,.int .i64 hi] 90)):=(Below.refl _ _).alloc (Nat.le_refl _) _;have hR:=Row.new w [.int .i64 lo,.int .i64 hi] 90;have hs1:w.heap.size < (w.alloc (.cells #[.int .i64 lo,.int .i64 hi] 90)).heap.size:=by simp
 obtain ⟨V0,hV0⟩:∃ V0,w.alloc (.cells #[.int .i64 lo,.int .i64 hi] 90)=V0:=⟨_,rfl⟩
 replace hR:Row V0 w.heap.size [.int .i64 lo,.int .i64 hi]:=hV0▸hR;rw[hV0] at hal hs1 ⊢;clear hV0;refine wp_region_still_tail 9 bB bB ?_;change wpStill _ _ V0.drew (fun a'=>wpList _ _ _ _ a' V0.drew) _ _;replace hal:=hal.drew;replace hR:Row V0.drew w.heap.size [.int .i64 lo,.int .i64 hi]:=hR.step rfl;replace hs1:w.heap.size < V0.drew.heap.size:=hs1
 obtain ⟨V,hV⟩:∃ V,V0.drew=V:=⟨_,rfl⟩
 rw[hV] at hal hR hs1 ⊢;clear hV;have d0:V.cell? ⟨b,0,none⟩=some (.string p.s):=(hal.cell (p:=⟨b,0,none⟩) hb).trans h0;have d1:=hR.at 0 _ rfl;have d2:=hR.at 1 _ rfl;simp only[List.take_succ_cons,List.take_zero,List.drop_succ_cons,List.drop_zero]
 repeat still_step
 refine wpStill_nil ?_;have HB1:=bR hal;have HR1:=bR hR;clear hal hR d0 d1 d2 h0;go_wp2_with fail
 refine (cl V).mono ?_;rintro e w2 ⟨rfl,hb2⟩;have HB2:=bR (below_step HB1.out hb2);have HR2:=bR (HR1.out.below hb2 hs1);have hs2:=Nat.lt_of_lt_of_le hs1 hb2.size;have HP2:=bR (HP.out.below HB2.out);have HS2:=bR (HS.out.below (HB0.out.trans (HB2.out.mono HB0.out.size)));have d1:=HR2.out.at 0 _ rfl;have d2:=HR2.out.at 1 _ rfl;have hI:=bR (HP.out.new_ne (Nat.le_refl _));clear hb2 cl;go_wp2_with fail
 go_ret;exact ⟨rfl,HB2.out⟩
end
end Go.Proofs.YtmgdbpjidkdegaaGreatDoor.Path
namespace Go.Proofs.YtmgdbpjidkdegaaGreatDoor.Path
open Go.RowKit Go.WideMaps Go.Proofs.YtmgdbpjidkdegaaGreatDoorW.PrintWords Go.Proofs.YtmgdbpjidkdegaaGreatDoor.Base
structure Env where
 lang:ByteArray→Bool
 dis:ByteArray→Bool
 fmt:ByteArray→ByteArray→Bool
 cont:ByteArray→Bool
def envOf (st:SiteV):Env:=⟨listed st.langs,listed st.dis,fmtAsk st.fmts,listed st.cont⟩
def isLay (comp:ByteArray):Bool:=comp.toList==[108,97,121,111,117,116,115]
def isKind (s:ByteArray):Bool:=isKindL (Lib.toLowerA (L s))
def prefLang:ByteArray:=⟨#[108,97,110,103,117,97,103,101,95]⟩
def prefVersion:ByteArray:=⟨#[118,101,114,115,105,111,110,95]⟩
def prefRole:ByteArray:=⟨#[114,111,108,101,95]⟩
def prefFmt:ByteArray:=⟨#[111,117,116,112,117,116,102,111,114,109,97,116,95]⟩
def prefKind:ByteArray:=⟨#[107,105,110,100,95]⟩
def prefLayout:ByteArray:=⟨#[108,97,121,111,117,116,95]⟩
def mApply (E:Env) (lay:Bool) (p:PathV) (pre:ByteArray) (x:Int×Int) (v:ByteArray):Option PathV :=
 if pre=prefLang then
  if E.lang v then some { p with known:=p.known++[x],plangs:=p.plangs++[(p.known.length:Int)] }
  else if E.dis v then some { p with known:=p.known++[x],plangs:=p.plangs++[(p.known.length:Int)],dis:=true } else none
 else if pre=prefFmt then if lay && E.fmt v ⟨#[]⟩ then some { p with known:=p.known++[x],pfmt:=p.known.length } else none
 else if pre=prefKind then if lay && isKind v then some { p with known:=p.known++[x],pkind:=p.known.length } else none
 else if pre=prefLayout then if lay then some { p with known:=p.known++[x],play:=p.known.length } else none
 else none
theorem prefOf_cases (s:ByteArray):prefOf s=⟨#[]⟩∨prefOf s=prefLang∨prefOf s=prefVersion∨prefOf s=prefRole∨prefOf s=prefFmt∨prefOf s=prefKind∨prefOf s=prefLayout:=by
 unfold prefOf prefs;simp only[prefIn]
 repeat' split
 all_goals simp[prefLang,prefVersion,prefRole,prefFmt,prefKind,prefLayout]
section
variable {w0 w:World} {b:Nat} {p:PathV} {vk vu vl u:Value} {pb mb sb fb:Nat} {st:SiteV} {sl sd sf sc:Value}
theorem apply_calls (S:ParserAt w0 pb st sl sd sf sc mb sb fb) (OS:SiteOk st) (hB:Below w0.heap.size w0 w) (H:PathAt w w0.heap.size b p vk vu vl u) (osz:p.s.size≤1000000) (okl:p.known.length≤1000000) (oll:p.plangs.length≤1000000) (comp:ByteArray) (lo hi:Nat) (q1:lo≤hi) (q2:hi≤p.s.size) (hasc:asc (p.s.extract lo hi))
 (pre:ByteArray) (hpre:pre=prefLang∨pre=prefVersion∨pre=prefRole∨pre=prefFmt∨pre=prefKind∨pre=prefLayout) :
 Calls Tryz.prog 174 #[.pointer (some ⟨pb,0,none⟩),.string comp,.string pre,.pointer (some ⟨b,0,none⟩),.agg #[.int .i64 lo,.int .i64 hi]] w fun e w' =>
  match mApply (envOf st) (isLay comp) p pre ((lo:Int),(hi:Int)) (lowS (p.s.extract lo hi)) with
  | some p'=>e = .returned (.bool true)∧∃ vk' vl',PathAt w' w0.heap.size b p' vk' vu vl' u∧Moved w w' b vk vu vl vk' vu vl'
  | none=>e = .returned (.bool false)∧Below w.heap.size w w':=by
 rcases hpre with rfl | rfl | rfl | rfl | rfl | rfl
 ·rw[mApply,if_pos rfl]
  cases h1:(envOf st).lang (lowS (p.s.extract lo hi)) with
  | true=>exact apply_lang_has S OS hB H osz okl oll comp lo hi q1 q2 hasc h1
  | false =>
   cases h2:(envOf st).dis (lowS (p.s.extract lo hi)) with
   | true=>exact apply_lang_dis S OS hB H osz okl oll comp lo hi q1 q2 hasc h1 h2
   | false=>exact apply_lang_no S OS hB H osz okl oll comp lo hi q1 q2 hasc h1 h2
 ·exact apply_version S OS hB H osz okl oll comp lo hi q1 q2 hasc
 ·exact apply_role S OS hB H osz okl oll comp lo hi q1 q2 hasc
 ·rw[mApply,if_neg bG,if_pos rfl]
  cases h0:isLay comp with
  | false=>exact apply_fmt_comp S OS hB H osz okl oll comp lo hi q1 q2 hasc h0
  | true =>
   cases h1:(envOf st).fmt (lowS (p.s.extract lo hi)) ⟨#[]⟩ with
   | true=>exact apply_fmt S OS hB H osz okl oll comp lo hi q1 q2 hasc h0 h1
   | false=>exact apply_fmt_no S OS hB H osz okl oll comp lo hi q1 q2 hasc h0 h1
 ·rw[mApply,if_neg bG,if_neg bG,if_pos rfl]
  cases h0:isLay comp with
  | false=>exact apply_kind_comp S OS hB H osz okl oll comp lo hi q1 q2 hasc h0
  | true =>
   cases h1:isKind (lowS (p.s.extract lo hi)) with
   | true=>exact apply_kind S OS hB H osz okl oll comp lo hi q1 q2 hasc h0 h1
   | false=>exact apply_kind_no S OS hB H osz okl oll comp lo hi q1 q2 hasc h0 h1
 ·rw[mApply,if_neg bG,if_neg bG,if_neg bG,if_pos rfl]
  cases h0:isLay comp with
  | false=>exact apply_layout_comp S OS hB H osz okl oll comp lo hi q1 q2 hasc h0
  | true=>exact apply_layout S OS hB H osz okl oll comp lo hi q1 q2 hasc h0
end
end Go.Proofs.YtmgdbpjidkdegaaGreatDoor.Path
namespace Go.Proofs.YtmgdbpjidkdegaaGreatDoor.Path
open Go.RowKit Go.Proofs.YtmgdbpjidkdegaaGreatDoorW.PrintWords Go.Proofs.YtmgdbpjidkdegaaGreatDoor.Base
section
variable {w:World} {B b:Nat} {p:PathV} {vk vu vl u:Value}
def mHigh (p:PathV) (bun:Bool):Int:=if (if bun then p.cHigh - 1 else p.nHigh)=0 then 1 else (if bun then p.cHigh - 1 else p.nHigh)
def mBase0 (p:PathV) (pres bun:Bool):ByteArray :=
 match p.known with
 | []=>nrm p.trim p.s
 | k0::rest=>if pres=true∧rest=[] then nrm p.trim p.s else
  if pres then nrm p.trim (sub p.s 0 (mHigh p bun)++sub p.s (k0.1 - 1) k0.2) else nrm p.trim (sub p.s 0 (mHigh p bun))
theorem base_plain (H:PathAt w B b p vk vu vl u) (pres bun:Bool) (hk:p.known=[]∨(pres=true∧p.known.length=1)) :
 Calls Tryz.prog 117 #[.pointer (some ⟨b,0,none⟩),.bool pres,.bool bun] w fun e w'=>e = .returned (.string (nrm p.trim p.s))∧Below w.heap.size w w':=by
 have h0:=H.row.at 0 _ rfl;have h6:=H.row.at 6 _ rfl;obtain ⟨A,c,hv⟩:=own_slice H.ok;rw[hv] at h6;have cn:=norm_calls H p.s;rcases hk with hk | ⟨rfl,hk⟩
 ·rw[hk] at h6;have h6' : w.cell? ⟨b,6,none⟩=some (.slice A 0 c):=h6;clear hv H hk h6;go_enter Tryz.func117,Tryz.ntmps117;go_wp2_with fail
  (with_reducible refine cn.mono ?_)
  rintro e w' ⟨rfl,rfl⟩;go_wp2_with fail
  go_ret;exact ⟨rfl,Below.refl _ _⟩
 ·rw[hk] at h6;clear hv H hk;go_enter Tryz.func117,Tryz.ntmps117;go_wp2_with fail
  (with_reducible refine cn.mono ?_)
  rintro e w' ⟨rfl,rfl⟩;go_wp2_with fail
  go_ret;exact ⟨rfl,Below.refl _ _⟩
theorem high_nat (O:PathOk p) (bun:Bool):∃ h:Nat,mHigh p bun=h∧h≤p.s.size:=by
 obtain ⟨o2,o3⟩:=O.ch;obtain ⟨o4,o5,o6⟩:=O.na;cases bun
 ·by_cases c:p.nHigh=0
  ·exact ⟨1,by unfold mHigh;simp[c],by omega⟩
  ·exact ⟨p.nHigh.toNat,by unfold mHigh;simp[c];omega,by omega⟩
 ·by_cases c:p.cHigh - 1=0
  ·exact ⟨1,by unfold mHigh;simp[c],by omega⟩
  ·exact ⟨(p.cHigh - 1).toNat,by unfold mHigh;simp[c];omega,by omega⟩
set_option maxRecDepth 100000 in
set_option maxHeartbeats 800000 in
theorem base_cut (H:PathAt w B b p vk vu vl u) (O:PathOk p) (bun:Bool) (hk:p.known≠[]) :
 Calls Tryz.prog 117 #[.pointer (some ⟨b,0,none⟩),.bool false,.bool bun] w fun e w'=>e = .returned (.string (nrm p.trim (sub p.s 0 (mHigh p bun))))∧Below w.heap.size w w':=by
 have h0:=H.row.at 0 _ rfl;have h2:=H.row.at 2 _ rfl;have h6:=H.row.at 6 _ rfl;obtain ⟨A,c,hv⟩:=own_slice H.ok;rw[hv] at h6;obtain ⟨h,hh,hle⟩:=high_nat O bun;have HE:=bR (show sub p.s 0 (mHigh p bun)=p.s.extract 0 h by rw[hh];rfl);have hlen:((p.known.length:Int)==0)=false:=beq_eq_false_iff_ne.2 (by have:=List.length_pos_iff.2 hk;omega);obtain ⟨o2,o3⟩:=O.ch;obtain ⟨o4,o5,o6⟩:=O.na;have o1:=O.sz;have HH:=bR H;have cl:=nameLowHigh_calls H;have hf:∀ (m n:Int) (W:World),(Instr.field 90 (.agg #[.int .i64 m,.int .i64 n]) 1).run Tryz.prog W = .ok (.int .i64 n) W:=fun _ _ _=>by kernel_rfl
 cases bun
 ·have hhn:(if p.nHigh=0 then 1 else p.nHigh)=(h:Int):=by rw[← hh];unfold mHigh;simp
  clear hh hv H O h2
  by_cases z:p.nHigh=0
  ·rw[if_pos z] at hhn;have h1:h=1:=by omega
   subst h1;rw[z] at cl;clear z hhn;have hle2:(1:Int)≤p.s.size:=by omega
   go_enter Tryz.func117,Tryz.ntmps117;go_wp2_with fail
   (with_reducible refine cl.mono ?_)
   rintro e w1 ⟨rfl,hd⟩;have HD:=bR hd;have h0:=(HH.out.below hd).row.at 0 _ rfl;clear hd;go_wp2_with fail
   (with_reducible refine (norm_calls (HH.out.below HD.out) _).mono ?_)
   rintro e w' ⟨rfl,rfl⟩;go_wp2_with fail
   go_ret;exact ⟨by rw[HE.out];rfl,HD.out⟩
  ·rw[if_neg z] at hhn;rw[hhn] at cl z;clear hhn;have z2:((h:Int)==0)=false:=beq_eq_false_iff_ne.2 z;have hle2:(h:Int)≤p.s.size:=by omega
   clear z;go_enter Tryz.func117,Tryz.ntmps117;go_wp2_with fail
   (with_reducible refine cl.mono ?_)
   rintro e w1 ⟨rfl,hd⟩;have HD:=bR hd;have h0:=(HH.out.below hd).row.at 0 _ rfl;clear hd;go_wp2_with fail
   (with_reducible refine (norm_calls (HH.out.below HD.out) _).mono ?_)
   rintro e w' ⟨rfl,rfl⟩;go_wp2_with fail
   go_ret;exact ⟨by rw[HE.out];rfl,HD.out⟩
 ·have hhn:(if p.cHigh - 1=0 then 1 else p.cHigh - 1)=(h:Int):=by rw[← hh];unfold mHigh;simp
  clear hh hv H O cl
  by_cases z:p.cHigh - 1=0
  ·rw[if_pos z] at hhn;have h1:h=1:=by omega
   subst h1;have z1:p.cHigh=1:=by omega
   rw[z1] at h2;clear z hhn z1;have hle2:(1:Int)≤p.s.size:=by omega
   go_enter Tryz.func117,Tryz.ntmps117;go_wp2_with fail
   (with_reducible refine (norm_calls HH.out _).mono ?_)
   rintro e w' ⟨rfl,rfl⟩;go_wp2_with fail
   go_ret;exact ⟨by rw[HE.out];rfl,Below.refl _ _⟩
  ·rw[if_neg z] at hhn;have z1:p.cHigh=(h:Int)+1:=by omega
   rw[z1] at h2;have z2:((h:Int)==0)=false:=beq_eq_false_iff_ne.2 bA;have hle2:(h:Int)≤p.s.size:=by omega
   clear z hhn z1;go_enter Tryz.func117,Tryz.ntmps117;go_wp2_with fail
   (with_reducible refine (norm_calls HH.out _).mono ?_)
   rintro e w' ⟨rfl,rfl⟩;go_wp2_with fail
   go_ret;exact ⟨by rw[HE.out];rfl,Below.refl _ _⟩
set_option maxRecDepth 100000 in
set_option maxHeartbeats 800000 in
theorem base_ext (H:PathAt w B b p vk vu vl u) (O:PathOk p) (bun:Bool) (k0:Int×Int) (hk0:p.known[0]? = some k0) (hk:2≤p.known.length) :
 Calls Tryz.prog 117 #[.pointer (some ⟨b,0,none⟩),.bool true,.bool bun] w fun e w'=>e = .returned (.string (nrm p.trim (sub p.s 0 (mHigh p bun)++sub p.s (k0.1 - 1) k0.2)))∧Below w.heap.size w w':=by
 have h0:=H.row.at 0 _ rfl;have h2:=H.row.at 2 _ rfl;have h6:=H.row.at 6 _ rfl;obtain ⟨q1,q2,q3⟩:=O.kn k0 (List.mem_of_getElem? hk0);obtain ⟨lo,hlo⟩:=Int.eq_ofNat_of_zero_le (show 0≤k0.1 by omega);obtain ⟨hi,hhi⟩:=Int.eq_ofNat_of_zero_le (show 0≤k0.2 by omega);obtain ⟨g,cp,hv,k1,k2⟩:=H.knownAt 0 k0 hk0;rw[hv] at h6;rw[hlo] at k1 q1 q2;rw[hhi] at k2 q2 q3;have hb:=H.lt;have hg:g < w.heap.size:=World.block_lt_of_cell? w ⟨g,0 * 2,none⟩ k1;have k1' : w.cell? ⟨g,0,none⟩=some (.int .i64 lo):=k1;have k2' : w.cell? ⟨g,1,none⟩=some (.int .i64 hi):=k2;obtain ⟨h,hh,hle⟩:=high_nat O bun;have o1:=O.sz;have hlow:((lo - 1:Nat):Int)=(lo:Int) - 1:=by omega
 have HE:=bR (show sub p.s 0 (mHigh p bun)++sub p.s (k0.1 - 1) k0.2=p.s.extract 0 h++p.s.extract (lo - 1) hi by rw[hh,hlo,hhi,← hlow];rfl);have hlen:((p.known.length:Int)==0)=false:=beq_eq_false_iff_ne.2 bA;have hlen1:((p.known.length:Int)==1)=false:=beq_eq_false_iff_ne.2 bA;have hlen0:0 < p.known.length:=by omega
 have hyc:IntKind.i64.wrap ((lo:Int) - 1)=((lo - 1:Nat):Int):=by rw[IntWalk.i64_in _ bA];omega
 have r1:((lo - 1:Nat):Int)≤(hi:Int):=by omega
 have hsum:(p.s.extract 0 h).size+(p.s.extract (lo - 1) hi).size≤9223372036854775807:=by
  have l1:=extract_le p.s 0 h;have l2:=extract_le p.s (lo - 1) hi;omega
 obtain ⟨o2,o3⟩:=O.ch;obtain ⟨o4,o5,o6⟩:=O.na;have hf:∀ (m n:Int) (W:World),(Instr.field 90 (.agg #[.int .i64 m,.int .i64 n]) 1).run Tryz.prog W = .ok (.int .i64 n) W:=fun _ _ _=>by kernel_rfl
 have HH:=bR H;have cl:=nameLowHigh_calls H;cases bun
 ·have hhn:(if p.nHigh=0 then 1 else p.nHigh)=(h:Int):=by rw[← hh];unfold mHigh;simp
  clear hh hv H O h2 hlow k1 k2 hk0
  by_cases z:p.nHigh=0
  ·rw[if_pos z] at hhn;have h1:h=1:=by omega
   subst h1;rw[z] at cl;clear z hhn;have hle2:(1:Int)≤p.s.size:=by omega
   go_enter Tryz.func117,Tryz.ntmps117;go_wp2_with fail
   (with_reducible refine cl.mono ?_)
   rintro e w1 ⟨rfl,hd⟩;have HD:=bR hd;have h0:=(HH.out.below hd).row.at 0 _ rfl;have h6:=(hd.cell (p:=⟨b,6,none⟩) hb).trans h6;have k1:=(hd.cell (p:=⟨g,0,none⟩) hg).trans k1';have k2:=(hd.cell (p:=⟨g,1,none⟩) hg).trans k2';have hb1:=(HH.out.below hd).lt;have hg1:g < w1.heap.size:=Nat.lt_of_lt_of_le hg hd.size;clear hd;go_wp2_with fail
   go_quiet ((go_at_call 114;exact Calls.quiet_of_same (norm_calls (((HH.out.below HD.out).alloc _).drewN _) _)))
   go_wp2_with fail
   go_ret;exact ⟨by rw[HE.out];rfl,below_step (HD.out.alloc HD.out.size _) (Drawn0.below ⟨⟨_,rfl⟩⟩)⟩
  ·rw[if_neg z] at hhn;rw[hhn] at cl z;clear hhn;have z2:((h:Int)==0)=false:=beq_eq_false_iff_ne.2 z;have hle2:(h:Int)≤p.s.size:=by omega
   clear z;go_enter Tryz.func117,Tryz.ntmps117;go_wp2_with fail
   (with_reducible refine cl.mono ?_)
   rintro e w1 ⟨rfl,hd⟩;have HD:=bR hd;have h0:=(HH.out.below hd).row.at 0 _ rfl;have h6:=(hd.cell (p:=⟨b,6,none⟩) hb).trans h6;have k1:=(hd.cell (p:=⟨g,0,none⟩) hg).trans k1';have k2:=(hd.cell (p:=⟨g,1,none⟩) hg).trans k2';have hb1:=(HH.out.below hd).lt;have hg1:g < w1.heap.size:=Nat.lt_of_lt_of_le hg hd.size;clear hd;go_wp2_with fail
   go_quiet ((go_at_call 114;exact Calls.quiet_of_same (norm_calls (((HH.out.below HD.out).alloc _).drewN _) _)))
   go_wp2_with fail
   go_ret;exact ⟨by rw[HE.out];rfl,below_step (HD.out.alloc HD.out.size _) (Drawn0.below ⟨⟨_,rfl⟩⟩)⟩
 ·have hhn:(if p.cHigh - 1=0 then 1 else p.cHigh - 1)=(h:Int):=by rw[← hh];unfold mHigh;simp
  clear hh hv H O cl hlow k1 k2 hk0
  by_cases z:p.cHigh - 1=0
  ·rw[if_pos z] at hhn;have h1:h=1:=by omega
   subst h1;have z1:p.cHigh=1:=by omega
   rw[z1] at h2;clear z hhn z1;have hle2:(1:Int)≤p.s.size:=by omega
   go_enter Tryz.func117,Tryz.ntmps117;go_wp2_with fail
   go_quiet ((go_at_call 114;exact Calls.quiet_of_same (norm_calls ((HH.out.alloc _).drewN _) _)))
   go_wp2_with fail
   go_ret;exact ⟨by rw[HE.out];rfl,below_step ((Below.refl _ _).alloc (Nat.le_refl _) _) (Drawn0.below ⟨⟨_,rfl⟩⟩)⟩
  ·rw[if_neg z] at hhn;have z1:p.cHigh=(h:Int)+1:=by omega
   rw[z1] at h2;have z2:((h:Int)==0)=false:=beq_eq_false_iff_ne.2 bA;have hle2:(h:Int)≤p.s.size:=by omega
   clear z hhn z1;go_enter Tryz.func117,Tryz.ntmps117;go_wp2_with fail
   go_quiet ((go_at_call 114;exact Calls.quiet_of_same (norm_calls ((HH.out.alloc _).drewN _) _)))
   go_wp2_with fail
   go_ret;exact ⟨by rw[HE.out];rfl,below_step ((Below.refl _ _).alloc (Nat.le_refl _) _) (Drawn0.below ⟨⟨_,rfl⟩⟩)⟩
theorem base_calls (H:PathAt w B b p vk vu vl u) (O:PathOk p) (pres bun:Bool) :
 Calls Tryz.prog 117 #[.pointer (some ⟨b,0,none⟩),.bool pres,.bool bun] w fun e w'=>e = .returned (.string (mBase0 p pres bun))∧Below w.heap.size w w':=by
 cases hk:p.known with
 | nil =>
  have e:mBase0 p pres bun=nrm p.trim p.s:=by unfold mBase0;rw[hk]
  rw[e];exact base_plain H pres bun (.inl hk)
 | cons k0 r =>
  by_cases c:pres=true∧r=[]
  ·have e:mBase0 p pres bun=nrm p.trim p.s:=by unfold mBase0;rw[hk];simp only[if_pos c]
   rw[e];exact base_plain H pres bun (.inr ⟨c.1,by rw[hk,c.2];rfl⟩)
  ·cases pres with
   | false =>
    have e:mBase0 p false bun=nrm p.trim (sub p.s 0 (mHigh p bun)):=by unfold mBase0;rw[hk];simp
    rw[e];exact base_cut H O bun (by rw[hk];simp)
   | true =>
    have hr:r≠[]:=fun h=>c ⟨rfl,h⟩;have e:mBase0 p true bun=nrm p.trim (sub p.s 0 (mHigh p bun)++sub p.s (k0.1 - 1) k0.2):=by unfold mBase0;rw[hk];simp[hr]
    rw[e];exact base_ext H O bun k0 (by rw[hk];rfl) (by rw[hk];have:=List.length_pos_iff.2 hr;simp;omega)
def mBase (p:PathV):ByteArray :=
 if (mBase0 p (!decide (2≤p.typ∧p.typ≤5)) (decide (3≤p.typ∧p.typ≤5))).toList=[47]∧(2≤p.typ∧p.typ≤5) then ByteArray.empty else mBase0 p (!decide (2≤p.typ∧p.typ≤5)) (decide (3≤p.typ∧p.typ≤5))
theorem Base_calls (H:PathAt w B b p vk vu vl u) (O:PathOk p):Calls Tryz.prog 87 #[.pointer (some ⟨b,0,none⟩)] w fun e w'=>e = .returned (.string (mBase p))∧Below w.heap.size w w':=by
 have c1:=isContentPage_calls H;have c2:=IsBundle_calls H;unfold mBase
 obtain ⟨pg,hpg⟩:∃ x,decide (2≤p.typ∧p.typ≤5)=x:=⟨_,rfl⟩
 obtain ⟨bn,hbn⟩:∃ x,decide (3≤p.typ∧p.typ≤5)=x:=⟨_,rfl⟩
 rw[hpg,hbn];rw[hpg] at c1;rw[hbn] at c2;have c3:=base_calls H O (!pg) bn
 obtain ⟨s,hs⟩:∃ s,mBase0 p (!pg) bn=s:=⟨_,rfl⟩
 rw[hs] at c3 ⊢;have HH:=bR H;clear hs hbn H O;have hpg':=hpg
 by_cases q:s.toList=[47]
 ·have qb:(s.toList==[47])=true:=beq_iff_eq.2 q
  cases pg with
  | true =>
   simp only[Bool.not_true] at c3;rw[if_pos ⟨q,of_decide_eq_true hpg⟩];clear q hpg;go_enter Tryz.func87,Tryz.ntmps87;go_wp2_with fail
   (with_reducible refine c1.mono ?_)
   rintro e w' ⟨rfl,rfl⟩;go_wp2_with fail
   (with_reducible refine c2.mono ?_)
   rintro e w' ⟨rfl,rfl⟩;go_wp2_with fail
   (with_reducible refine c3.mono ?_)
   rintro e w' ⟨rfl,hd⟩;have c4:=isContentPage_calls (HH.out.below hd);rw[hpg'] at c4;have HD:=bR hd;clear hd hpg';go_wp2_with fail
   (with_reducible refine c4.mono ?_)
   rintro e w' ⟨rfl,rfl⟩;go_wp2_with fail
   go_ret;exact ⟨rfl,HD.out⟩
  | false =>
   simp only[Bool.not_false] at c3;rw[if_neg (fun h=>of_decide_eq_false hpg h.2)];clear q hpg;go_enter Tryz.func87,Tryz.ntmps87;go_wp2_with fail
   (with_reducible refine c1.mono ?_)
   rintro e w' ⟨rfl,rfl⟩;go_wp2_with fail
   (with_reducible refine c2.mono ?_)
   rintro e w' ⟨rfl,rfl⟩;go_wp2_with fail
   (with_reducible refine c3.mono ?_)
   rintro e w' ⟨rfl,hd⟩;have c4:=isContentPage_calls (HH.out.below hd);rw[hpg'] at c4;have HD:=bR hd;clear hd hpg';go_wp2_with fail
   (with_reducible refine c4.mono ?_)
   rintro e w' ⟨rfl,rfl⟩;go_wp2_with fail
   go_ret;exact ⟨rfl,HD.out⟩
 ·have qb:(s.toList==[47])=false:=beq_eq_false_iff_ne.2 q;rw[if_neg (fun h=>q h.1)]
  cases pg with
  | true =>
   simp only[Bool.not_true] at c3;clear q hpg;go_enter Tryz.func87,Tryz.ntmps87;go_wp2_with fail
   (with_reducible refine c1.mono ?_)
   rintro e w' ⟨rfl,rfl⟩;go_wp2_with fail
   (with_reducible refine c2.mono ?_)
   rintro e w' ⟨rfl,rfl⟩;go_wp2_with fail
   (with_reducible refine c3.mono ?_)
   rintro e w' ⟨rfl,hd⟩;have c4:=isContentPage_calls (HH.out.below hd);rw[hpg'] at c4;have HD:=bR hd;clear hd hpg';go_wp2_with fail
   go_ret;exact ⟨rfl,HD.out⟩
  | false =>
   simp only[Bool.not_false] at c3;clear q hpg;go_enter Tryz.func87,Tryz.ntmps87;go_wp2_with fail
   (with_reducible refine c1.mono ?_)
   rintro e w' ⟨rfl,rfl⟩;go_wp2_with fail
   (with_reducible refine c2.mono ?_)
   rintro e w' ⟨rfl,rfl⟩;go_wp2_with fail
   (with_reducible refine c3.mono ?_)
   rintro e w' ⟨rfl,hd⟩;have c4:=isContentPage_calls (HH.out.below hd);rw[hpg'] at c4;have HD:=bR hd;clear hd hpg';go_wp2_with fail
   go_ret;exact ⟨rfl,HD.out⟩
end
end Go.Proofs.YtmgdbpjidkdegaaGreatDoor.Path
