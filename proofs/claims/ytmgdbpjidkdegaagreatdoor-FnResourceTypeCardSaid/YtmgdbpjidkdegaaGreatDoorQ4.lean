/- Texts that the law leans on: Apply1. Condition: as told at each. -/
import Derived.StillTailTactics
import Derived.Test.YtmgdbpjidkdegaaGreatDoorQa
import Derived.Test.YtmgdbpjidkdegaaGreatDoorQ3
set_option linter.unusedVariables false
set_option linter.unusedSimpArgs false
set_option linter.unusedSimpArgs false
set_option linter.unusedVariables false
namespace Go.Proofs.YtmgdbpjidkdegaaGreatDoor.Path
open Go.RowKit Go.WideMaps Go.Proofs.YtmgdbpjidkdegaaGreatDoorW.PrintWords Go.Proofs.YtmgdbpjidkdegaaGreatDoorW.PrintLast Go.Proofs.YtmgdbpjidkdegaaGreatDoor.Base
section
variable {w0 w:World} {b:Nat} {p:PathV} {vk vu vl u:Value} {pb mb sb fb:Nat} {st:SiteV} {sl sd sf sc:Value}
set_option maxRecDepth 100000 in
set_option maxHeartbeats 4000000 in
theorem apply_lang_has (S:ParserAt w0 pb st sl sd sf sc mb sb fb) (OS:SiteOk st) (hB:Below w0.heap.size w0 w) (H:PathAt w w0.heap.size b p vk vu vl u) (osz:p.s.size≤1000000) (okl:p.known.length≤1000000) (oll:p.plangs.length≤1000000) (comp:ByteArray) (lo hi:Nat) (q1:lo≤hi) (q2:hi≤p.s.size) (hasc:asc (p.s.extract lo hi)) (hh:listed st.langs (lowS (p.s.extract lo hi))=true) :
 Calls Tryz.prog 174 #[.pointer (some ⟨pb,0,none⟩),.string comp,.string ⟨#[108,97,110,103,117,97,103,101,95]⟩,.pointer (some ⟨b,0,none⟩),.agg #[.int .i64 lo,.int .i64 hi]] w fun e w' =>
  e = .returned (.bool true)∧∃ vk' vl',PathAt w' w0.heap.size b { p with known:=p.known++[((lo:Int),(hi:Int))],plangs:=p.plangs++[(p.known.length:Int)] } vk' vu vl' u∧Moved w w' b vk vu vl vk' vu vl':=by
 obtain ⟨n,D,hM,hD⟩:=S.map;have HM:=bR hM;have HD:=bR hD;clear hM hD;have HP:=bR H;have hb:=H.lt;have HS:=bR S;have HB0:=bR hB;have hsz:(p.s.extract lo hi).size≤1000000:=Nat.le_trans (extract_le _ _ _) osz;have cl:=fun W=>Tryz.strings_ToLower_ascii (p.s.extract lo hi) W bA hasc
 obtain ⟨x,hx⟩:∃ x,lowS (p.s.extract lo hi)=x:=⟨_,rfl⟩
 rw[show (⟨(Lib.toLowerA (p.s.extract lo hi).data.toList).toArray⟩:ByteArray)=x from hx] at cl;have hxz:x.size≤1000000:=by rw[← hx,lowS_size];exact hsz
 have HX:=bR hx;have h0:=H.row.at 0 _ rfl;have mne:=map_ne mb;clear H S hB hasc hx;go_enter Tryz.func174,Tryz.ntmps174;go_upto_region 1 with fail
 have hal:Below w.heap.size w (w.alloc (.cells #[.int .i64 lo,.int .i64 hi] 90)):=(Below.refl _ _).alloc (Nat.le_refl _) _;have hR:=Row.new w [.int .i64 lo,.int .i64 hi] 90;have hs1:w.heap.size < (w.alloc (.cells #[.int .i64 lo,.int .i64 hi] 90)).heap.size:=by simp
 obtain ⟨V0,hV0⟩:∃ V0,w.alloc (.cells #[.int .i64 lo,.int .i64 hi] 90)=V0:=⟨_,rfl⟩
 replace hR:Row V0 w.heap.size [.int .i64 lo,.int .i64 hi]:=hV0▸hR;rw[hV0] at hal hs1 ⊢;clear hV0;refine wp_region_still_tail 9 bB bB ?_;change wpStill _ _ V0.drew (fun a'=>wpList _ _ _ _ a' V0.drew) _ _;replace hal:=hal.drew;replace hR:Row V0.drew w.heap.size [.int .i64 lo,.int .i64 hi]:=hR.step rfl;replace hs1:w.heap.size < V0.drew.heap.size:=hs1
 obtain ⟨V,hV⟩:∃ V,V0.drew=V:=⟨_,rfl⟩
 rw[hV] at hal hR hs1 ⊢;clear hV;have d0:V.cell? ⟨b,0,none⟩=some (.string p.s):=(hal.cell (p:=⟨b,0,none⟩) hb).trans h0;have d1:=hR.at 0 _ rfl;have d2:=hR.at 1 _ rfl;simp only[List.take_succ_cons,List.take_zero,List.drop_succ_cons,List.drop_zero]
 repeat still_step
 refine wpStill_nil ?_;have HB1:=bR hal;have HR1:=bR hR;clear hal hR d0 d1 d2 h0;go_wp2_with fail
 refine (cl V).mono ?_;rintro e w2 ⟨rfl,hb2⟩;have HB2:=bR (below_step HB1.out hb2);have HR2:=bR (HR1.out.below hb2 hs1);have hs2:=Nat.lt_of_lt_of_le hs1 hb2.size;have HP2:=bR (HP.out.below HB2.out);have HS2:=bR (HS.out.below (HB0.out.trans (HB2.out.mono HB0.out.size)));have d1:=HR2.out.at 0 _ rfl;have d2:=HR2.out.at 1 _ rfl;have hI:=bR (HP.out.new_ne (Nat.le_refl _));clear hb2 cl;have s0:=HS2.out.row.at 0 _ rfl;have hown:=HM.out.kept (row:=none) ⟨(HB0.out.trans (HB2.out.mono HB0.out.size)).os,(HB0.out.trans (HB2.out.mono HB0.out.size)).tape,(HB0.out.trans (HB2.out.mono HB0.out.size)).output,(HB0.out.trans (HB2.out.mono HB0.out.size)).size,fun k hk _=>(HB0.out.trans (HB2.out.mono HB0.out.size)).block k hk⟩ bI
 have hkey:=keyOf_string_mk (P:=Tryz.prog) (k:=9) Tryz.underlying9 (s:=x) bO;rw[HX.out] at hh;have hhx:Maps.has D (.string x.data.toList)=true:=(HD.out x).trans hh;clear hh
 go_upto_region 7 with (first
  | (at_lookup;refine wpList_lookup_own_ok_int _ rfl _ _ 77 rfl 9 3 .i64 law9 Tryz.underlying77 Tryz.underlying3 (zero3 _) mb n D rfl hown _ _ rfl hkey ?_;intro c hat hwc;rw[hhx];clear hat hwc hown hkey hhx)
  | fail)
 have qa_0:=HP2.out.row.at 6 _ rfl;have qa_f:=HP2.out.row.free 6 bF;have qa_b:=HP2.out.lt;have qa_B:w0.heap.size≤w2.heap.size:=Nat.le_trans HP2.out.base (Nat.le_of_lt qa_b);have qa_n:=bR HP2.out.nk;have qa_o:=bR HP2.out.ok;refine start_ (n:=11) (S:=fun w'=>w'.cell? ⟨b,6,none⟩=some vk∧w'.cell? ⟨w.heap.size,0,none⟩=some (.int .i64 lo)∧w'.cell? ⟨w.heap.size,1,none⟩=some (.int .i64 hi)) (ds:=[10]) #[false,false,false,false,false,false,false,false,false,false,false] bB rfl rfl ⟨qa_0,d1,d2⟩ (fun hHeld=>?_);refine pure_ (i:=0) (N:=some 42) (v:=?_) (a':=?_) #[true,false,false,false,false,false,false,false,false,false,false] rfl rfl bB (fun _ _ _ h=>h) (Or.inl ⟨by rfl,?_⟩) ?_ ?_;rotate_left
 ·intro w';go_simp
  with_reducible rfl
 rotate_left
 ·simp only[Act.put,bS,bT,bU,i64_w,i32_w];rfl
 refine pure_ (i:=1) (N:=some 43) (v:=?_) (a':=?_) #[true,true,false,false,false,false,false,false,false,false,false] rfl rfl bB (fun _ _ _ h=>h) (Or.inl ⟨by rfl,?_⟩) ?_ ?_;rotate_left
 ·intro w';go_simp
  with_reducible rfl
 rotate_left
 ·simp only[Act.put,bS,bT,bU,i64_w,i32_w];rfl
 refine pure_ (i:=2) (N:=some 44) (v:=?_) (a':=?_) #[true,true,true,false,false,false,false,false,false,false,false] rfl rfl bB (fun _ _ _ h=>h) (Or.inl ⟨by rfl,?_⟩) ?_ ?_;rotate_left
 ·intro w';go_simp
  with_reducible rfl
 rotate_left
 ·simp only[Act.put,bS,bT,bU,i64_w,i32_w];rfl
 refine pure_ (i:=3) (N:=some 45) (v:=?_) (a':=?_) #[true,true,true,true,false,false,false,false,false,false,false] rfl rfl bB (fun _ _ _ h=>h) (Or.inl ⟨by rfl,?_⟩) ?_ ?_;rotate_left
 ·intro w';go_simp
  with_reducible rfl
 rotate_left
 ·simp only[Act.put,bS,bT,bU,i64_w,i32_w];rfl
 refine take_ (i:=4) (N:=some 46) (v:=?_) (a':=?_) #[true,true,true,true,true,false,false,false,false,false,false] rfl rfl bB (fun _ _ _ h=>h) (Or.inl ⟨by rfl,?_⟩) hHeld ?_ ?_;rotate_left
 ·rintro w' ⟨s0,s1,s2⟩;go_simp
  with_reducible rfl
 rotate_left
 ·simp only[Act.put,bS,bT,bU,i64_w,i32_w];rfl
 refine take_ (i:=5) (N:=some 47) (v:=?_) (a':=?_) #[true,true,true,true,true,true,false,false,false,false,false] rfl rfl bB (fun _ _ _ h=>h) (Or.inl ⟨by rfl,?_⟩) hHeld ?_ ?_;rotate_left
 ·rintro w' ⟨s0,s1,s2⟩;go_simp
  with_reducible rfl
 rotate_left
 ·simp only[Act.put,bS,bT,bU,i64_w,i32_w];rfl
 refine one_ (i:=6) (N:=some 48) #[true,true,true,true,true,true,true,false,false,false,false] rfl rfl bB bG (fun K hK=>?_);refine value_ (w1:=?_) (v:=?_) bH rfl ?_ ?_;rotate_left 2
 ·go_simp;constructor
  ·rfl
  ·rfl
 have aa_h:Below w2.heap.size w2 (w2.drew.alloc (.cells ([.int .i64 lo,.int .i64 hi]:List Value).toArray 90)):=(Below.refl _ _).drew.alloc (Nat.le_refl _) _;refine hK.out _ _ ⟨((aa_h.cell (p:=⟨b,6,none⟩) (World.block_lt_of_cell? w2 ⟨b,6,none⟩ qa_0)).trans qa_0),((aa_h.cell (p:=⟨w.heap.size,0,none⟩) (World.block_lt_of_cell? w2 ⟨w.heap.size,0,none⟩ d1)).trans d1),((aa_h.cell (p:=⟨w.heap.size,1,none⟩) (World.block_lt_of_cell? w2 ⟨w.heap.size,1,none⟩ d2)).trans d2)⟩ (fun hHeld=>?_);clear hK K;refine norm_ (a':=?_) ?_ ?_;rotate_left
 ·show Act.put _ (some 48) _=_;simp only[Act.put,bS,bT,bU,i64_w,i32_w];rfl
 refine one_ (i:=7) (N:=some 49) #[true,true,true,true,true,true,true,true,false,false,false] rfl rfl bB bG (fun K hK=>?_);refine step_append_cells (w0:=w2) (W:=w2.drew) w0.heap.size bH (.tmp 46) (.tmp 48) 88 90 _ 2 16 bH Tryz.underlying88 info81 rfl bG bG vk p.known.length (pairs p.known) [.int .i64 lo,.int .i64 hi] bH bH bH bK qa_o.out ((Below.refl _ _).drew) qa_B bA ?_;intro va war oa bba ga ta;obtain ⟨Aa,ca,eva⟩:=own_slice oa;subst eva;have xa_0:=ga.cell (w:=w2.drew) (a:=⟨b,6,none⟩) qa_0 qa_n.out;have xa_f:=(World.frozen?_of_block (w:=w2.drew) (a:=⟨b,6,none⟩) (ga.block b qa_b qa_n.out)).trans qa_f;have xa_1:=ga.cell (w:=w2.drew) (a:=⟨w.heap.size,0,none⟩) d1 hI.out.2.1
 have xa_2:=ga.cell (w:=w2.drew) (a:=⟨w.heap.size,1,none⟩) d2 hI.out.2.1
 have gga:w2.grownBy war vk.ownBlock:=⟨ga.os,ga.tape,ga.output,ga.size,ga.block⟩
 obtain ⟨hpa,hma⟩:=known_step HP2.out (lo,hi) (w':=war) oa gga ta;have HPa:=bR hpa;have HMa:=bR hma;clear hpa hma oa bba ga gga ta;refine hK.out _ _ ⟨xa_0,xa_1,xa_2⟩ (fun hHeld=>?_);clear hK K;refine norm_ (a':=?_) ?_ ?_;rotate_left
 ·show Act.put _ (some 49) _=_;simp only[Act.put,bS,bT,bU,i64_w,i32_w];rfl
 refine pure_ (i:=8) (N:=some 50) (v:=?_) (a':=?_) #[true,true,true,true,true,true,true,true,true,false,false] rfl rfl bB (fun _ _ _ h=>h) (Or.inl ⟨by rfl,?_⟩) ?_ ?_;rotate_left
 ·intro w';go_simp
  with_reducible rfl
 rotate_left
 ·simp only[Act.put,bS,bT,bU,i64_w,i32_w];rfl
 refine pure_ (i:=9) (N:=some 51) (v:=?_) (a':=?_) #[true,true,true,true,true,true,true,true,true,true,false] rfl rfl bB (fun _ _ _ h=>h) (Or.inl ⟨by rfl,?_⟩) ?_ ?_;rotate_left
 ·intro w';go_simp
  with_reducible rfl
 rotate_left
 ·simp only[Act.put,bS,bT,bU,i64_w,i32_w];rfl
 refine last_ (i:=10) (N:=none) #[true,true,true,true,true,true,true,true,true,true,true] rfl rfl bB bG (fun K hK=>?_);refine skip_ (w1:=?_) bH rfl ?_ ?_;rotate_left
 ·go_simp;rfl
 refine hK.out _ _ ?_;clear hK K;refine done_ bB ?_;clear d1 d2 xa_0 xa_f xa_1 xa_2 qa_0 qa_f qa_b qa_B qa_n qa_o aa_h
 obtain ⟨Wa,hWa⟩:∃ W,war.setCell ⟨b,6,none⟩ (.slice Aa (p.known.length+1) ca)=W:=⟨_,rfl⟩
 replace HPa:Aside0 (PathAt Wa w0.heap.size b { p with known:=p.known++[((lo:Int),(hi:Int))] } (.slice Aa (p.known.length+1) ca) vu vl u):=hWa▸HPa;replace HMa:Aside0 (Moved w2 Wa b vk vu vl (.slice Aa (p.known.length+1) ca) vu vl):=hWa▸HMa;rw[hWa];clear hWa;have z4:IntKind.i64.wrap (p.known.length:Int)=(p.known.length:Int):=by rw[IntWalk.i64_in _ bA]
 have k6:=HPa.out.row.at 6 _ rfl;go_upto_region 8 with fail
 have qb_0:=HPa.out.row.at 14 _ rfl;have qb_f:=HPa.out.row.free 14 bF;have qb_b:=HPa.out.lt;have qb_B:w0.heap.size≤Wa.heap.size:=Nat.le_trans HPa.out.base (Nat.le_of_lt qb_b);have qb_n:=bR HPa.out.nl;have qb_o:=bR HPa.out.ol;refine start_ (n:=16) (S:=fun w'=>w'.cell? ⟨b,14,none⟩=some vl∧w'.cell? ⟨b,6,none⟩=some (.slice Aa (p.known.length+1) ca)) (ds:=[15]) #[false,false,false,false,false,false,false,false,false,false,false,false,false,false,false,false] bB rfl rfl ⟨qb_0,k6⟩ (fun hHeld=>?_);refine pure_ (i:=0) (N:=some 52) (v:=?_) (a':=?_) #[true,false,false,false,false,false,false,false,false,false,false,false,false,false,false,false] rfl rfl bB (fun _ _ _ h=>h) (Or.inl ⟨by rfl,?_⟩) ?_ ?_;rotate_left
 ·intro w';go_simp
  with_reducible rfl
 rotate_left
 ·simp only[Act.put,bS,bT,bU,i64_w,i32_w];rfl
 refine pure_ (i:=1) (N:=some 53) (v:=?_) (a':=?_) #[true,true,false,false,false,false,false,false,false,false,false,false,false,false,false,false] rfl rfl bB (fun _ _ _ h=>h) (Or.inl ⟨by rfl,?_⟩) ?_ ?_;rotate_left
 ·intro w';go_simp
  with_reducible rfl
 rotate_left
 ·simp only[Act.put,bS,bT,bU,i64_w,i32_w];rfl
 refine pure_ (i:=2) (N:=some 54) (v:=?_) (a':=?_) #[true,true,true,false,false,false,false,false,false,false,false,false,false,false,false,false] rfl rfl bB (fun _ _ _ h=>h) (Or.inl ⟨by rfl,?_⟩) ?_ ?_;rotate_left
 ·intro w';go_simp
  with_reducible rfl
 rotate_left
 ·simp only[Act.put,bS,bT,bU,i64_w,i32_w];rfl
 refine pure_ (i:=3) (N:=some 55) (v:=?_) (a':=?_) #[true,true,true,true,false,false,false,false,false,false,false,false,false,false,false,false] rfl rfl bB (fun _ _ _ h=>h) (Or.inl ⟨by rfl,?_⟩) ?_ ?_;rotate_left
 ·intro w';go_simp
  with_reducible rfl
 rotate_left
 ·simp only[Act.put,bS,bT,bU,i64_w,i32_w];rfl
 refine pure_ (i:=5) (N:=some 57) (v:=?_) (a':=?_) #[true,true,true,true,false,true,false,false,false,false,false,false,false,false,false,false] rfl rfl bB (fun _ _ _ h=>h) (Or.inl ⟨by rfl,?_⟩) ?_ ?_;rotate_left
 ·intro w';go_simp
  with_reducible rfl
 rotate_left
 ·simp only[Act.put,bS,bT,bU,i64_w,i32_w];rfl
 refine pure_ (i:=6) (N:=some 58) (v:=?_) (a':=?_) #[true,true,true,true,false,true,true,false,false,false,false,false,false,false,false,false] rfl rfl bB (fun _ _ _ h=>h) (Or.inl ⟨by rfl,?_⟩) ?_ ?_;rotate_left
 ·intro w';go_simp
  with_reducible rfl
 rotate_left
 ·simp only[Act.put,bS,bT,bU,i64_w,i32_w];rfl
 refine pure_ (i:=7) (N:=some 59) (v:=?_) (a':=?_) #[true,true,true,true,false,true,true,true,false,false,false,false,false,false,false,false] rfl rfl bB (fun _ _ _ h=>h) (Or.inl ⟨by rfl,?_⟩) ?_ ?_;rotate_left
 ·intro w';go_simp
  with_reducible rfl
 rotate_left
 ·simp only[Act.put,bS,bT,bU,i64_w,i32_w];rfl
 refine take_ (i:=4) (N:=some 56) (v:=?_) (a':=?_) #[true,true,true,true,true,true,true,true,false,false,false,false,false,false,false,false] rfl rfl bB (fun _ _ _ h=>h) (Or.inl ⟨by rfl,?_⟩) hHeld ?_ ?_;rotate_left
 ·rintro w' ⟨s0,s1⟩;go_simp
  with_reducible rfl
 rotate_left
 ·simp only[Act.put,bS,bT,bU,i64_w,i32_w];rfl
 refine take_ (i:=8) (N:=some 60) (v:=?_) (a':=?_) #[true,true,true,true,true,true,true,true,true,false,false,false,false,false,false,false] rfl rfl bB (fun _ _ _ h=>h) (Or.inl ⟨by rfl,?_⟩) hHeld ?_ ?_;rotate_left
 ·rintro w' ⟨s0,s1⟩;go_simp
  with_reducible rfl
 rotate_left
 ·simp only[Act.put,bS,bT,bU,i64_w,i32_w];rfl
 refine pure_ (i:=9) (N:=some 61) (v:=?_) (a':=?_) #[true,true,true,true,true,true,true,true,true,true,false,false,false,false,false,false] rfl rfl bB (fun _ _ _ h=>h) (Or.inl ⟨by rfl,?_⟩) ?_ ?_;rotate_left
 ·intro w';go_simp
  with_reducible rfl
 rotate_left
 ·simp only[Act.put,bS,bT,bU,i64_w,i32_w];rfl
 refine pure_ (i:=10) (N:=some 62) (v:=?_) (a':=?_) #[true,true,true,true,true,true,true,true,true,true,true,false,false,false,false,false] rfl rfl bB (fun _ _ _ h=>h) (Or.inl ⟨by rfl,?_⟩) ?_ ?_;rotate_left
 ·intro w';go_simp
  with_reducible rfl
 rotate_left
 ·simp only[Act.put,bS,bT,bU,i64_w,i32_w];rfl
 refine one_ (i:=11) (N:=some 63) #[true,true,true,true,true,true,true,true,true,true,true,true,false,false,false,false] rfl rfl bB bG (fun K hK=>?_);refine value_ (w1:=?_) (v:=?_) bH rfl ?_ ?_;rotate_left 2
 ·go_simp;constructor
  ·rfl
  ·rfl
 have ab_h:Below Wa.heap.size Wa (Wa.drew.alloc (.cells ([.int .i64 (p.known.length:Int)]:List Value).toArray 3)):=(Below.refl _ _).drew.alloc (Nat.le_refl _) _;refine hK.out _ _ ⟨((ab_h.cell (p:=⟨b,14,none⟩) (World.block_lt_of_cell? Wa ⟨b,14,none⟩ qb_0)).trans qb_0),((ab_h.cell (p:=⟨b,6,none⟩) (World.block_lt_of_cell? Wa ⟨b,6,none⟩ k6)).trans k6)⟩ (fun hHeld=>?_);clear hK K;refine norm_ (a':=?_) ?_ ?_;rotate_left
 ·show Act.put _ (some 63) _=_;simp only[Act.put,bS,bT,bU,i64_w,i32_w];rfl
 refine one_ (i:=12) (N:=some 64) #[true,true,true,true,true,true,true,true,true,true,true,true,true,false,false,false] rfl rfl bB bG (fun K hK=>?_);refine step_append_cells (w0:=Wa) (W:=Wa.drew) w0.heap.size bH (.tmp 56) (.tmp 63) 68 3 _ 1 8 bH Tryz.underlying68 info3 rfl bG bG vl p.plangs.length (nums .i64 p.plangs) [.int .i64 (p.known.length:Int)] bH bH bH bK qb_o.out ((Below.refl _ _).drew) qb_B bA ?_;intro vb wbr ob bbb gb tb;obtain ⟨Ab,cb,evb⟩:=own_slice ob;subst evb;have xb_0:=gb.cell (w:=Wa.drew) (a:=⟨b,14,none⟩) qb_0 qb_n.out;have xb_f:=(World.frozen?_of_block (w:=Wa.drew) (a:=⟨b,14,none⟩) (gb.block b qb_b qb_n.out)).trans qb_f;have xb_1:=gb.cell (w:=Wa.drew) (a:=⟨b,6,none⟩) k6 HPa.out.nl
 have ggb:Wa.grownBy wbr vl.ownBlock:=⟨gb.os,gb.tape,gb.output,gb.size,gb.block⟩
 obtain ⟨hpb,hmb⟩:=lang_step HPa.out (p.known.length:Int) (w':=wbr) ob ggb tb;have HPb:=bR hpb;have HMb:=bR hmb;clear hpb hmb ob bbb gb ggb tb;refine hK.out _ _ ⟨xb_0,xb_1⟩ (fun hHeld=>?_);clear hK K;refine norm_ (a':=?_) ?_ ?_;rotate_left
 ·show Act.put _ (some 64) _=_;simp only[Act.put,bS,bT,bU,i64_w,i32_w];rfl
 refine pure_ (i:=13) (N:=some 65) (v:=?_) (a':=?_) #[true,true,true,true,true,true,true,true,true,true,true,true,true,true,false,false] rfl rfl bB (fun _ _ _ h=>h) (Or.inl ⟨by rfl,?_⟩) ?_ ?_;rotate_left
 ·intro w';go_simp
  with_reducible rfl
 rotate_left
 ·simp only[Act.put,bS,bT,bU,i64_w,i32_w];rfl
 refine pure_ (i:=14) (N:=some 66) (v:=?_) (a':=?_) #[true,true,true,true,true,true,true,true,true,true,true,true,true,true,true,false] rfl rfl bB (fun _ _ _ h=>h) (Or.inl ⟨by rfl,?_⟩) ?_ ?_;rotate_left
 ·intro w';go_simp
  with_reducible rfl
 rotate_left
 ·simp only[Act.put,bS,bT,bU,i64_w,i32_w];rfl
 refine last_ (i:=15) (N:=none) #[true,true,true,true,true,true,true,true,true,true,true,true,true,true,true,true] rfl rfl bB bG (fun K hK=>?_);refine skip_ (w1:=?_) bH rfl ?_ ?_;rotate_left
 ·go_simp;rfl
 refine hK.out _ _ ?_;clear hK K;refine done_ bB ?_;go_wp2_with fail
 go_ret;exact ⟨rfl,_,_,HPb.out,((Moved.of_below HB2.out).trans HMa.out).trans HMb.out⟩
set_option maxRecDepth 100000 in
set_option maxHeartbeats 4000000 in
theorem apply_lang_dis (S:ParserAt w0 pb st sl sd sf sc mb sb fb) (OS:SiteOk st) (hB:Below w0.heap.size w0 w) (H:PathAt w w0.heap.size b p vk vu vl u) (osz:p.s.size≤1000000) (okl:p.known.length≤1000000) (oll:p.plangs.length≤1000000) (comp:ByteArray) (lo hi:Nat) (q1:lo≤hi) (q2:hi≤p.s.size) (hasc:asc (p.s.extract lo hi)) (hh:listed st.langs (lowS (p.s.extract lo hi))=false) (hd:listed st.dis (lowS (p.s.extract lo hi))=true) :
 Calls Tryz.prog 174 #[.pointer (some ⟨pb,0,none⟩),.string comp,.string ⟨#[108,97,110,103,117,97,103,101,95]⟩,.pointer (some ⟨b,0,none⟩),.agg #[.int .i64 lo,.int .i64 hi]] w fun e w' =>
  e = .returned (.bool true)∧∃ vk' vl',PathAt w' w0.heap.size b { p with known:=p.known++[((lo:Int),(hi:Int))],plangs:=p.plangs++[(p.known.length:Int)],dis:=true } vk' vu vl' u∧Moved w w' b vk vu vl vk' vu vl':=by
 obtain ⟨n,D,hM,hD⟩:=S.map;have HM:=bR hM;have HD:=bR hD;clear hM hD;have HP:=bR H;have hb:=H.lt;have HS:=bR S;have HB0:=bR hB;have hsz:(p.s.extract lo hi).size≤1000000:=Nat.le_trans (extract_le _ _ _) osz;have cl:=fun W=>Tryz.strings_ToLower_ascii (p.s.extract lo hi) W bA hasc
 obtain ⟨x,hx⟩:∃ x,lowS (p.s.extract lo hi)=x:=⟨_,rfl⟩
 rw[show (⟨(Lib.toLowerA (p.s.extract lo hi).data.toList).toArray⟩:ByteArray)=x from hx] at cl;have hxz:x.size≤1000000:=by rw[← hx,lowS_size];exact hsz
 have HX:=bR hx;have h0:=H.row.at 0 _ rfl;have mne:=map_ne mb;clear H S hB hasc hx;go_enter Tryz.func174,Tryz.ntmps174;go_upto_region 1 with fail
 have hal:Below w.heap.size w (w.alloc (.cells #[.int .i64 lo,.int .i64 hi] 90)):=(Below.refl _ _).alloc (Nat.le_refl _) _;have hR:=Row.new w [.int .i64 lo,.int .i64 hi] 90;have hs1:w.heap.size < (w.alloc (.cells #[.int .i64 lo,.int .i64 hi] 90)).heap.size:=by simp
 obtain ⟨V0,hV0⟩:∃ V0,w.alloc (.cells #[.int .i64 lo,.int .i64 hi] 90)=V0:=⟨_,rfl⟩
 replace hR:Row V0 w.heap.size [.int .i64 lo,.int .i64 hi]:=hV0▸hR;rw[hV0] at hal hs1 ⊢;clear hV0;refine wp_region_still_tail 9 bB bB ?_;change wpStill _ _ V0.drew (fun a'=>wpList _ _ _ _ a' V0.drew) _ _;replace hal:=hal.drew;replace hR:Row V0.drew w.heap.size [.int .i64 lo,.int .i64 hi]:=hR.step rfl;replace hs1:w.heap.size < V0.drew.heap.size:=hs1
 obtain ⟨V,hV⟩:∃ V,V0.drew=V:=⟨_,rfl⟩
 rw[hV] at hal hR hs1 ⊢;clear hV;have d0:V.cell? ⟨b,0,none⟩=some (.string p.s):=(hal.cell (p:=⟨b,0,none⟩) hb).trans h0;have d1:=hR.at 0 _ rfl;have d2:=hR.at 1 _ rfl;simp only[List.take_succ_cons,List.take_zero,List.drop_succ_cons,List.drop_zero]
 repeat still_step
 refine wpStill_nil ?_;have HB1:=bR hal;have HR1:=bR hR;clear hal hR d0 d1 d2 h0;go_wp2_with fail
 refine (cl V).mono ?_;rintro e w2 ⟨rfl,hb2⟩;have HB2:=bR (below_step HB1.out hb2);have HR2:=bR (HR1.out.below hb2 hs1);have hs2:=Nat.lt_of_lt_of_le hs1 hb2.size;have HP2:=bR (HP.out.below HB2.out);have HS2:=bR (HS.out.below (HB0.out.trans (HB2.out.mono HB0.out.size)));have d1:=HR2.out.at 0 _ rfl;have d2:=HR2.out.at 1 _ rfl;have hI:=bR (HP.out.new_ne (Nat.le_refl _));clear hb2 cl;have s0:=HS2.out.row.at 0 _ rfl;have hown:=HM.out.kept (row:=none) ⟨(HB0.out.trans (HB2.out.mono HB0.out.size)).os,(HB0.out.trans (HB2.out.mono HB0.out.size)).tape,(HB0.out.trans (HB2.out.mono HB0.out.size)).output,(HB0.out.trans (HB2.out.mono HB0.out.size)).size,fun k hk _=>(HB0.out.trans (HB2.out.mono HB0.out.size)).block k hk⟩ bI
 have hkey:=keyOf_string_mk (P:=Tryz.prog) (k:=9) Tryz.underlying9 (s:=x) bO;rw[HX.out] at hh;have hhx:Maps.has D (.string x.data.toList)=false:=(HD.out x).trans hh;have s1:=HS2.out.row.at 1 _ rfl;have fne:=func_ne37 (.func 106) #[] #[.pointer (some ⟨fb,0,none⟩),.pointer (some ⟨sb,0,none⟩)];have cd:=isDisabled_calls HS2.out.site OS HS2.out.has x;rw[HX.out] at hd;rw[hd] at cd;clear hh hd
 go_upto_region 10 with (first
  | (at_lookup;refine wpList_lookup_own_ok_int _ rfl _ _ 77 rfl 9 3 .i64 law9 Tryz.underlying77 Tryz.underlying3 (zero3 _) mb n D rfl hown _ _ rfl hkey ?_;intro c hat hwc;rw[hhx];clear hat hwc hown hkey hhx)
  | fail)
 go_wp2_with fail
 refine cd.mono ?_;rintro e w' ⟨rfl,rfl⟩;clear cd;go_upto_region 11 with fail
 have qa_0:=HP2.out.row.at 6 _ rfl;have qa_f:=HP2.out.row.free 6 bF;have qa_b:=HP2.out.lt;have qa_B:w0.heap.size≤w'.heap.size:=Nat.le_trans HP2.out.base (Nat.le_of_lt qa_b);have qa_n:=bR HP2.out.nk;have qa_o:=bR HP2.out.ok;refine start_ (n:=11) (S:=fun w'=>w'.cell? ⟨b,6,none⟩=some vk∧w'.cell? ⟨w.heap.size,0,none⟩=some (.int .i64 lo)∧w'.cell? ⟨w.heap.size,1,none⟩=some (.int .i64 hi)) (ds:=[10]) #[false,false,false,false,false,false,false,false,false,false,false] bB rfl rfl ⟨qa_0,d1,d2⟩ (fun hHeld=>?_);refine pure_ (i:=0) (N:=some 80) (v:=?_) (a':=?_) #[true,false,false,false,false,false,false,false,false,false,false] rfl rfl bB (fun _ _ _ h=>h) (Or.inl ⟨by rfl,?_⟩) ?_ ?_;rotate_left
 ·intro w';go_simp
  with_reducible rfl
 rotate_left
 ·simp only[Act.put,bS,bT,bU,i64_w,i32_w];rfl
 refine pure_ (i:=1) (N:=some 81) (v:=?_) (a':=?_) #[true,true,false,false,false,false,false,false,false,false,false] rfl rfl bB (fun _ _ _ h=>h) (Or.inl ⟨by rfl,?_⟩) ?_ ?_;rotate_left
 ·intro w';go_simp
  with_reducible rfl
 rotate_left
 ·simp only[Act.put,bS,bT,bU,i64_w,i32_w];rfl
 refine pure_ (i:=2) (N:=some 82) (v:=?_) (a':=?_) #[true,true,true,false,false,false,false,false,false,false,false] rfl rfl bB (fun _ _ _ h=>h) (Or.inl ⟨by rfl,?_⟩) ?_ ?_;rotate_left
 ·intro w';go_simp
  with_reducible rfl
 rotate_left
 ·simp only[Act.put,bS,bT,bU,i64_w,i32_w];rfl
 refine pure_ (i:=3) (N:=some 83) (v:=?_) (a':=?_) #[true,true,true,true,false,false,false,false,false,false,false] rfl rfl bB (fun _ _ _ h=>h) (Or.inl ⟨by rfl,?_⟩) ?_ ?_;rotate_left
 ·intro w';go_simp
  with_reducible rfl
 rotate_left
 ·simp only[Act.put,bS,bT,bU,i64_w,i32_w];rfl
 refine take_ (i:=4) (N:=some 84) (v:=?_) (a':=?_) #[true,true,true,true,true,false,false,false,false,false,false] rfl rfl bB (fun _ _ _ h=>h) (Or.inl ⟨by rfl,?_⟩) hHeld ?_ ?_;rotate_left
 ·rintro w' ⟨s0,s1,s2⟩;go_simp
  with_reducible rfl
 rotate_left
 ·simp only[Act.put,bS,bT,bU,i64_w,i32_w];rfl
 refine take_ (i:=5) (N:=some 85) (v:=?_) (a':=?_) #[true,true,true,true,true,true,false,false,false,false,false] rfl rfl bB (fun _ _ _ h=>h) (Or.inl ⟨by rfl,?_⟩) hHeld ?_ ?_;rotate_left
 ·rintro w' ⟨s0,s1,s2⟩;go_simp
  with_reducible rfl
 rotate_left
 ·simp only[Act.put,bS,bT,bU,i64_w,i32_w];rfl
 refine one_ (i:=6) (N:=some 86) #[true,true,true,true,true,true,true,false,false,false,false] rfl rfl bB bG (fun K hK=>?_);refine value_ (w1:=?_) (v:=?_) bH rfl ?_ ?_;rotate_left 2
 ·go_simp;constructor
  ·rfl
  ·rfl
 have aa_h:Below w'.heap.size w' (w'.drew.alloc (.cells ([.int .i64 lo,.int .i64 hi]:List Value).toArray 90)):=(Below.refl _ _).drew.alloc (Nat.le_refl _) _;refine hK.out _ _ ⟨((aa_h.cell (p:=⟨b,6,none⟩) (World.block_lt_of_cell? w' ⟨b,6,none⟩ qa_0)).trans qa_0),((aa_h.cell (p:=⟨w.heap.size,0,none⟩) (World.block_lt_of_cell? w' ⟨w.heap.size,0,none⟩ d1)).trans d1),((aa_h.cell (p:=⟨w.heap.size,1,none⟩) (World.block_lt_of_cell? w' ⟨w.heap.size,1,none⟩ d2)).trans d2)⟩ (fun hHeld=>?_);clear hK K;refine norm_ (a':=?_) ?_ ?_;rotate_left
 ·show Act.put _ (some 86) _=_;simp only[Act.put,bS,bT,bU,i64_w,i32_w];rfl
 refine one_ (i:=7) (N:=some 87) #[true,true,true,true,true,true,true,true,false,false,false] rfl rfl bB bG (fun K hK=>?_);refine step_append_cells (w0:=w') (W:=w'.drew) w0.heap.size bH (.tmp 84) (.tmp 86) 88 90 _ 2 16 bH Tryz.underlying88 info81 rfl bG bG vk p.known.length (pairs p.known) [.int .i64 lo,.int .i64 hi] bH bH bH bK qa_o.out ((Below.refl _ _).drew) qa_B bA ?_;intro va war oa bba ga ta;obtain ⟨Aa,ca,eva⟩:=own_slice oa;subst eva;have xa_0:=ga.cell (w:=w'.drew) (a:=⟨b,6,none⟩) qa_0 qa_n.out;have xa_f:=(World.frozen?_of_block (w:=w'.drew) (a:=⟨b,6,none⟩) (ga.block b qa_b qa_n.out)).trans qa_f;have xa_1:=ga.cell (w:=w'.drew) (a:=⟨w.heap.size,0,none⟩) d1 hI.out.2.1
 have xa_2:=ga.cell (w:=w'.drew) (a:=⟨w.heap.size,1,none⟩) d2 hI.out.2.1
 have gga:w'.grownBy war vk.ownBlock:=⟨ga.os,ga.tape,ga.output,ga.size,ga.block⟩
 obtain ⟨hpa,hma⟩:=known_step HP2.out (lo,hi) (w':=war) oa gga ta;have HPa:=bR hpa;have HMa:=bR hma;clear hpa hma oa bba ga gga ta;refine hK.out _ _ ⟨xa_0,xa_1,xa_2⟩ (fun hHeld=>?_);clear hK K;refine norm_ (a':=?_) ?_ ?_;rotate_left
 ·show Act.put _ (some 87) _=_;simp only[Act.put,bS,bT,bU,i64_w,i32_w];rfl
 refine pure_ (i:=8) (N:=some 88) (v:=?_) (a':=?_) #[true,true,true,true,true,true,true,true,true,false,false] rfl rfl bB (fun _ _ _ h=>h) (Or.inl ⟨by rfl,?_⟩) ?_ ?_;rotate_left
 ·intro w';go_simp
  with_reducible rfl
 rotate_left
 ·simp only[Act.put,bS,bT,bU,i64_w,i32_w];rfl
 refine pure_ (i:=9) (N:=some 89) (v:=?_) (a':=?_) #[true,true,true,true,true,true,true,true,true,true,false] rfl rfl bB (fun _ _ _ h=>h) (Or.inl ⟨by rfl,?_⟩) ?_ ?_;rotate_left
 ·intro w';go_simp
  with_reducible rfl
 rotate_left
 ·simp only[Act.put,bS,bT,bU,i64_w,i32_w];rfl
 refine last_ (i:=10) (N:=none) #[true,true,true,true,true,true,true,true,true,true,true] rfl rfl bB bG (fun K hK=>?_);refine skip_ (w1:=?_) bH rfl ?_ ?_;rotate_left
 ·go_simp;rfl
 refine hK.out _ _ ?_;clear hK K;refine done_ bB ?_;clear d1 d2 xa_0 xa_f xa_1 xa_2 qa_0 qa_f qa_b qa_B qa_n qa_o aa_h
 obtain ⟨Wa,hWa⟩:∃ W,war.setCell ⟨b,6,none⟩ (.slice Aa (p.known.length+1) ca)=W:=⟨_,rfl⟩
 replace HPa:Aside0 (PathAt Wa w0.heap.size b { p with known:=p.known++[((lo:Int),(hi:Int))] } (.slice Aa (p.known.length+1) ca) vu vl u):=hWa▸HPa;replace HMa:Aside0 (Moved w' Wa b vk vu vl (.slice Aa (p.known.length+1) ca) vu vl):=hWa▸HMa;rw[hWa];clear hWa;have z4:IntKind.i64.wrap (p.known.length:Int)=(p.known.length:Int):=by rw[IntWalk.i64_in _ bA]
 have k6:=HPa.out.row.at 6 _ rfl;go_upto_region 12 with fail
 have qb_0:=HPa.out.row.at 14 _ rfl;have qb_f:=HPa.out.row.free 14 bF;have qb_b:=HPa.out.lt;have qb_B:w0.heap.size≤Wa.heap.size:=Nat.le_trans HPa.out.base (Nat.le_of_lt qb_b);have qb_n:=bR HPa.out.nl;have qb_o:=bR HPa.out.ol;refine start_ (n:=16) (S:=fun w'=>w'.cell? ⟨b,14,none⟩=some vl∧w'.cell? ⟨b,6,none⟩=some (.slice Aa (p.known.length+1) ca)) (ds:=[15]) #[false,false,false,false,false,false,false,false,false,false,false,false,false,false,false,false] bB rfl rfl ⟨qb_0,k6⟩ (fun hHeld=>?_);refine pure_ (i:=0) (N:=some 90) (v:=?_) (a':=?_) #[true,false,false,false,false,false,false,false,false,false,false,false,false,false,false,false] rfl rfl bB (fun _ _ _ h=>h) (Or.inl ⟨by rfl,?_⟩) ?_ ?_;rotate_left
 ·intro w';go_simp
  with_reducible rfl
 rotate_left
 ·simp only[Act.put,bS,bT,bU,i64_w,i32_w];rfl
 refine pure_ (i:=1) (N:=some 91) (v:=?_) (a':=?_) #[true,true,false,false,false,false,false,false,false,false,false,false,false,false,false,false] rfl rfl bB (fun _ _ _ h=>h) (Or.inl ⟨by rfl,?_⟩) ?_ ?_;rotate_left
 ·intro w';go_simp
  with_reducible rfl
 rotate_left
 ·simp only[Act.put,bS,bT,bU,i64_w,i32_w];rfl
 refine pure_ (i:=2) (N:=some 92) (v:=?_) (a':=?_) #[true,true,true,false,false,false,false,false,false,false,false,false,false,false,false,false] rfl rfl bB (fun _ _ _ h=>h) (Or.inl ⟨by rfl,?_⟩) ?_ ?_;rotate_left
 ·intro w';go_simp
  with_reducible rfl
 rotate_left
 ·simp only[Act.put,bS,bT,bU,i64_w,i32_w];rfl
 refine pure_ (i:=3) (N:=some 93) (v:=?_) (a':=?_) #[true,true,true,true,false,false,false,false,false,false,false,false,false,false,false,false] rfl rfl bB (fun _ _ _ h=>h) (Or.inl ⟨by rfl,?_⟩) ?_ ?_;rotate_left
 ·intro w';go_simp
  with_reducible rfl
 rotate_left
 ·simp only[Act.put,bS,bT,bU,i64_w,i32_w];rfl
 refine pure_ (i:=5) (N:=some 95) (v:=?_) (a':=?_) #[true,true,true,true,false,true,false,false,false,false,false,false,false,false,false,false] rfl rfl bB (fun _ _ _ h=>h) (Or.inl ⟨by rfl,?_⟩) ?_ ?_;rotate_left
 ·intro w';go_simp
  with_reducible rfl
 rotate_left
 ·simp only[Act.put,bS,bT,bU,i64_w,i32_w];rfl
 refine pure_ (i:=6) (N:=some 96) (v:=?_) (a':=?_) #[true,true,true,true,false,true,true,false,false,false,false,false,false,false,false,false] rfl rfl bB (fun _ _ _ h=>h) (Or.inl ⟨by rfl,?_⟩) ?_ ?_;rotate_left
 ·intro w';go_simp
  with_reducible rfl
 rotate_left
 ·simp only[Act.put,bS,bT,bU,i64_w,i32_w];rfl
 refine pure_ (i:=7) (N:=some 97) (v:=?_) (a':=?_) #[true,true,true,true,false,true,true,true,false,false,false,false,false,false,false,false] rfl rfl bB (fun _ _ _ h=>h) (Or.inl ⟨by rfl,?_⟩) ?_ ?_;rotate_left
 ·intro w';go_simp
  with_reducible rfl
 rotate_left
 ·simp only[Act.put,bS,bT,bU,i64_w,i32_w];rfl
 refine take_ (i:=4) (N:=some 94) (v:=?_) (a':=?_) #[true,true,true,true,true,true,true,true,false,false,false,false,false,false,false,false] rfl rfl bB (fun _ _ _ h=>h) (Or.inl ⟨by rfl,?_⟩) hHeld ?_ ?_;rotate_left
 ·rintro w' ⟨s0,s1⟩;go_simp
  with_reducible rfl
 rotate_left
 ·simp only[Act.put,bS,bT,bU,i64_w,i32_w];rfl
 refine take_ (i:=8) (N:=some 98) (v:=?_) (a':=?_) #[true,true,true,true,true,true,true,true,true,false,false,false,false,false,false,false] rfl rfl bB (fun _ _ _ h=>h) (Or.inl ⟨by rfl,?_⟩) hHeld ?_ ?_;rotate_left
 ·rintro w' ⟨s0,s1⟩;go_simp
  with_reducible rfl
 rotate_left
 ·simp only[Act.put,bS,bT,bU,i64_w,i32_w];rfl
 refine pure_ (i:=9) (N:=some 99) (v:=?_) (a':=?_) #[true,true,true,true,true,true,true,true,true,true,false,false,false,false,false,false] rfl rfl bB (fun _ _ _ h=>h) (Or.inl ⟨by rfl,?_⟩) ?_ ?_;rotate_left
 ·intro w';go_simp
  with_reducible rfl
 rotate_left
 ·simp only[Act.put,bS,bT,bU,i64_w,i32_w];rfl
 refine pure_ (i:=10) (N:=some 100) (v:=?_) (a':=?_) #[true,true,true,true,true,true,true,true,true,true,true,false,false,false,false,false] rfl rfl bB (fun _ _ _ h=>h) (Or.inl ⟨by rfl,?_⟩) ?_ ?_;rotate_left
 ·intro w';go_simp
  with_reducible rfl
 rotate_left
 ·simp only[Act.put,bS,bT,bU,i64_w,i32_w];rfl
 refine one_ (i:=11) (N:=some 101) #[true,true,true,true,true,true,true,true,true,true,true,true,false,false,false,false] rfl rfl bB bG (fun K hK=>?_);refine value_ (w1:=?_) (v:=?_) bH rfl ?_ ?_;rotate_left 2
 ·go_simp;constructor
  ·rfl
  ·rfl
 have ab_h:Below Wa.heap.size Wa (Wa.drew.alloc (.cells ([.int .i64 (p.known.length:Int)]:List Value).toArray 3)):=(Below.refl _ _).drew.alloc (Nat.le_refl _) _;refine hK.out _ _ ⟨((ab_h.cell (p:=⟨b,14,none⟩) (World.block_lt_of_cell? Wa ⟨b,14,none⟩ qb_0)).trans qb_0),((ab_h.cell (p:=⟨b,6,none⟩) (World.block_lt_of_cell? Wa ⟨b,6,none⟩ k6)).trans k6)⟩ (fun hHeld=>?_);clear hK K;refine norm_ (a':=?_) ?_ ?_;rotate_left
 ·show Act.put _ (some 101) _=_;simp only[Act.put,bS,bT,bU,i64_w,i32_w];rfl
 refine one_ (i:=12) (N:=some 102) #[true,true,true,true,true,true,true,true,true,true,true,true,true,false,false,false] rfl rfl bB bG (fun K hK=>?_);refine step_append_cells (w0:=Wa) (W:=Wa.drew) w0.heap.size bH (.tmp 94) (.tmp 101) 68 3 _ 1 8 bH Tryz.underlying68 info3 rfl bG bG vl p.plangs.length (nums .i64 p.plangs) [.int .i64 (p.known.length:Int)] bH bH bH bK qb_o.out ((Below.refl _ _).drew) qb_B bA ?_;intro vb wbr ob bbb gb tb;obtain ⟨Ab,cb,evb⟩:=own_slice ob;subst evb;have xb_0:=gb.cell (w:=Wa.drew) (a:=⟨b,14,none⟩) qb_0 qb_n.out;have xb_f:=(World.frozen?_of_block (w:=Wa.drew) (a:=⟨b,14,none⟩) (gb.block b qb_b qb_n.out)).trans qb_f;have xb_1:=gb.cell (w:=Wa.drew) (a:=⟨b,6,none⟩) k6 HPa.out.nl
 have ggb:Wa.grownBy wbr vl.ownBlock:=⟨gb.os,gb.tape,gb.output,gb.size,gb.block⟩
 obtain ⟨hpb,hmb⟩:=lang_step HPa.out (p.known.length:Int) (w':=wbr) ob ggb tb;have HPb:=bR hpb;have HMb:=bR hmb;clear hpb hmb ob bbb gb ggb tb;refine hK.out _ _ ⟨xb_0,xb_1⟩ (fun hHeld=>?_);clear hK K;refine norm_ (a':=?_) ?_ ?_;rotate_left
 ·show Act.put _ (some 102) _=_;simp only[Act.put,bS,bT,bU,i64_w,i32_w];rfl
 refine pure_ (i:=13) (N:=some 103) (v:=?_) (a':=?_) #[true,true,true,true,true,true,true,true,true,true,true,true,true,true,false,false] rfl rfl bB (fun _ _ _ h=>h) (Or.inl ⟨by rfl,?_⟩) ?_ ?_;rotate_left
 ·intro w';go_simp
  with_reducible rfl
 rotate_left
 ·simp only[Act.put,bS,bT,bU,i64_w,i32_w];rfl
 refine pure_ (i:=14) (N:=some 104) (v:=?_) (a':=?_) #[true,true,true,true,true,true,true,true,true,true,true,true,true,true,true,false] rfl rfl bB (fun _ _ _ h=>h) (Or.inl ⟨by rfl,?_⟩) ?_ ?_;rotate_left
 ·intro w';go_simp
  with_reducible rfl
 rotate_left
 ·simp only[Act.put,bS,bT,bU,i64_w,i32_w];rfl
 refine last_ (i:=15) (N:=none) #[true,true,true,true,true,true,true,true,true,true,true,true,true,true,true,true] rfl rfl bB bG (fun K hK=>?_);refine skip_ (w1:=?_) bH rfl ?_ ?_;rotate_left
 ·go_simp;rfl
 refine hK.out _ _ ?_;clear hK K;refine done_ bB ?_
 obtain ⟨Wb,hWb⟩:∃ W,wbr.setCell ⟨b,14,none⟩ (.slice Ab (p.plangs.length+1) cb)=W:=⟨_,rfl⟩
 replace HPb:Aside0 (PathAt Wb w0.heap.size b { p with known:=p.known++[((lo:Int),(hi:Int))],plangs:=p.plangs++[(p.known.length:Int)] } (.slice Aa (p.known.length+1) ca) vu (.slice Ab (p.plangs.length+1) cb) u):=hWb▸HPb;rw[hWb] at HMb ⊢;have b23:=HPb.out.row.at 23 _ rfl;have f23:=HPb.out.row.free 23 bF;clear hWb xb_0 xb_f xb_1 qb_0 qb_f qb_b qb_B qb_n qb_o ab_h k6;go_wp2_with fail
 obtain ⟨hpc,hmc⟩:=put_step HPb.out 23 (.bool true) { p with known:=p.known++[((lo:Int),(hi:Int))],plangs:=p.plangs++[(p.known.length:Int)],dis:=true } u rfl rfl rfl rfl bA;go_ret;exact ⟨rfl,_,_,hpc,(((Moved.of_below HB2.out).trans HMa.out).trans HMb.out).trans hmc⟩
set_option maxRecDepth 100000 in
set_option maxHeartbeats 4000000 in
theorem apply_lang_no (S:ParserAt w0 pb st sl sd sf sc mb sb fb) (OS:SiteOk st) (hB:Below w0.heap.size w0 w) (H:PathAt w w0.heap.size b p vk vu vl u) (osz:p.s.size≤1000000) (okl:p.known.length≤1000000) (oll:p.plangs.length≤1000000) (comp:ByteArray) (lo hi:Nat) (q1:lo≤hi) (q2:hi≤p.s.size) (hasc:asc (p.s.extract lo hi)) (hh:listed st.langs (lowS (p.s.extract lo hi))=false) (hd:listed st.dis (lowS (p.s.extract lo hi))=false) :
 Calls Tryz.prog 174 #[.pointer (some ⟨pb,0,none⟩),.string comp,.string ⟨#[108,97,110,103,117,97,103,101,95]⟩,.pointer (some ⟨b,0,none⟩),.agg #[.int .i64 lo,.int .i64 hi]] w fun e w' =>
  e = .returned (.bool false)∧Below w.heap.size w w':=by
 obtain ⟨n,D,hM,hD⟩:=S.map;have HM:=bR hM;have HD:=bR hD;clear hM hD;have HP:=bR H;have hb:=H.lt;have HS:=bR S;have HB0:=bR hB;have hsz:(p.s.extract lo hi).size≤1000000:=Nat.le_trans (extract_le _ _ _) osz;have cl:=fun W=>Tryz.strings_ToLower_ascii (p.s.extract lo hi) W bA hasc
 obtain ⟨x,hx⟩:∃ x,lowS (p.s.extract lo hi)=x:=⟨_,rfl⟩
 rw[show (⟨(Lib.toLowerA (p.s.extract lo hi).data.toList).toArray⟩:ByteArray)=x from hx] at cl;have hxz:x.size≤1000000:=by rw[← hx,lowS_size];exact hsz
 have HX:=bR hx;have h0:=H.row.at 0 _ rfl;have mne:=map_ne mb;clear H S hB hasc hx;go_enter Tryz.func174,Tryz.ntmps174;go_upto_region 1 with fail
 have hal:Below w.heap.size w (w.alloc (.cells #[.int .i64 lo,.int .i64 hi] 90)):=(Below.refl _ _).alloc (Nat.le_refl _) _;have hR:=Row.new w [.int .i64 lo,.int .i64 hi] 90;have hs1:w.heap.size < (w.alloc (.cells #[.int .i64 lo,.int .i64 hi] 90)).heap.size:=by simp
 obtain ⟨V0,hV0⟩:∃ V0,w.alloc (.cells #[.int .i64 lo,.int .i64 hi] 90)=V0:=⟨_,rfl⟩
 replace hR:Row V0 w.heap.size [.int .i64 lo,.int .i64 hi]:=hV0▸hR;rw[hV0] at hal hs1 ⊢;clear hV0;refine wp_region_still_tail 9 bB bB ?_;change wpStill _ _ V0.drew (fun a'=>wpList _ _ _ _ a' V0.drew) _ _;replace hal:=hal.drew;replace hR:Row V0.drew w.heap.size [.int .i64 lo,.int .i64 hi]:=hR.step rfl;replace hs1:w.heap.size < V0.drew.heap.size:=hs1
 obtain ⟨V,hV⟩:∃ V,V0.drew=V:=⟨_,rfl⟩
 rw[hV] at hal hR hs1 ⊢;clear hV;have d0:V.cell? ⟨b,0,none⟩=some (.string p.s):=(hal.cell (p:=⟨b,0,none⟩) hb).trans h0;have d1:=hR.at 0 _ rfl;have d2:=hR.at 1 _ rfl;simp only[List.take_succ_cons,List.take_zero,List.drop_succ_cons,List.drop_zero]
 repeat still_step
 refine wpStill_nil ?_;have HB1:=bR hal;have HR1:=bR hR;clear hal hR d0 d1 d2 h0;go_wp2_with fail
 refine (cl V).mono ?_;rintro e w2 ⟨rfl,hb2⟩;have HB2:=bR (below_step HB1.out hb2);have HR2:=bR (HR1.out.below hb2 hs1);have hs2:=Nat.lt_of_lt_of_le hs1 hb2.size;have HP2:=bR (HP.out.below HB2.out);have HS2:=bR (HS.out.below (HB0.out.trans (HB2.out.mono HB0.out.size)));have d1:=HR2.out.at 0 _ rfl;have d2:=HR2.out.at 1 _ rfl;have hI:=bR (HP.out.new_ne (Nat.le_refl _));clear hb2 cl;have s0:=HS2.out.row.at 0 _ rfl;have hown:=HM.out.kept (row:=none) ⟨(HB0.out.trans (HB2.out.mono HB0.out.size)).os,(HB0.out.trans (HB2.out.mono HB0.out.size)).tape,(HB0.out.trans (HB2.out.mono HB0.out.size)).output,(HB0.out.trans (HB2.out.mono HB0.out.size)).size,fun k hk _=>(HB0.out.trans (HB2.out.mono HB0.out.size)).block k hk⟩ bI
 have hkey:=keyOf_string_mk (P:=Tryz.prog) (k:=9) Tryz.underlying9 (s:=x) bO;rw[HX.out] at hh;have hhx:Maps.has D (.string x.data.toList)=false:=(HD.out x).trans hh;have s1:=HS2.out.row.at 1 _ rfl;have fne:=func_ne37 (.func 106) #[] #[.pointer (some ⟨fb,0,none⟩),.pointer (some ⟨sb,0,none⟩)];have cd:=isDisabled_calls HS2.out.site OS HS2.out.has x;rw[HX.out] at hd;rw[hd] at cd;clear hh hd
 go_upto_region 10 with (first
  | (at_lookup;refine wpList_lookup_own_ok_int _ rfl _ _ 77 rfl 9 3 .i64 law9 Tryz.underlying77 Tryz.underlying3 (zero3 _) mb n D rfl hown _ _ rfl hkey ?_;intro c hat hwc;rw[hhx];clear hat hwc hown hkey hhx)
  | fail)
 go_wp2_with fail
 refine cd.mono ?_;rintro e w' ⟨rfl,rfl⟩;clear cd;go_wp2_with fail
 go_ret;exact ⟨rfl,HB2.out⟩
end
end Go.Proofs.YtmgdbpjidkdegaaGreatDoor.Path
