/- A path as one of its own type is itself. Condition: none but the statement's own. -/
import Derived.Deep.QuietTactic
import Derived.BigQuiet
import Derived.Test.YtmgdbpjidkdegaaGreatDoorQa
import Derived.Test.YtmgdbpjidkdegaaGreatDoorQ23
set_option linter.unusedVariables false
set_option linter.unusedSimpArgs false
set_option linter.unusedSimpArgs false
set_option linter.unusedVariables false
namespace Go.Proofs.YtmgdbpjidkdegaaGreatDoor.fnForTypeOwn
open Go.ChangeShapes Go.WideShapes Go.ChangeAt Go.RowKit Go.WideMaps Go.Proofs.YtmgdbpjidkdegaaGreatDoorW.PrintWords Go.Proofs.YtmgdbpjidkdegaaGreatDoor.Base Go.Proofs.YtmgdbpjidkdegaaGreatDoor.Lower Go.Proofs.YtmgdbpjidkdegaaGreatDoor.Total Go.Proofs.YtmgdbpjidkdegaaGreatDoor.Path Go.Proofs.YtmgdbpjidkdegaaGreatDoor.PCore
section
variable {w:World} {st:SiteV} {vl vd vf vc:Value}
set_option maxRecDepth 100000 in
set_option maxHeartbeats 4000000 in
theorem walk (S:SiteArg w st vl vd vf vc) (comp s:ByteArray):Calls Tryz.prog 12 #[.agg #[vl,vd,vf,vc],.string comp,.string s] w fun e w'=>e = .returned (.bool true)∧Below w.heap.size w w':=by
 have HSA:=bR S;obtain ⟨Al,cl,rfl,_,_⟩:=S.l;obtain ⟨Ad,cd,rfl,_,_⟩:=S.d;obtain ⟨Af,cf,rfl,_,_⟩:=S.f;obtain ⟨Ac,cc,rfl,_,_⟩:=S.c;clear S;have hB1:Below w.heap.size w (w.alloc (.cells #[.slice Al st.langs.length cl,.slice Ad st.dis.length cd,.slice Af st.fmts.length cf,.slice Ac st.cont.length cc] 25)):=(Below.refl _ _).alloc (Nat.le_refl _) _;have hR1:=Row.new w [.slice Al st.langs.length cl,.slice Ad st.dis.length cd,.slice Af st.fmts.length cf,.slice Ac st.cont.length cc] 25;have hs1:w.heap.size < (w.alloc (.cells #[.slice Al st.langs.length cl,.slice Ad st.dis.length cd,.slice Af st.fmts.length cf,.slice Ac st.cont.length cc] 25)).heap.size:=by simp
 go_enter Tryz.func12,Tryz.ntmps12;go_upto_region 1 with fail
 obtain ⟨w1,hw1⟩:∃ w1,w.alloc (.cells #[.slice Al st.langs.length cl,.slice Ad st.dis.length cd,.slice Af st.fmts.length cf,.slice Ac st.cont.length cc] 25)=w1:=⟨_,rfl⟩
 rw[hw1] at hB1 hR1 hs1 ⊢;clear hw1;have HB1:=bR hB1;have HRS:=bR hR1;have r0:=hR1.at 0 _ rfl;have r1:=hR1.at 1 _ rfl;have r2:=hR1.at 2 _ rfl;have r3:=hR1.at 3 _ rfl;have cz:=zzFits_calls (HSA.out.below hB1)
 obtain ⟨ft,hft⟩:∃ f,fitsS st=f:=⟨_,rfl⟩
 rw[hft] at cz;have HFT:=bR hft
 obtain ⟨q1,hq1⟩:∃ q,decide ((2147483647:Int) < (comp.size:Int))=q:=⟨_,rfl⟩
 obtain ⟨q2,hq2⟩:∃ q,decide ((2147483647:Int) < (s.size:Int))=q:=⟨_,rfl⟩
 have HQ1:=bR hq1;have HQ2:=bR hq2;have hq1' : decide (2147483647 < comp.size)=q1:=by rw[← hq1];by_cases c:2147483647 < comp.size <;> simp[c] <;> omega
 have hq2' : decide (2147483647 < s.size)=q2:=by rw[← hq2];by_cases c:2147483647 < s.size <;> simp[c] <;> omega
 clear hB1 hR1 hft
 go_cut [21] from 9 to 21 (fun sx wx=>sx = .bool (!ft || (q1 || q2))∧Aside0 (Below w1.heap.size w1 wx))
 case first =>
  go_wp2_with fail
  refine cz.mono ?_;rintro e w2 ⟨rfl,hb2⟩;have HB2:=bR hb2;clear hb2 cz;cases ft
  ·go_wp2_with fail
   go_meet
   case rel=>exact ⟨rfl,HB2⟩
  ·cases q1
   ·go_wp2_with fail
    go_meet
    case rel=>exact ⟨rfl,HB2⟩
   ·go_wp2_with fail
    go_meet
    case rel=>exact ⟨rfl,HB2⟩
 case rest =>
  obtain ⟨rfl,HB2⟩:=hcut
  obtain ⟨w2,rfl⟩:∃ x,x=wc:=⟨_,rfl⟩
  clear cz hq1 hq2 hq1' hq2' r0 r1 r2 r3;have HBA:=bR (HB1.out.trans (HB2.out.mono HB1.out.size))
  obtain ⟨g,hg⟩:∃ g,(!ft || (q1 || q2))=g:=⟨_,rfl⟩
  rw[hg];have HG:=bR hg;clear hg;cases g;rotate_left
  ·go_wp2_with fail
   go_ret;exact ⟨rfl,HBA.out⟩
  ·have hf:ft=true∧q1=false∧q2=false:=by have h9:=HG.out;revert h9;cases ft <;> cases q1 <;> cases q2 <;> simp
   obtain ⟨rfl,rfl,rfl⟩:=hf;have hcs:comp.size≤MM:=by have:=of_decide_eq_false HQ1.out;unfold MM;omega
   have hss:s.size≤MM:=by have:=of_decide_eq_false HQ2.out;unfold MM;omega
   have hRs:=HRS.out.below HB2.out hs1;have r0:=hRs.at 0 _ rfl;have r1:=hRs.at 1 _ rfl;have r2:=hRs.at 2 _ rfl;have r3:=hRs.at 3 _ rfl;obtain ⟨ok,HOK,ck⟩:=known_calls (HSA.out.below HBA.out) HFT.out comp s hcs hss;replace HOK:=bR HOK;have HRS2:=bR hRs;clear hRs hcs hss;go_wp2_with fail
   refine ck.mono ?_;rintro e w4 ⟨t,l1,l2,l3,v1,v2,v3,rfl,hs,ht,hb4⟩;have HSL:=bR hs;have HT:=bR ht;have HB4:=bR hb4;obtain ⟨A1,c1,e1,_⟩:=HSL.out.1;obtain ⟨A2,c2,e2,_⟩:=HSL.out.2.1;obtain ⟨A3,c3,e3,_⟩:=HSL.out.2.2;clear ck hs ht hb4 r0 r1 r2 r3
   obtain ⟨C,hC⟩:∃ C:Array Value,toldC t v1 v2 v3=C:=⟨_,rfl⟩
   have hval:toldVal t v1 v2 v3 = .agg C:=by rw[← hC];rfl
   have HCS:=bR (show C.size=31 by rw[← hC];rfl);have HON:=bR (show C.all (·.oneCell')=true by rw[← hC,e1,e2,e3];exact toldC_one _ _ _ _ _ _ _ _ _ _);rw[hval];have HC:=bR hC;clear hval e1 e2 e3 hC;have hRZ:=Row.new w4 toldZero 32;have HCE:=bR (told_cells hRZ rfl HCS.out);have HBW:=bR (told_world w4 C)
   go_upto_region 4 with (first | (refine told_store rfl _ _ rfl w4.heap.size C rfl rfl hRZ rfl HCS.out HON.out ?_) | fail)
   change Code.wp _ _ _ _ ((w4.alloc (.cells toldZero.toArray 32)).setCells w4.heap.size 0 C.toList)
   obtain ⟨W,hW⟩:∃ W,(w4.alloc (.cells toldZero.toArray 32)).setCells w4.heap.size 0 C.toList=W:=⟨_,rfl⟩
   rw[hW] at HCE HBW ⊢
   obtain ⟨bk,hbk⟩:∃ b,w4.heap.size=b:=⟨_,rfl⟩
   have HBK:=bR hbk;rw[hbk] at HCE ⊢;clear hW hbk hRZ;have HBX:=bR (below_step (below_step HBA.out HB4.out) HBW.out);have HRS3:=bR ((HRS2.out.below HB4.out (Nat.lt_of_lt_of_le hs1 HB2.out.size)).below HBW.out (Nat.lt_of_lt_of_le (Nat.lt_of_lt_of_le hs1 HB2.out.size) HB4.out.size));cases ok
   ·go_wp2_with fail
    go_ret;exact ⟨rfl,HBX.out⟩
   ·obtain ⟨ht1,rfl,rfl,rfl⟩:=HT.out (by first | rfl | trivial);obtain ⟨OS,HASC,HASCC,hs400,hc2000,hPK⟩:=HOK.out (by first | rfl | trivial);have HPK:=bR hPK;clear hPK
    obtain ⟨p,hp⟩:∃ p,mPath (envOf st) comp (norm s)=p:=⟨_,rfl⟩
    rw[hp] at ht1 HSL;subst ht1;have HP:=bR hp;have hpo:=mPath_ok (envOf st) comp (norm s) (by rw[norm_size];omega);rw[hp] at hpo;have HPO:=bR hpo;have HPN:=bR (mPath_ne (envOf st) comp (norm s));rw[hp] at HPN;have k9:=HCE.out 9 (.string (nrm p.trim p.s)) (by rw[← HC.out];rfl);have hne:=HPN.out;clear hp hpo HT HOK;clear k9 hne;have HRC:=bR (show W.rangeAt bk 0 C.toList from fun j v hv=>by rw[Nat.zero_add];exact HCE.out j v hv);have HB4:=bR HBX.out;have HRS4:=bR HRS3.out;have HRC4:=bR HRC.out;have HV4:=bR (Below.refl W.heap.size W);have HET:=bR (show p.typ=p.typ from rfl)
    obtain ⟨f_typ,e_typ⟩:∃ x,p.typ=x:=⟨_,rfl⟩
    have HCT:C.toList[30]? = some (.int .i64 f_typ):=by rw[← HC.out,← e_typ];rfl
    go_wp2_with fail
    have hS9:W.drew.rangeAt w.heap.size 0 [.slice Al st.langs.length cl,.slice Ad st.dis.length cd,.slice Af st.fmts.length cf,.slice Ac st.cont.length cc]∧W.drew.rangeAt bk 0 C.toList:=⟨(World.rangeAt_drew _ _ _ _).2 HRS4.out.range,(World.rangeAt_drew _ _ _ _).2 HRC4.out⟩
    refine wp_region_held_drew (S:=fun w'=>w'.rangeAt w.heap.size 0 [.slice Al st.langs.length cl,.slice Ad st.dis.length cd,.slice Af st.fmts.length cf,.slice Ac st.cont.length cc]∧w'.rangeAt bk 0 C.toList) bB hS9 (fun hH=>?_);have HBV:=bR HB4.out.drew;have HVV:=bR HV4.out.drew
    obtain ⟨V,hV⟩:∃ V,W.drew=V:=⟨_,rfl⟩
    rw[hV] at hS9 HBV HVV hH ⊢;clear hV;have iC:(Tryz.prog.info? 32).map (·.size)=some C.toList.length:=by rw[Array.length_toList,HCS.out];kernel_rfl
    refine takeD (i:=0) (d:=some 31) (v:=.agg #[.slice Al st.langs.length cl,.slice Ad st.dis.length cd,.slice Af st.fmts.length cf,.slice Ac st.cont.length cc]) rfl rfl bB bB bB (fun _ _ _ h=>h) (yieldsIf_load_mid rfl 25 (.tmp 3) rfl w.heap.size 0 rfl [.slice Al st.langs.length cl,.slice Ad st.dis.length cd,.slice Af st.fmts.length cf,.slice Ac st.cont.length cc] _ (fun _ h=>h.1) Tryz.underlying25 rfl bB) hH ?_;refine takeD (i:=1) (d:=some 32) (v:=.string comp) rfl rfl bB bB bB (fun _ _ _ h=>h) (.inl ⟨rfl,fun w' _=>by go_simp⟩) hH ?_;refine takeD (i:=2) (d:=some 33) (v:=.string s) rfl rfl bB bB bB (fun _ _ _ h=>h) (.inl ⟨rfl,fun w' _=>by go_simp⟩) hH ?_
    refine takeD (i:=3) (d:=some 34) (v:=.pointer (some ⟨bk,30,none⟩)) rfl rfl bB bB bB (fun _ _ _ h=>h) (.inl ⟨rfl,fun w' _=>by go_simp⟩) hH ?_;refine takeD (i:=4) (d:=some 35) (v:=.int .i64 f_typ) rfl rfl bB bB bB (fun _ _ _ h=>h) (.inl ⟨rfl,fun w' h=>by have k30:w'.cell? ⟨bk,30,none⟩=some (.int .i64 f_typ):=h.2 30 _ HCT;go_simp⟩) hH ?_;refine takeD (i:=6) (d:=some 37) (v:=.agg C.toList.toArray) rfl rfl bB bB bB (fun _ _ _ h=>h) (yieldsIf_load_mid rfl 32 (.tmp 7) rfl bk 0 rfl C.toList _ (fun _ h=>h.2) Tryz.underlying32 rfl iC) hH ?_;have cP:=implForType_calls (HSA.out.below HBV.out).toSiteIn OS comp s f_typ bA HASC;rw[HP.out] at cP;have hpp:({ p with typ:=f_typ }:PathV)=p:=by rw[← e_typ]
    rw[hpp] at cP;refine wpAnyH_ready (rs:=[5]) bB bI ?_;refine comeC (i:=5) (d:=some 36) (R:=fun v w'=>∃ u1 u2 u3,v=toldVal (mTold p) u1 u2 u3∧Path.Told w' V.heap.size p u1 u2 u3∧Below V.heap.size V w') rfl rfl rfl (fun K hK=>call_step (by go_simp) (cP.mono fun e w' ⟨u1,u2,u3,h1,h2,h3⟩=>⟨_,h1,u1,u2,u3,rfl,h2,h3⟩) hK) (fun v w' ⟨_,_,_,_,_,h⟩=>⟨rstep hS9.1 h,rstep hS9.2 h⟩) ?_ AllReadyH.nil;rintro v w5 ⟨u1,u2,u3,rfl,hT,hb5⟩;have HT:=bR hT;have HB5:=bR (below_step HBV.out hb5);have hv:=HBW.out.trans ((below_step HVV.out hb5).mono HBW.out.size)
    have U1:Path.Told w5 0 p v1 v2 v3:=⟨(HSL.out.1.below hv).mono (Nat.zero_le _),(HSL.out.2.1.below hv).mono (Nat.zero_le _),(HSL.out.2.2.below hv).mono (Nat.zero_le _)⟩
    have ca:=alike_told HPO.out.1.toPathIn HPN.out ⟨HT.out.1.mono (Nat.zero_le _),HT.out.2.1.mono (Nat.zero_le _),HT.out.2.2.mono (Nat.zero_le _)⟩ U1
    obtain ⟨Cx,hCx⟩:∃ Cx:Array Value,toldC (mTold p) u1 u2 u3=Cx:=⟨_,rfl⟩
    have hv1:toldVal (mTold p) u1 u2 u3 = .agg Cx:=by rw[← hCx];rfl
    have hv2:toldVal (mTold p) v1 v2 v3 = .agg C.toList.toArray:=by rw[Array.toArray_toList,← HC.out];rfl
    rw[hv1];rw[hv1,hv2] at ca
    have hS8:w5.rangeAt w.heap.size 0 [.slice Al st.langs.length cl,.slice Ad st.dis.length cd,.slice Af st.fmts.length cf,.slice Ac st.cont.length cc]∧w5.rangeAt bk 0 C.toList:=⟨rstep hS9.1 hb5,rstep hS9.2 hb5⟩
    clear cP hT hCx hv1 hv2 U1 hv;refine wpAnyH_ready (rs:=[7]) bB bI ?_;refine comeC (i:=7) (d:=some 38) (R:=fun v w'=>v = .bool true∧Below w5.heap.size w5 w') rfl rfl rfl (fun K hK=>call_step (by go_simp) (ca.mono fun e w' ⟨h1,h2⟩=>⟨_,h1,rfl,h2⟩) hK) (fun v w' ⟨_,h⟩=>⟨rstep hS8.1 h,rstep hS8.2 h⟩) ?_ AllReadyH.nil;rintro v w6 ⟨rfl,hb6⟩;have HB6:=bR (below_step HB5.out hb6)
    have hH:w6.rangeAt w.heap.size 0 [.slice Al st.langs.length cl,.slice Ad st.dis.length cd,.slice Af st.fmts.length cf,.slice Ac st.cont.length cc]∧w6.rangeAt bk 0 C.toList:=⟨rstep hS8.1 hb6,rstep hS8.2 hb6⟩
    refine takeD (i:=8) (d:=some 6) (v:=.bool true) rfl rfl bB bB bB (fun _ _ _ h=>h) (.inl ⟨rfl,fun w' _=>by go_simp⟩) hH ?_;refine wpAnyH_done bB ?_ _;simp only[Act.put,List.setIfInBounds_toArray,List.set_cons_zero,List.set_cons_succ];go_wp2_with fail
    go_ret;exact ⟨rfl,HB6.out⟩
end
set_option maxRecDepth 100000 in
theorem lifted (os:Os) (started:os.Started) (H:Type) (enc:TypeId×Value→H) :
 ReturnsInHanded {} Tryz.checked os 12 .any (fun w args=>(Rows.fnForTypeOwnSpec.pre enc Tryz.prog Tryz.f12 Rows.fnForTypeOwnRow.domain false w args∧laidMetH Tryz.prog Rows.fnForTypeOwnRow.laid w)∧sizedMet enc Tryz.prog Tryz.f12 (OpenSpec.ofChange Rows.fnForTypeOwnSpec) false w args)
  (Rows.fnForTypeOwnSpec.post enc Tryz.prog Tryz.f12 false true false false):=by
 refine returnsInHanded_of_change_and (C:=Tryz.checked) (X:=fun w _=>laidMetH Tryz.prog Rows.fnForTypeOwnRow.laid w) (fun _ _ _ hh h=>h.of_heap hh) RowKit.own started bB Tryz.func12
  (ChangeSpec.witness_shaped (enc:=enc) (C:=Tryz.checked) (os:=os) (X:=fun w _=>laidMetH Tryz.prog Rows.fnForTypeOwnRow.laid w) false (World.laidAll Tryz.prog os Rows.fnForTypeOwnRow.laid) #[.agg #[.slice none 0 0,.slice none 0 0,.slice none 0 0,.slice none 0 0],.string ByteArray.empty,.string ByteArray.empty] 8 (World.laidAll_os _ _ _)
   (World.shaped_of_ZipB bB bB) bB bB bB
   (by rw[MakeChecks.laidMetH_plain _ _ _ bB];exact laidMet_laidAll _ bB bB)) ?_
 intro W base args ds gs before hval0 hW _ _ _ _;have hval:∀ (j:Nat) t v,Tryz.f12.params[j]? = some t→args[j]? = some v→Value.okWide Tryz.prog W .any base t v:=hval0;have hW':=hW;obtain ⟨p,q,hA0,hV,rfl,_,_⟩:=hW;have hA:DataW.TrodAll enc Tryz.prog W 0 (fun _=>true) true Tryz.f12.params.toList args.toList ds p:=hA0;rw[Tryz.params12] at hA hval;obtain ⟨v0,vs0,d0,ds0,p0,q0,hargs,rfl,rfl,h0,r0⟩:=trodAll_cons hA;obtain ⟨v1,vs1,d1,ds1,p1,q1,rfl,rfl,rfl,h1,r1⟩:=trodAll_cons r0;obtain ⟨v2,vs2,d2,ds2,p2,q2,rfl,rfl,rfl,h2,r2⟩:=trodAll_cons r1;obtain ⟨rfl,rfl,rfl⟩:=trodAll_nil r2;obtain rfl:args = #[v0,v1,v2]:=by cases args;simp_all
 obtain ⟨rfl,rfl⟩:=trodVars_none hV;have k0:=h0;have lt0:∀ x∈p0,x.block < W.heap.size:=by obtain ⟨m,hm⟩:=k0;exact DataW.trod_lt m _ _ _ hm
 obtain ⟨st0,vl0,vd0,vf0,vc0,rfl,S0⟩:=SiteRow.open_site (hval 0 25 v0 rfl rfl) h0;obtain ⟨a1,rfl,rfl,rfl,y1⟩:=Go.ChangeMaps.open_string Tryz.underlying9 (hval 1 9 v1 rfl rfl) h1;obtain ⟨a2,rfl,rfl,rfl,y2⟩:=Go.ChangeMaps.open_string Tryz.underlying9 (hval 2 9 v2 rfl rfl) h2;clear hA0 hval0;refine (walk (w:=W) S0 a1 a2).mono fun e W' ⟨he,bel⟩=>?_;subst he;exact ⟨_,rfl,_,_,_,[],_,[],hW',trodAll_mk1 (shut_bool Tryz.underlying4 _),(trodAll_cons_mk (Below.trod SiteRow.laidOut bB (of_decide_eq_true bB) k0 bel lt0) (trodAll_cons_mk (Go.ChangeMaps.shut_string Tryz.underlying9 y1) (trodAll_cons_mk (Go.ChangeMaps.shut_string Tryz.underlying9 y2) trodAll_mk0))),rfl,bel.frame _,fun h=>by cases h⟩
theorem said:Rows.FnForTypeOwnSaid :=
 OpenClaim.holds_of_wide 12 Tryz.f12 rfl rfl rfl rfl rfl rfl rfl ⟨rfl,rfl,rfl,rfl,rfl⟩ rfl rfl rfl rfl rfl bB Tryz.func12 bB
  (of_decide_eq_true bB) (by unfold Func.isWrapper;first | (rw[if_pos (by decide +kernel)];kernel_rfl) | (rw[if_neg (by decide +kernel)];exact ⟨rfl,rfl⟩))
  (fun os started H enc _=>lifted os started H enc)
theorem plain (f:FuncId) (fn:Func) (hf:Tryz.pinned.checked.prog.funcNamed "pub-trackway/laws.FnForTypeOwn" = some f) (hfn:Tryz.pinned.checked.prog.funcs[f]? = some fn) :
 false=Tryz.pinned.checked.prog.looks []∧∀ (j:Nat) t,fn.params[j]? = some t→Tryz.pinned.checked.prog.wantsStandIn t=false:=by
 obtain rfl:f=12:=Option.some.inj ((show Tryz.prog.funcNamed "pub-trackway/laws.FnForTypeOwn" = some 12 by kernel_rfl).symm.trans hf) |>.symm
 obtain rfl:fn=Tryz.f12:=(Option.some.inj (Tryz.func12.symm.trans hfn)).symm;refine ⟨by kernel_rfl,fun j t ht=>?_⟩;rw[Tryz.params12] at ht;have hm:t∈[25,9,9]:=by simpa using Array.mem_of_getElem? ht
 have hall:([25,9,9].all fun u=>!Tryz.prog.wantsStandIn u)=true:=by kernel_rfl
 exact (show Tryz.prog.wantsStandIn t=false by simpa using List.all_eq_true.1 hall t hm)
theorem card:Rows.FnForTypeOwnCardSaid :=
 Claim7.holds_tied_plain_at .later [] _ _ _ _ said (fun _ h=>by cases h) bB (fun _ h=>by cases h) fnForTypeOwn_row_tie rfl ⟨rfl,rfl⟩ bB rfl plain bB
end Go.Proofs.YtmgdbpjidkdegaaGreatDoor.fnForTypeOwn
namespace Go.Proofs.YtmgdbpjidkdegaaGreatDoor
theorem fnForTypeOwn_card:Rows.FnForTypeOwnCardSaid:=fnForTypeOwn.card
#print axioms fnForTypeOwn_card
end Go.Proofs.YtmgdbpjidkdegaaGreatDoor
