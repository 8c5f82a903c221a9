/- A slash ahead is as none. Condition: none but the statement's own. -/
import Derived.Deep.QuietTactic
import Derived.BigQuiet
import Derived.Test.YtjlaamcklhdhaaaGreatDoorV22
set_option linter.unusedSimpArgs false
set_option linter.unusedVariables false
namespace Go.Proofs.YtjlaamcklhdhaaaGreatDoor.fnSlashAhead
open Go.ChangeShapes Go.WideShapes Go.ChangeAt Go.RowKit Go.WideMaps Go.Proofs.YtjlaamcklhdhaaaGreatDoorW.PrintWords Go.Proofs.YtjlaamcklhdhaaaGreatDoor.Base Go.Proofs.YtjlaamcklhdhaaaGreatDoor.Lower Go.Proofs.YtjlaamcklhdhaaaGreatDoor.Total Go.Proofs.YtjlaamcklhdhaaaGreatDoor.Path Go.Proofs.YtjlaamcklhdhaaaGreatDoor.PCore
section
variable {w:World} {st:SiteV} {vl vd vf vc:Value}
set_option maxRecDepth 100000 in
set_option maxHeartbeats 4000000 in
theorem walk (S:SiteArg w st vl vd vf vc) (comp s:ByteArray):Calls Tryz.prog 13 #[.agg #[vl,vd,vf,vc],.string comp,.string s] w fun e w'=>e = .returned (.bool true)∧Below w.heap.size w w':=by
 have HSA:=Aside0.mk S;obtain ⟨Al,cl,rfl,_,_⟩:=S.l;obtain ⟨Ad,cd,rfl,_,_⟩:=S.d;obtain ⟨Af,cf,rfl,_,_⟩:=S.f;obtain ⟨Ac,cc,rfl,_,_⟩:=S.c;clear S;have hB1:Below w.heap.size w (w.alloc (.cells #[.slice Al st.langs.length cl,.slice Ad st.dis.length cd,.slice Af st.fmts.length cf,.slice Ac st.cont.length cc] 25)):=(Below.refl _ _).alloc (Nat.le_refl _) _;have hR1:=Row.new w [.slice Al st.langs.length cl,.slice Ad st.dis.length cd,.slice Af st.fmts.length cf,.slice Ac st.cont.length cc] 25;have hs1:w.heap.size < (w.alloc (.cells #[.slice Al st.langs.length cl,.slice Ad st.dis.length cd,.slice Af st.fmts.length cf,.slice Ac st.cont.length cc] 25)).heap.size:=by simp
 go_enter Tryz.func13,Tryz.ntmps13;go_upto_region 1 with fail
 obtain ⟨w1,hw1⟩:∃ w1,w.alloc (.cells #[.slice Al st.langs.length cl,.slice Ad st.dis.length cd,.slice Af st.fmts.length cf,.slice Ac st.cont.length cc] 25)=w1:=⟨_,rfl⟩
 rw[hw1] at hB1 hR1 hs1 ⊢;clear hw1;have HB1:=Aside0.mk hB1;have HRS:=Aside0.mk hR1;have r0:=hR1.at 0 _ rfl;have r1:=hR1.at 1 _ rfl;have r2:=hR1.at 2 _ rfl;have r3:=hR1.at 3 _ rfl;have cz:=zzFits_calls (HSA.out.below hB1)
 obtain ⟨ft,hft⟩:∃ f,fitsS st=f:=⟨_,rfl⟩
 rw[hft] at cz;have HFT:=Aside0.mk hft
 obtain ⟨q1,hq1⟩:∃ q,decide ((2147483647:Int) < (comp.size:Int))=q:=⟨_,rfl⟩
 obtain ⟨q2,hq2⟩:∃ q,decide ((2147483647:Int) < (s.size:Int))=q:=⟨_,rfl⟩
 have HQ1:=Aside0.mk hq1;have HQ2:=Aside0.mk hq2;have hq1' : decide (2147483647 < comp.size)=q1:=by rw[← hq1];by_cases c:2147483647 < comp.size <;> simp[c] <;> omega
 have hq2' : decide (2147483647 < s.size)=q2:=by rw[← hq2];by_cases c:2147483647 < s.size <;> simp[c] <;> omega
 clear hB1 hR1 hft
 go_cut [21] from 9 to 21 (fun sx wx=>sx = .bool (!ft || (q1 || q2))∧Aside0 (Below w1.heap.size w1 wx))
 case first =>
  go_wp2_with fail
  refine cz.mono ?_;rintro e w2 ⟨rfl,hb2⟩;have HB2:=Aside0.mk hb2;clear hb2 cz;cases ft
  ·go_wp2_with fail
   go_meet
   case rel=>exact ⟨rfl,HB2⟩
  ·cases q1
   ·go_wp2_with fail
    go_meet
    case rel=>exact ⟨rfl,HB2⟩
   ·go_wp2_with fail
    go_meet
    case rel=>exact ⟨rfl,HB2⟩
 case rest =>
  obtain ⟨rfl,HB2⟩:=hcut
  obtain ⟨w2,rfl⟩:∃ x,x=wc:=⟨_,rfl⟩
  clear cz hq1 hq2 hq1' hq2' r0 r1 r2 r3;have HBA:=Aside0.mk (HB1.out.trans (HB2.out.mono HB1.out.size))
  obtain ⟨g,hg⟩:∃ g,(!ft || (q1 || q2))=g:=⟨_,rfl⟩
  rw[hg];have HG:=Aside0.mk hg;clear hg;cases g;rotate_left
  ·go_wp2_with fail
   go_ret;exact ⟨rfl,HBA.out⟩
  ·have hf:ft=true∧q1=false∧q2=false:=by have h9:=HG.out;revert h9;cases ft <;> cases q1 <;> cases q2 <;> simp
   obtain ⟨rfl,rfl,rfl⟩:=hf;have hcs:comp.size≤MM:=by have:=of_decide_eq_false HQ1.out;unfold MM;omega
   have hss:s.size≤MM:=by have:=of_decide_eq_false HQ2.out;unfold MM;omega
   have hRs:=HRS.out.below HB2.out hs1;have r0:=hRs.at 0 _ rfl;have r1:=hRs.at 1 _ rfl;have r2:=hRs.at 2 _ rfl;have r3:=hRs.at 3 _ rfl;obtain ⟨ok,HOK,ck⟩:=known_calls (HSA.out.below HBA.out) HFT.out comp s hcs hss;replace HOK:=Aside0.mk HOK;have HRS2:=Aside0.mk hRs;clear hRs hcs hss;go_wp2_with fail
   refine ck.mono ?_;rintro e w4 ⟨t,l1,l2,l3,v1,v2,v3,rfl,hs,ht,hb4⟩;have HSL:=Aside0.mk hs;have HT:=Aside0.mk ht;have HB4:=Aside0.mk hb4;obtain ⟨A1,c1,e1,_⟩:=HSL.out.1;obtain ⟨A2,c2,e2,_⟩:=HSL.out.2.1;obtain ⟨A3,c3,e3,_⟩:=HSL.out.2.2;clear ck hs ht hb4 r0 r1 r2 r3
   obtain ⟨C,hC⟩:∃ C:Array Value,toldC t v1 v2 v3=C:=⟨_,rfl⟩
   have hval:toldVal t v1 v2 v3 = .agg C:=by rw[← hC];rfl
   have HCS:=Aside0.mk (show C.size=31 by rw[← hC];rfl);have HON:=Aside0.mk (show C.all (·.oneCell')=true by rw[← hC,e1,e2,e3];exact toldC_one _ _ _ _ _ _ _ _ _ _);rw[hval];have HC:=Aside0.mk hC;clear hval e1 e2 e3 hC;have hRZ:=Row.new w4 toldZero 28;have HCE:=Aside0.mk (told_cells hRZ rfl HCS.out);have HBW:=Aside0.mk (told_world w4 C)
   go_upto_region 4 with (first | (refine told_store rfl _ _ rfl w4.heap.size C rfl rfl hRZ rfl HCS.out HON.out ?_) | fail)
   change Code.wp _ _ _ _ ((w4.alloc (.cells toldZero.toArray 28)).setCells w4.heap.size 0 C.toList)
   obtain ⟨W,hW⟩:∃ W,(w4.alloc (.cells toldZero.toArray 28)).setCells w4.heap.size 0 C.toList=W:=⟨_,rfl⟩
   rw[hW] at HCE HBW ⊢
   obtain ⟨bk,hbk⟩:∃ b,w4.heap.size=b:=⟨_,rfl⟩
   have HBK:=Aside0.mk hbk;rw[hbk] at HCE ⊢;clear hW hbk hRZ;have HBX:=Aside0.mk (below_step (below_step HBA.out HB4.out) HBW.out);have HRS3:=Aside0.mk ((HRS2.out.below HB4.out (Nat.lt_of_lt_of_le hs1 HB2.out.size)).below HBW.out (Nat.lt_of_lt_of_le (Nat.lt_of_lt_of_le hs1 HB2.out.size) HB4.out.size));cases ok
   ·go_wp2_with fail
    go_ret;exact ⟨rfl,HBX.out⟩
   ·obtain ⟨ht1,rfl,rfl,rfl⟩:=HT.out (by first | rfl | trivial);obtain ⟨OS,HASC,HASCC,hs400,hc2000,hPK⟩:=HOK.out (by first | rfl | trivial);have HPK:=Aside0.mk hPK;clear hPK
    obtain ⟨p,hp⟩:∃ p,mPath (envOf st) comp (norm s)=p:=⟨_,rfl⟩
    rw[hp] at ht1 HSL;subst ht1;have HP:=Aside0.mk hp;have hpo:=mPath_ok (envOf st) comp (norm s) (by rw[norm_size];omega);rw[hp] at hpo;have HPO:=Aside0.mk hpo;have HPN:=Aside0.mk (mPath_ne (envOf st) comp (norm s));rw[hp] at HPN;have k9:=HCE.out 9 (.string (nrm p.trim p.s)) (by rw[← HC.out];rfl);have hne:=HPN.out;clear hp hpo HT HOK;go_upto_if 35 with fail
    clear k9 hne;have HRC:=Aside0.mk (show W.rangeAt bk 0 C.toList from fun j v hv=>by rw[Nat.zero_add];exact HCE.out j v hv);have hls:((⟨#[47]⟩:ByteArray)++s).size=s.size+1:=by rw[size_append];have:(⟨#[47]⟩:ByteArray).size=1:=rfl;omega
    obtain ⟨bg,hbg⟩:∃ b,(L (⟨#[47]⟩:ByteArray)).isPrefixOf (L s)=b:=⟨_,rfl⟩
    have x1:∀ w,Calls Tryz.prog 18 #[.string s,.string ⟨#[47]⟩] w fun e w'=>e = .returned (.bool bg)∧Below w.heap.size w w':=fun w=>by have:=begins_calls s ⟨#[47]⟩ w;rwa[hbg] at this
    go_wp2_with fail
    refine (x1 _).mono ?_;rintro e w5 ⟨rfl,hb5⟩;have HB5:=Aside0.mk (below_step HBX.out hb5);have HRS5:=Aside0.mk (HRS3.out.below hb5 (HRS3.out.lt (by simp)));have HRC5:=Aside0.mk (rstep HRC.out hb5);have HV5:=Aside0.mk hb5;clear hb5 x1;cases bg;rotate_left
    ·go_wp2_with fail
     go_ret
     first
     | exact ⟨rfl,HB5.out⟩
     | exact ⟨congrArg (fun b=>Ending.returned (Value.bool b)) (by assumption),HB5.out⟩
    ·have hhd:(L s).head?≠some 47:=by
      intro h
      cases hl:L s with
      | nil=>rw[hl] at h;cases h
      | cons a m =>
       rw[hl] at h hbg;simp only[List.head?_cons,Option.some.injEq] at h;subst h;cases hbg
     have heq:=slash_ahead (E:=envOf st) (comp:=comp) hhd;clear hbg hhd;obtain ⟨kn,hkn,ck⟩:=pathKnown_at (HSA.out.below HB5.out) HPK.out comp ((⟨#[47]⟩:ByteArray)++s) (by omega) (by omega);have ck:=ck w5 (Below.refl _ _);have r0:=HRS5.out.at 0 _ rfl;have r1:=HRS5.out.at 1 _ rfl;have r2:=HRS5.out.at 2 _ rfl;have r3:=HRS5.out.at 3 _ rfl;go_wp2_with fail
     refine ck.mono ?_;rintro e w6 ⟨rfl,hb6⟩;have HB6:=Aside0.mk (below_step HB5.out hb6);have HRS6:=Aside0.mk (HRS5.out.below hb6 (HRS5.out.lt (by simp)));have HRC6:=Aside0.mk (rstep HRC5.out hb6);have HV6:=Aside0.mk (below_step HV5.out hb6);clear hb6 ck r0 r1 r2 r3;cases kn
     ·go_wp2_with fail
      go_ret
      first
      | exact ⟨rfl,HB6.out⟩
      | exact ⟨congrArg (fun b=>Ending.returned (Value.bool b)) (by assumption),HB6.out⟩
     ·go_wp2_with fail
      obtain ⟨hasc,_,_,_⟩:=hkn (by first | rfl | trivial)
      have hS9:w6.drew.rangeAt w.heap.size 0 [.slice Al st.langs.length cl,.slice Ad st.dis.length cd,.slice Af st.fmts.length cf,.slice Ac st.cont.length cc]∧w6.drew.rangeAt bk 0 C.toList:=⟨(World.rangeAt_drew _ _ _ _).2 HRS6.out.range,(World.rangeAt_drew _ _ _ _).2 HRC6.out⟩
      refine wp_region_held_drew (S:=fun w'=>w'.rangeAt w.heap.size 0 [.slice Al st.langs.length cl,.slice Ad st.dis.length cd,.slice Af st.fmts.length cf,.slice Ac st.cont.length cc]∧w'.rangeAt bk 0 C.toList) (by kernel_rfl) hS9 (fun hH=>?_);have HBV:=Aside0.mk HB6.out.drew;have HVV:=Aside0.mk HV6.out.drew
      obtain ⟨V,hV⟩:∃ V,w6.drew=V:=⟨_,rfl⟩
      rw[hV] at hS9 HBV HVV hH ⊢;clear hV;have iC:(Tryz.prog.info? 28).map (·.size)=some C.toList.length:=by rw[Array.length_toList,HCS.out];kernel_rfl
      refine takeD (i:=0) (d:=some 48) (v:=.agg #[.slice Al st.langs.length cl,.slice Ad st.dis.length cd,.slice Af st.fmts.length cf,.slice Ac st.cont.length cc]) rfl rfl (by kernel_rfl) (by kernel_rfl) (by kernel_rfl) (fun _ _ _ h=>h) (yieldsIf_load_mid rfl 25 (.tmp 3) rfl w.heap.size 0 rfl [.slice Al st.langs.length cl,.slice Ad st.dis.length cd,.slice Af st.fmts.length cf,.slice Ac st.cont.length cc] _ (fun _ h=>h.1) Tryz.underlying25 rfl (by kernel_rfl)) hH ?_;refine takeD (i:=1) (d:=some 49) (v:=.string comp) rfl rfl (by kernel_rfl) (by kernel_rfl) (by kernel_rfl) (fun _ _ _ h=>h) (.inl ⟨rfl,fun w' _=>by go_simp⟩) hH ?_;refine takeD (i:=2) (d:=some 50) (v:=.string s) rfl rfl (by kernel_rfl) (by kernel_rfl) (by kernel_rfl) (fun _ _ _ h=>h) (.inl ⟨rfl,fun w' _=>by go_simp⟩) hH ?_
      refine takeD (i:=3) (d:=some 51) (v:=.string ((⟨#[47]⟩:ByteArray)++s)) rfl rfl (by kernel_rfl) (by kernel_rfl) (by kernel_rfl) (fun _ _ _ h=>h) (.inl ⟨rfl,fun w' _=>by go_simp;omega⟩) hH ?_;refine takeD (i:=5) (d:=some 53) (v:=.agg C.toList.toArray) rfl rfl (by kernel_rfl) (by kernel_rfl) (by kernel_rfl) (fun _ _ _ h=>h) (yieldsIf_load_mid rfl 28 (.tmp 7) rfl bk 0 rfl C.toList _ (fun _ h=>h.2) Tryz.underlying28 rfl iC) hH ?_;have cP:=implParse_calls (HSA.out.below HBV.out).toSiteIn OS comp ((⟨#[47]⟩:ByteArray)++s) (by omega) hasc;rw[heq,HP.out] at cP;refine wpAnyH_ready (rs:=[4]) (by kernel_rfl) (by simp) ?_
      refine comeC (i:=4) (d:=some 52) (R:=fun v w'=>∃ u1 u2 u3,v=toldVal (mTold p) u1 u2 u3∧Path.Told w' V.heap.size p u1 u2 u3∧Below V.heap.size V w') rfl rfl rfl (fun K hK=>call_step (by go_simp) (cP.mono fun e w' ⟨u1,u2,u3,h1,h2,h3⟩=>⟨_,h1,u1,u2,u3,rfl,h2,h3⟩) hK) (fun v w' ⟨_,_,_,_,_,h⟩=>⟨rstep hS9.1 h,rstep hS9.2 h⟩) ?_ AllReadyH.nil;rintro v w7 ⟨u1,u2,u3,rfl,hT,hb7⟩;have HT:=Aside0.mk hT;have HB7:=Aside0.mk (below_step HBV.out hb7);have hv:=HBW.out.trans ((below_step HVV.out hb7).mono HBW.out.size)
      have U1:Path.Told w7 0 p v1 v2 v3:=⟨(HSL.out.1.below hv).mono (Nat.zero_le _),(HSL.out.2.1.below hv).mono (Nat.zero_le _),(HSL.out.2.2.below hv).mono (Nat.zero_le _)⟩
      have ca:=alike_told HPO.out.1.toPathIn HPN.out ⟨HT.out.1.mono (Nat.zero_le _),HT.out.2.1.mono (Nat.zero_le _),HT.out.2.2.mono (Nat.zero_le _)⟩ U1
      obtain ⟨Cx,hCx⟩:∃ Cx:Array Value,toldC (mTold p) u1 u2 u3=Cx:=⟨_,rfl⟩
      have hv1:toldVal (mTold p) u1 u2 u3 = .agg Cx:=by rw[← hCx];rfl
      have hv2:toldVal (mTold p) v1 v2 v3 = .agg C.toList.toArray:=by rw[Array.toArray_toList,← HC.out];rfl
      rw[hv1];rw[hv1,hv2] at ca
      have hS8:w7.rangeAt w.heap.size 0 [.slice Al st.langs.length cl,.slice Ad st.dis.length cd,.slice Af st.fmts.length cf,.slice Ac st.cont.length cc]∧w7.rangeAt bk 0 C.toList:=⟨rstep hS9.1 hb7,rstep hS9.2 hb7⟩
      clear cP hT hCx hv1 hv2 U1 hv;refine wpAnyH_ready (rs:=[6]) (by kernel_rfl) (by simp) ?_;refine comeC (i:=6) (d:=some 54) (R:=fun v w'=>v = .bool true∧Below w7.heap.size w7 w') rfl rfl rfl (fun K hK=>call_step (by go_simp) (ca.mono fun e w' ⟨h1,h2⟩=>⟨_,h1,rfl,h2⟩) hK) (fun v w' ⟨_,h⟩=>⟨rstep hS8.1 h,rstep hS8.2 h⟩) ?_ AllReadyH.nil;rintro v w8 ⟨rfl,hb8⟩;have HB8:=Aside0.mk (below_step HB7.out hb8)
      have hH:w8.rangeAt w.heap.size 0 [.slice Al st.langs.length cl,.slice Ad st.dis.length cd,.slice Af st.fmts.length cf,.slice Ac st.cont.length cc]∧w8.rangeAt bk 0 C.toList:=⟨rstep hS8.1 hb8,rstep hS8.2 hb8⟩
      refine takeD (i:=7) (d:=some 6) (v:=.bool true) rfl rfl (by kernel_rfl) (by kernel_rfl) (by kernel_rfl) (fun _ _ _ h=>h) (.inl ⟨rfl,fun w' _=>by go_simp⟩) hH ?_;refine wpAnyH_done (by kernel_rfl) ?_ _;simp only[Act.put,List.setIfInBounds_toArray,List.set_cons_zero,List.set_cons_succ];go_wp2_with fail
      go_ret;exact ⟨rfl,HB8.out⟩
end
set_option maxRecDepth 100000 in
theorem lifted (os:Os) (started:os.Started) (H:Type) (enc:TypeId×Value→H) :
 ReturnsInHanded {} Tryz.checked os 13 .any (fun w args=>(Rows.fnSlashAheadSpec.pre enc Tryz.prog Tryz.f13 Rows.fnSlashAheadRow.domain false w args∧laidMetH Tryz.prog Rows.fnSlashAheadRow.laid w)∧sizedMet enc Tryz.prog Tryz.f13 (OpenSpec.ofChange Rows.fnSlashAheadSpec) false w args)
  (Rows.fnSlashAheadSpec.post enc Tryz.prog Tryz.f13 false true false false):=by
 refine returnsInHanded_of_change_and (C:=Tryz.checked) (X:=fun w _=>laidMetH Tryz.prog Rows.fnSlashAheadRow.laid w) (fun _ _ _ hh h=>h.of_heap hh) RowKit.own started (by kernel_rfl) Tryz.func13
  (ChangeSpec.witness_shaped (enc:=enc) (C:=Tryz.checked) (os:=os) (X:=fun w _=>laidMetH Tryz.prog Rows.fnSlashAheadRow.laid w) false (World.laidAll Tryz.prog os Rows.fnSlashAheadRow.laid) #[.agg #[.slice none 0 0,.slice none 0 0,.slice none 0 0,.slice none 0 0],.string ByteArray.empty,.string ByteArray.empty] 8 (World.laidAll_os _ _ _)
   (World.shaped_of_ZipB (by kernel_rfl) (by kernel_rfl)) (by kernel_rfl) (by kernel_rfl) (by kernel_rfl)
   (by rw[MakeChecks.laidMetH_plain _ _ _ (by kernel_rfl)];exact laidMet_laidAll _ (by kernel_rfl) (by kernel_rfl))) ?_
 intro W base args ds gs before hval0 hW _ _ _ _;have hval:∀ (j:Nat) t v,Tryz.f13.params[j]? = some t→args[j]? = some v→Value.okWide Tryz.prog W .any base t v:=hval0;have hW':=hW;obtain ⟨p,q,hA0,hV,rfl,_,_⟩:=hW;have hA:DataW.TrodAll enc Tryz.prog W 0 (fun _=>true) true Tryz.f13.params.toList args.toList ds p:=hA0;rw[Tryz.params13] at hA hval;obtain ⟨v0,vs0,d0,ds0,p0,q0,hargs,rfl,rfl,h0,r0⟩:=trodAll_cons hA;obtain ⟨v1,vs1,d1,ds1,p1,q1,rfl,rfl,rfl,h1,r1⟩:=trodAll_cons r0;obtain ⟨v2,vs2,d2,ds2,p2,q2,rfl,rfl,rfl,h2,r2⟩:=trodAll_cons r1;obtain ⟨rfl,rfl,rfl⟩:=trodAll_nil r2;obtain rfl:args = #[v0,v1,v2]:=by cases args;simp_all
 obtain ⟨rfl,rfl⟩:=trodVars_none hV;have k0:=h0;have lt0:∀ x∈p0,x.block < W.heap.size:=by obtain ⟨m,hm⟩:=k0;exact DataW.trod_lt m _ _ _ hm
 obtain ⟨st0,vl0,vd0,vf0,vc0,rfl,S0⟩:=SiteRow.open_site (hval 0 25 v0 rfl rfl) h0;obtain ⟨a1,rfl,rfl,rfl,y1⟩:=Go.ChangeMaps.open_string Tryz.underlying9 (hval 1 9 v1 rfl rfl) h1;obtain ⟨a2,rfl,rfl,rfl,y2⟩:=Go.ChangeMaps.open_string Tryz.underlying9 (hval 2 9 v2 rfl rfl) h2;clear hA0 hval0;refine (walk (w:=W) S0 a1 a2).mono fun e W' ⟨he,bel⟩=>?_;subst he;exact ⟨_,rfl,_,_,_,[],_,[],hW',trodAll_mk1 (shut_bool Tryz.underlying4 _),(trodAll_cons_mk (Below.trod SiteRow.laidOut (by kernel_rfl) (of_decide_eq_true (by kernel_rfl)) k0 bel lt0) (trodAll_cons_mk (Go.ChangeMaps.shut_string Tryz.underlying9 y1) (trodAll_cons_mk (Go.ChangeMaps.shut_string Tryz.underlying9 y2) trodAll_mk0))),rfl,bel.frame _,fun h=>by cases h⟩
theorem said:Rows.FnSlashAheadSaid :=
 OpenClaim.holds_of_wide 13 Tryz.f13 rfl rfl rfl rfl rfl rfl rfl ⟨rfl,rfl,rfl,rfl,rfl⟩ rfl rfl rfl rfl rfl (by kernel_rfl) Tryz.func13 (by kernel_rfl)
  (of_decide_eq_true (by kernel_rfl)) (by unfold Func.isWrapper;first | (rw[if_pos (by decide +kernel)];kernel_rfl) | (rw[if_neg (by decide +kernel)];exact ⟨rfl,rfl⟩))
  (fun os started H enc _=>lifted os started H enc)
theorem plain (f:FuncId) (fn:Func) (hf:Tryz.pinned.checked.prog.funcNamed "pub-trackway/laws.FnSlashAhead" = some f) (hfn:Tryz.pinned.checked.prog.funcs[f]? = some fn) :
 false=Tryz.pinned.checked.prog.looks []∧∀ (j:Nat) t,fn.params[j]? = some t→Tryz.pinned.checked.prog.wantsStandIn t=false:=by
 obtain rfl:f=13:=Option.some.inj ((show Tryz.prog.funcNamed "pub-trackway/laws.FnSlashAhead" = some 13 by kernel_rfl).symm.trans hf) |>.symm
 obtain rfl:fn=Tryz.f13:=(Option.some.inj (Tryz.func13.symm.trans hfn)).symm;refine ⟨by kernel_rfl,fun j t ht=>?_⟩;rw[Tryz.params13] at ht;have hm:t∈[25,9,9]:=by simpa using Array.mem_of_getElem? ht
 have hall:([25,9,9].all fun u=>!Tryz.prog.wantsStandIn u)=true:=by kernel_rfl
 exact (show Tryz.prog.wantsStandIn t=false by simpa using List.all_eq_true.1 hall t hm)
theorem card:Rows.FnSlashAheadCardSaid :=
 Claim7.holds_tied_plain_at .later [] _ _ _ _ said (fun _ h=>by cases h) (by kernel_rfl) (fun _ h=>by cases h) fnSlashAhead_row_tie rfl ⟨rfl,rfl⟩ (by kernel_rfl) rfl plain (by kernel_rfl)
end Go.Proofs.YtjlaamcklhdhaaaGreatDoor.fnSlashAhead
namespace Go.Proofs.YtjlaamcklhdhaaaGreatDoor
theorem fnSlashAhead_card:Rows.FnSlashAheadCardSaid:=fnSlashAhead.card
#print axioms fnSlashAhead_card
end Go.Proofs.YtjlaamcklhdhaaaGreatDoor
