/- A resource is one of content where the path is content, else a file; it is no bundle. Condition: none but the statement's own. -/
import Derived.Deep.QuietTactic
import Derived.BigQuiet
import Derived.Test.YtmgdbpjidkdegaaGreatDoorQa
import Derived.Test.YtmgdbpjidkdegaaGreatDoorQ23
set_option linter.unusedVariables false
set_option linter.unusedSimpArgs false
set_option linter.unusedSimpArgs false
set_option linter.unusedVariables false
namespace Go.Proofs.YtmgdbpjidkdegaaGreatDoor.fnResourceType
open Go.ChangeShapes Go.WideShapes Go.ChangeAt Go.RowKit Go.WideMaps Go.Proofs.YtmgdbpjidkdegaaGreatDoorW.PrintWords Go.Proofs.YtmgdbpjidkdegaaGreatDoor.Base Go.Proofs.YtmgdbpjidkdegaaGreatDoor.Lower Go.Proofs.YtmgdbpjidkdegaaGreatDoor.Total Go.Proofs.YtmgdbpjidkdegaaGreatDoor.Path Go.Proofs.YtmgdbpjidkdegaaGreatDoor.PCore
section
variable {w:World} {st:SiteV} {vl vd vf vc:Value}
set_option maxRecDepth 100000 in
set_option maxHeartbeats 4000000 in
theorem walk (S:SiteArg w st vl vd vf vc) (comp s:ByteArray):Calls Tryz.prog 14 #[.agg #[vl,vd,vf,vc],.string comp,.string s] w fun e w'=>e = .returned (.bool true)∧Below w.heap.size w w':=by
 have HSA:=bR S;obtain ⟨Al,cl,rfl,_,_⟩:=S.l;obtain ⟨Ad,cd,rfl,_,_⟩:=S.d;obtain ⟨Af,cf,rfl,_,_⟩:=S.f;obtain ⟨Ac,cc,rfl,_,_⟩:=S.c;clear S;have hB1:Below w.heap.size w (w.alloc (.cells #[.slice Al st.langs.length cl,.slice Ad st.dis.length cd,.slice Af st.fmts.length cf,.slice Ac st.cont.length cc] 25)):=(Below.refl _ _).alloc (Nat.le_refl _) _;have hR1:=Row.new w [.slice Al st.langs.length cl,.slice Ad st.dis.length cd,.slice Af st.fmts.length cf,.slice Ac st.cont.length cc] 25;have hs1:w.heap.size < (w.alloc (.cells #[.slice Al st.langs.length cl,.slice Ad st.dis.length cd,.slice Af st.fmts.length cf,.slice Ac st.cont.length cc] 25)).heap.size:=by simp
 go_enter Tryz.func14,Tryz.ntmps14;go_upto_region 1 with fail
 obtain ⟨w1,hw1⟩:∃ w1,w.alloc (.cells #[.slice Al st.langs.length cl,.slice Ad st.dis.length cd,.slice Af st.fmts.length cf,.slice Ac st.cont.length cc] 25)=w1:=⟨_,rfl⟩
 rw[hw1] at hB1 hR1 hs1 ⊢;clear hw1;have HB1:=bR hB1;have HRS:=bR hR1;have r0:=hR1.at 0 _ rfl;have r1:=hR1.at 1 _ rfl;have r2:=hR1.at 2 _ rfl;have r3:=hR1.at 3 _ rfl;have cz:=zzFits_calls (HSA.out.below hB1)
 obtain ⟨ft,hft⟩:∃ f,fitsS st=f:=⟨_,rfl⟩
 rw[hft] at cz;have HFT:=bR hft
 obtain ⟨q1,hq1⟩:∃ q,decide ((2147483647:Int) < (comp.size:Int))=q:=⟨_,rfl⟩
 obtain ⟨q2,hq2⟩:∃ q,decide ((2147483647:Int) < (s.size:Int))=q:=⟨_,rfl⟩
 have HQ1:=bR hq1;have HQ2:=bR hq2;have hq1' : decide (2147483647 < comp.size)=q1:=by rw[← hq1];by_cases c:2147483647 < comp.size <;> simp[c] <;> omega
 have hq2' : decide (2147483647 < s.size)=q2:=by rw[← hq2];by_cases c:2147483647 < s.size <;> simp[c] <;> omega
 clear hB1 hR1 hft
 go_cut [22] from 10 to 22 (fun sx wx=>sx = .bool (!ft || (q1 || q2))∧Aside0 (Below w1.heap.size w1 wx))
 case first =>
  go_wp2_with fail
  refine cz.mono ?_;rintro e w2 ⟨rfl,hb2⟩;have HB2:=bR hb2;clear hb2 cz;cases ft
  ·go_wp2_with fail
   go_meet
   case rel=>exact ⟨rfl,HB2⟩
  ·cases q1
   ·go_wp2_with fail
    go_meet
    case rel=>exact ⟨rfl,HB2⟩
   ·go_wp2_with fail
    go_meet
    case rel=>exact ⟨rfl,HB2⟩
 case rest =>
  obtain ⟨rfl,HB2⟩:=hcut
  obtain ⟨w2,rfl⟩:∃ x,x=wc:=⟨_,rfl⟩
  clear cz hq1 hq2 hq1' hq2' r0 r1 r2 r3;have HBA:=bR (HB1.out.trans (HB2.out.mono HB1.out.size))
  obtain ⟨g,hg⟩:∃ g,(!ft || (q1 || q2))=g:=⟨_,rfl⟩
  rw[hg];have HG:=bR hg;clear hg;cases g;rotate_left
  ·go_wp2_with fail
   go_ret;exact ⟨rfl,HBA.out⟩
  ·have hf:ft=true∧q1=false∧q2=false:=by have h9:=HG.out;revert h9;cases ft <;> cases q1 <;> cases q2 <;> simp
   obtain ⟨rfl,rfl,rfl⟩:=hf;have hcs:comp.size≤MM:=by have:=of_decide_eq_false HQ1.out;unfold MM;omega
   have hss:s.size≤MM:=by have:=of_decide_eq_false HQ2.out;unfold MM;omega
   have hRs:=HRS.out.below HB2.out hs1;have r0:=hRs.at 0 _ rfl;have r1:=hRs.at 1 _ rfl;have r2:=hRs.at 2 _ rfl;have r3:=hRs.at 3 _ rfl;obtain ⟨ok,HOK,ck⟩:=known_calls (HSA.out.below HBA.out) HFT.out comp s hcs hss;replace HOK:=bR HOK;have HRS2:=bR hRs;clear hRs hcs hss;go_wp2_with fail
   refine ck.mono ?_;rintro e w4 ⟨t,l1,l2,l3,v1,v2,v3,rfl,hs,ht,hb4⟩;have HSL:=bR hs;have HT:=bR ht;have HB4:=bR hb4;obtain ⟨A1,c1,e1,_⟩:=HSL.out.1;obtain ⟨A2,c2,e2,_⟩:=HSL.out.2.1;obtain ⟨A3,c3,e3,_⟩:=HSL.out.2.2;clear ck hs ht hb4 r0 r1 r2 r3
   obtain ⟨C,hC⟩:∃ C:Array Value,toldC t v1 v2 v3=C:=⟨_,rfl⟩
   have hval:toldVal t v1 v2 v3 = .agg C:=by rw[← hC];rfl
   have HCS:=bR (show C.size=31 by rw[← hC];rfl);have HON:=bR (show C.all (·.oneCell')=true by rw[← hC,e1,e2,e3];exact toldC_one _ _ _ _ _ _ _ _ _ _);rw[hval];have HC:=bR hC;clear hval e1 e2 e3 hC;have hRZ:=Row.new w4 toldZero 32;have HCE:=bR (told_cells hRZ rfl HCS.out);have HBW:=bR (told_world w4 C)
   go_upto_region 4 with (first | (refine told_store rfl _ _ rfl w4.heap.size C rfl rfl hRZ rfl HCS.out HON.out ?_) | fail)
   change Code.wp _ _ _ _ ((w4.alloc (.cells toldZero.toArray 32)).setCells w4.heap.size 0 C.toList)
   obtain ⟨W,hW⟩:∃ W,(w4.alloc (.cells toldZero.toArray 32)).setCells w4.heap.size 0 C.toList=W:=⟨_,rfl⟩
   rw[hW] at HCE HBW ⊢
   obtain ⟨bk,hbk⟩:∃ b,w4.heap.size=b:=⟨_,rfl⟩
   have HBK:=bR hbk;rw[hbk] at HCE ⊢;clear hW hbk hRZ;have HBX:=bR (below_step (below_step HBA.out HB4.out) HBW.out);have HRS3:=bR ((HRS2.out.below HB4.out (Nat.lt_of_lt_of_le hs1 HB2.out.size)).below HBW.out (Nat.lt_of_lt_of_le (Nat.lt_of_lt_of_le hs1 HB2.out.size) HB4.out.size));cases ok
   ·go_wp2_with fail
    go_ret;exact ⟨rfl,HBX.out⟩
   ·obtain ⟨ht1,rfl,rfl,rfl⟩:=HT.out (by first | rfl | trivial);obtain ⟨OS,HASC,HASCC,hs400,hc2000,hPK⟩:=HOK.out (by first | rfl | trivial);have HPK:=bR hPK;clear hPK
    obtain ⟨p,hp⟩:∃ p,mPath (envOf st) comp (norm s)=p:=⟨_,rfl⟩
    rw[hp] at ht1 HSL;subst ht1;have HP:=bR hp;have hpo:=mPath_ok (envOf st) comp (norm s) (by rw[norm_size];omega);rw[hp] at hpo;have HPO:=bR hpo;have HPN:=bR (mPath_ne (envOf st) comp (norm s));rw[hp] at HPN;have k9:=HCE.out 9 (.string (nrm p.trim p.s)) (by rw[← HC.out];rfl);have hne:=HPN.out;clear hp hpo HT HOK;clear k9 hne
    obtain ⟨f_isContent,e_isContent⟩:∃ x,mIsContent p=x:=⟨_,rfl⟩
    have k25:=HCE.out 25 (.bool f_isContent) (by rw[← HC.out,← e_isContent];rfl)
    obtain ⟨f_path,e_path⟩:∃ x,nrm p.trim p.s=x:=⟨_,rfl⟩
    have k9:=HCE.out 9 (.string f_path) (by rw[← HC.out,← e_path];rfl);have r0:=HRS3.out.at 0 _ rfl;have r1:=HRS3.out.at 1 _ rfl;have r2:=HRS3.out.at 2 _ rfl;have r3:=HRS3.out.at 3 _ rfl;have hty:=e_isContent;have cP:=implResource_calls (HSA.out.below HBX.out).toSiteIn OS comp s bA HASC;rw[HP.out] at cP;have HBX0:=bR HBX.out;have HVX0:=bR (Below.refl W.heap.size W);have hne:=HPN.out;rw[e_path] at hne
    obtain ⟨ty,hty2⟩:∃ t,resTyp p.typ=t:=⟨_,rfl⟩
    rw[hty2] at cP;have HTY:=bR hty2;have HEP:=bR e_path;have HEC:=bR e_isContent;have HNE:=bR hne;clear hty e_isContent e_path hty2 hne;go_wp2_with fail
    refine cP.mono ?_;rintro e w7 ⟨u1,u2,u3,rfl,hT,hb7⟩;have HT:=bR hT;have HB7:=bR (below_step HBX0.out hb7);have HV7:=bR (below_step HVX0.out hb7);clear cP hT hb7 r0 r1 r2 r3;obtain ⟨D1,d1,e1,_⟩:=HT.out.1;obtain ⟨D2,d2,e2,_⟩:=HT.out.2.1;obtain ⟨D3,d3,e3,_⟩:=HT.out.2.2
    obtain ⟨Cb,hCb⟩:∃ C:Array Value,toldC (mTold { p with typ:=ty }) u1 u2 u3=C:=⟨_,rfl⟩
    have hval:toldVal (mTold { p with typ:=ty }) u1 u2 u3 = .agg Cb:=by rw[← hCb];rfl
    have HCS2:=bR (show Cb.size=31 by rw[← hCb];rfl);have HON2:=bR (show Cb.all (·.oneCell')=true by rw[← hCb,e1,e2,e3];exact toldC_one _ _ _ _ _ _ _ _ _ _);rw[hval];have HC2:=bR hCb;clear hval e1 e2 e3 hCb;have hRZ:=Row.new w7 toldZero 32;have HCE2:=bR (told_cells hRZ rfl HCS2.out);have HBW2:=bR (told_world w7 Cb)
    go_upto_region 7 with (first | (refine told_store rfl _ _ rfl w7.heap.size Cb rfl rfl hRZ rfl HCS2.out HON2.out ?_) | fail)
    change Code.wp _ _ _ _ ((w7.alloc (.cells toldZero.toArray 32)).setCells w7.heap.size 0 Cb.toList)
    obtain ⟨X,hX⟩:∃ X,(w7.alloc (.cells toldZero.toArray 32)).setCells w7.heap.size 0 Cb.toList=X:=⟨_,rfl⟩
    rw[hX] at HCE2 HBW2 ⊢
    obtain ⟨bx,hbx⟩:∃ b,w7.heap.size=b:=⟨_,rfl⟩
    rw[hbx] at HCE2 ⊢;clear hX hbx hRZ;have HBY:=bR (below_step HB7.out HBW2.out);have HVY:=bR (below_step HV7.out HBW2.out);have k9:=cell_step k9 HVY.out;have k25:=cell_step k25 HVY.out;have hne:=HNE.out;have j9:=HCE2.out 9 (.string f_path) (by rw[← HC2.out,← HEP.out];rfl);have j30:=HCE2.out 30 (.int .i64 ty) (by rw[← HC2.out];rfl);have j25:=HCE2.out 25 (.bool (decide (1≤ty∧ty≤5))) (by rw[← HC2.out];rfl);have j26:=HCE2.out 26 (.bool (decide (3≤ty∧ty≤5))) (by rw[← HC2.out];rfl);have hpp:(f_path.toList==f_path.toList)=true:=by simp
    have hcc:f_isContent=decide (1≤p.typ∧p.typ≤5):=HEC.out.symm
    by_cases c:1≤p.typ∧p.typ≤5
    ·obtain rfl:ty=1:=by rw[← HTY.out];exact if_pos c
     obtain rfl:f_isContent=true:=by rw[hcc];exact decide_eq_true c
     have g1:decide ((1:Int)≤1∧(1:Int)≤5)=true:=by decide
     have g2:decide ((3:Int)≤1∧(1:Int)≤5)=false:=by decide
     rw[g1] at j25;rw[g2] at j26;clear g1 g2 c hcc;go_wp2_with fail
     go_ret
     first
     | exact ⟨rfl,HBY.out⟩
     | exact ⟨congrArg (fun b=>Ending.returned (Value.bool b)) (by assumption),HBY.out⟩
    ·obtain rfl:ty=0:=by rw[← HTY.out];exact if_neg c
     obtain rfl:f_isContent=false:=by rw[hcc];exact decide_eq_false c
     have g1:decide ((1:Int)≤0∧(0:Int)≤5)=false:=by decide
     have g2:decide ((3:Int)≤0∧(0:Int)≤5)=false:=by decide
     rw[g1] at j25;rw[g2] at j26;clear g1 g2 c hcc;go_wp2_with fail
     go_ret
     first
     | exact ⟨rfl,HBY.out⟩
     | exact ⟨congrArg (fun b=>Ending.returned (Value.bool b)) (by assumption),HBY.out⟩
end
set_option maxRecDepth 100000 in
theorem lifted (os:Os) (started:os.Started) (H:Type) (enc:TypeId×Value→H) :
 ReturnsInHanded {} Tryz.checked os 14 .any (fun w args=>(Rows.fnResourceTypeSpec.pre enc Tryz.prog Tryz.f14 Rows.fnResourceTypeRow.domain false w args∧laidMetH Tryz.prog Rows.fnResourceTypeRow.laid w)∧sizedMet enc Tryz.prog Tryz.f14 (OpenSpec.ofChange Rows.fnResourceTypeSpec) false w args)
  (Rows.fnResourceTypeSpec.post enc Tryz.prog Tryz.f14 false true false false):=by
 refine returnsInHanded_of_change_and (C:=Tryz.checked) (X:=fun w _=>laidMetH Tryz.prog Rows.fnResourceTypeRow.laid w) (fun _ _ _ hh h=>h.of_heap hh) RowKit.own started bB Tryz.func14
  (ChangeSpec.witness_shaped (enc:=enc) (C:=Tryz.checked) (os:=os) (X:=fun w _=>laidMetH Tryz.prog Rows.fnResourceTypeRow.laid w) false (World.laidAll Tryz.prog os Rows.fnResourceTypeRow.laid) #[.agg #[.slice none 0 0,.slice none 0 0,.slice none 0 0,.slice none 0 0],.string ByteArray.empty,.string ByteArray.empty] 8 (World.laidAll_os _ _ _)
   (World.shaped_of_ZipB bB bB) bB bB bB
   (by rw[MakeChecks.laidMetH_plain _ _ _ bB];exact laidMet_laidAll _ bB bB)) ?_
 intro W base args ds gs before hval0 hW _ _ _ _;have hval:∀ (j:Nat) t v,Tryz.f14.params[j]? = some t→args[j]? = some v→Value.okWide Tryz.prog W .any base t v:=hval0;have hW':=hW;obtain ⟨p,q,hA0,hV,rfl,_,_⟩:=hW;have hA:DataW.TrodAll enc Tryz.prog W 0 (fun _=>true) true Tryz.f14.params.toList args.toList ds p:=hA0;rw[Tryz.params14] at hA hval;obtain ⟨v0,vs0,d0,ds0,p0,q0,hargs,rfl,rfl,h0,r0⟩:=trodAll_cons hA;obtain ⟨v1,vs1,d1,ds1,p1,q1,rfl,rfl,rfl,h1,r1⟩:=trodAll_cons r0;obtain ⟨v2,vs2,d2,ds2,p2,q2,rfl,rfl,rfl,h2,r2⟩:=trodAll_cons r1;obtain ⟨rfl,rfl,rfl⟩:=trodAll_nil r2;obtain rfl:args = #[v0,v1,v2]:=by cases args;simp_all
 obtain ⟨rfl,rfl⟩:=trodVars_none hV;have k0:=h0;have lt0:∀ x∈p0,x.block < W.heap.size:=by obtain ⟨m,hm⟩:=k0;exact DataW.trod_lt m _ _ _ hm
 obtain ⟨st0,vl0,vd0,vf0,vc0,rfl,S0⟩:=SiteRow.open_site (hval 0 25 v0 rfl rfl) h0;obtain ⟨a1,rfl,rfl,rfl,y1⟩:=Go.ChangeMaps.open_string Tryz.underlying9 (hval 1 9 v1 rfl rfl) h1;obtain ⟨a2,rfl,rfl,rfl,y2⟩:=Go.ChangeMaps.open_string Tryz.underlying9 (hval 2 9 v2 rfl rfl) h2;clear hA0 hval0;refine (walk (w:=W) S0 a1 a2).mono fun e W' ⟨he,bel⟩=>?_;subst he;exact ⟨_,rfl,_,_,_,[],_,[],hW',trodAll_mk1 (shut_bool Tryz.underlying4 _),(trodAll_cons_mk (Below.trod SiteRow.laidOut bB (of_decide_eq_true bB) k0 bel lt0) (trodAll_cons_mk (Go.ChangeMaps.shut_string Tryz.underlying9 y1) (trodAll_cons_mk (Go.ChangeMaps.shut_string Tryz.underlying9 y2) trodAll_mk0))),rfl,bel.frame _,fun h=>by cases h⟩
theorem said:Rows.FnResourceTypeSaid :=
 OpenClaim.holds_of_wide 14 Tryz.f14 rfl rfl rfl rfl rfl rfl rfl ⟨rfl,rfl,rfl,rfl,rfl⟩ rfl rfl rfl rfl rfl bB Tryz.func14 bB
  (of_decide_eq_true bB) (by unfold Func.isWrapper;first | (rw[if_pos (by decide +kernel)];kernel_rfl) | (rw[if_neg (by decide +kernel)];exact ⟨rfl,rfl⟩))
  (fun os started H enc _=>lifted os started H enc)
theorem plain (f:FuncId) (fn:Func) (hf:Tryz.pinned.checked.prog.funcNamed "pub-trackway/laws.FnResourceType" = some f) (hfn:Tryz.pinned.checked.prog.funcs[f]? = some fn) :
 false=Tryz.pinned.checked.prog.looks []∧∀ (j:Nat) t,fn.params[j]? = some t→Tryz.pinned.checked.prog.wantsStandIn t=false:=by
 obtain rfl:f=14:=Option.some.inj ((show Tryz.prog.funcNamed "pub-trackway/laws.FnResourceType" = some 14 by kernel_rfl).symm.trans hf) |>.symm
 obtain rfl:fn=Tryz.f14:=(Option.some.inj (Tryz.func14.symm.trans hfn)).symm;refine ⟨by kernel_rfl,fun j t ht=>?_⟩;rw[Tryz.params14] at ht;have hm:t∈[25,9,9]:=by simpa using Array.mem_of_getElem? ht
 have hall:([25,9,9].all fun u=>!Tryz.prog.wantsStandIn u)=true:=by kernel_rfl
 exact (show Tryz.prog.wantsStandIn t=false by simpa using List.all_eq_true.1 hall t hm)
theorem card:Rows.FnResourceTypeCardSaid :=
 Claim7.holds_tied_plain_at .later [] _ _ _ _ said (fun _ h=>by cases h) bB (fun _ h=>by cases h) fnResourceType_row_tie rfl ⟨rfl,rfl⟩ bB rfl plain bB
end Go.Proofs.YtmgdbpjidkdegaaGreatDoor.fnResourceType
namespace Go.Proofs.YtmgdbpjidkdegaaGreatDoor
theorem fnResourceType_card:Rows.FnResourceTypeCardSaid:=fnResourceType.card
#print axioms fnResourceType_card
end Go.Proofs.YtmgdbpjidkdegaaGreatDoor
