/- Of any path: the answer Parse is what the reference tells. Condition: none but the statement's own. -/
import Derived.Deep.QuietTactic
import Derived.BigQuiet
import Derived.Test.YtcdgldnphhidlaaGreatDoorQa
import Derived.Test.YtcdgldnphhidlaaGreatDoorQ28
import Derived.Test.YtcdgldnphhidlaaGreatDoorQ30
set_option linter.unusedVariables false
set_option linter.unusedSimpArgs false
set_option maxRecDepth 100000
set_option maxHeartbeats 16000000
namespace Go.Proofs.YtcdgldnphhidlaaGreatDoor.fnParse
open Go.ChangeShapes Go.WideShapes Go.ChangeAt Go.RowKit Go.WideMaps Go.ZW.PrintWords Go.Proofs.YtcdgldnphhidlaaGreatDoor.Base Go.Proofs.YtcdgldnphhidlaaGreatDoor.Lower Go.Proofs.YtcdgldnphhidlaaGreatDoor.Total Go.Proofs.YtcdgldnphhidlaaGreatDoor.Path Go.Proofs.YtcdgldnphhidlaaGreatDoor.PCore
theorem alike_t {w:World} {t:gK} (hne:(t.path.toList==[])=false) (l1:t.langs.length≤1000000) (l2:t.ids.length≤1000000) (l3:t.unk.length≤1000000) {v1 v2 v3 u1 u2 u3:Value} (T1:oC w 0 t v1 v2 v3) (T2:oC w 0 t u1 u2 u3) :
 Calls Tryz.prog 39 #[iH t v1 v2 v3,iH t u1 u2 u3] w fun e w'=>e = .returned (.bool true)∧Below w.heap.size w w':=by
 obtain ⟨S1,S2,S3⟩:=T1;obtain ⟨U1,U2,U3⟩:=T2;obtain ⟨a1,c1,rfl,_⟩:=id S1;obtain ⟨a2,c2,rfl,_⟩:=id S2;obtain ⟨a3,c3,rfl,_⟩:=id S3;obtain ⟨b1,d1,rfl,_⟩:=id U1;obtain ⟨b2,d2,rfl,_⟩:=id U2;obtain ⟨b3,d3,rfl,_⟩:=id U3;exact yI (f0:=t.component) (f1:=t.container) (f2:=t.containerDir) (f3:=t.section_) (f4:=t.name) (f5:=t.nameNoExt) (f6:=t.baseName) (f7:=t.nameNoId) (f8:=t.dir) (f9:=t.path) (f10:=t.pathNoLang) (f11:=t.pathNoId) (f12:=t.pathBefore) (f13:=t.base) (f14:=t.idBase) (f15:=t.ext) (f16:=t.fmt) (f17:=t.kind) (f18:=t.layout) (f19:=t.lang) (f20:=t.custom) (f24:=t.disabled) (f25:=t.isContent) (f26:=t.isBundle) (f27:=t.isBranch) (f28:=t.isLeaf) (f29:=t.isData) (f30:=t.typ) hne l1 l2 l3 S1 S2 S3 U1 U2 U3
section
variable {w:World} {st:eW} {vl vd vf vc:Value}
theorem walk (S:mM w st vl vd vf vc) (comp s:ByteArray):Calls Tryz.prog 13 #[.agg #[vl,vd,vf,vc],.string comp,.string s] w fun e w'=>e = .returned (.bool true)∧Below w.heap.size w w':=by
 have HSA:=cB S;obtain ⟨Al,cl,rfl,_,_⟩:=S.l;obtain ⟨Ad,cd,rfl,_,_⟩:=S.d;obtain ⟨Af,cf,rfl,_,_⟩:=S.f;obtain ⟨Ac,cc,rfl,_,_⟩:=S.c;clear S;have hB1:Below w.heap.size w (w.alloc (.cells #[.slice Al st.langs.length cl,.slice Ad st.dis.length cd,.slice Af st.fmts.length cf,.slice Ac st.cont.length cc] 25)):=(Below.refl _ _).alloc (Nat.le_refl _) _;have hR1:=Row.new w [.slice Al st.langs.length cl,.slice Ad st.dis.length cd,.slice Af st.fmts.length cf,.slice Ac st.cont.length cc] 25;have hs1:w.heap.size < (w.alloc (.cells #[.slice Al st.langs.length cl,.slice Ad st.dis.length cd,.slice Af st.fmts.length cf,.slice Ac st.cont.length cc] 25)).heap.size:=by simp
 go_enter Tryz.func13,Tryz.ntmps13;go_upto_region 1 with fail
 obtain ⟨w1,hw1⟩:∃ w1,w.alloc (.cells #[.slice Al st.langs.length cl,.slice Ad st.dis.length cd,.slice Af st.fmts.length cf,.slice Ac st.cont.length cc] 25)=w1:=⟨_,rfl⟩
 rw[hw1] at hB1 hR1 hs1 ⊢;clear hw1;have HB1:=cB hB1;have HRS:=cB hR1;have r0:=hR1.at 0 _ rfl;have r1:=hR1.at 1 _ rfl;have r2:=hR1.at 2 _ rfl;have r3:=hR1.at 3 _ rfl;have cz:=qO (HSA.out.below hB1)
 obtain ⟨ft,hft⟩:∃ f,rB st=f:=⟨_,rfl⟩
 rw[hft] at cz;have HFT:=cB hft
 obtain ⟨q1,hq1⟩:∃ q,decide ((2147483647:Int) < (comp.size:Int))=q:=⟨_,rfl⟩
 obtain ⟨q2,hq2⟩:∃ q,decide ((2147483647:Int) < (s.size:Int))=q:=⟨_,rfl⟩
 have HQ1:=cB hq1;have HQ2:=cB hq2;have hq1' : decide (2147483647 < comp.size)=q1:=by rw[← hq1];by_cases c:2147483647 < comp.size <;> simp[c] <;> omega
 have hq2' : decide (2147483647 < s.size)=q2:=by rw[← hq2];by_cases c:2147483647 < s.size <;> simp[c] <;> omega
 clear hB1 hR1 hft
 go_cut [22] from 10 to 22 (fun sx wx=>sx = .bool (!ft || (q1 || q2))∧Aside0 (Below w1.heap.size w1 wx))
 case first =>
  go_wp2_with fail
  refine cz.mono ?_;rintro e w2 ⟨rfl,hb2⟩;have HB2:=cB hb2;clear hb2 cz;cases ft
  ·go_wp2_with fail
   go_meet
   case rel=>exact ⟨rfl,HB2⟩
  cases q1
  ·go_wp2_with fail
   go_meet
   case rel=>exact ⟨rfl,HB2⟩
  go_wp2_with fail
  go_meet
  case rel=>exact ⟨rfl,HB2⟩
 obtain ⟨rfl,HB2⟩:=hcut
 obtain ⟨w2,rfl⟩:∃ x,x=wc:=⟨_,rfl⟩
 clear cz hq1 hq2 hq1' hq2' r0 r1 r2 r3;have HBA:=cB (HB1.out.trans (HB2.out.mono HB1.out.size))
 obtain ⟨g,hg⟩:∃ g,(!ft || (q1 || q2))=g:=⟨_,rfl⟩
 rw[hg];have HG:=cB hg;clear hg;cases g;rotate_left
 ·go_wp2_with fail
  go_ret;exact ⟨rfl,HBA.out⟩
 have hf:ft=true∧q1=false∧q2=false:=by have h9:=HG.out;revert h9;cases ft <;> cases q1 <;> cases q2 <;> simp
 obtain ⟨rfl,rfl,rfl⟩:=hf;have hcs:comp.size≤MM:=by have:=of_decide_eq_false HQ1.out;unfold MM;omega
 have hss:s.size≤MM:=by have:=of_decide_eq_false HQ2.out;unfold MM;omega
 have hRs:=HRS.out.below HB2.out hs1;have r0:=hRs.at 0 _ rfl;have r1:=hRs.at 1 _ rfl;have r2:=hRs.at 2 _ rfl;have r3:=hRs.at 3 _ rfl;obtain ⟨ok,HOK,ck⟩:=aEq (HSA.out.below HBA.out) HFT.out comp s hcs hss;replace HOK:=cB HOK;clear hRs hcs hss;go_wp2_with fail
 refine ck.mono ?_;rintro e w4 ⟨t,v1,v2,v3,u1,u2,u3,rfl,hs,hu,ht,hb4⟩;have HSL:=cB hs;have HUL:=cB hu;have HT:=cB ht;have HB4:=cB hb4;clear ck hs hu ht hb4 r0 r1 r2 r3
 obtain ⟨C,hC⟩:∃ C:Array Value,nV t v1 v2 v3=C:=⟨_,rfl⟩
 obtain ⟨D,hD⟩:∃ D:Array Value,nV t u1 u2 u3=D:=⟨_,rfl⟩
 have hval:iH t v1 v2 v3 = .agg C:=by rw[← hC];rfl
 have hvbl:iH t u1 u2 u3 = .agg D:=by rw[← hD];rfl
 have HCS:=cB (show C.size=31 by rw[← hC];rfl);have HDS:=cB (show D.size=31 by rw[← hD];rfl);have HON:=cB (show C.all (·.oneCell')=true by rw[← hC];exact HSL.out.one);have HDN:=cB (show D.all (·.oneCell')=true by rw[← hD];exact HUL.out.one);rw[hval,hvbl];have HC:=cB hC;have HD:=cB hD;clear hval hvbl hC hD;have hRA:=(Row.new w4 eZ 35).alloc ((Row.new w4 eZ 35).lt bF) (.cells eZ.toArray 35);have hRB:=Row.new (w4.alloc (.cells eZ.toArray 35)) eZ 35;rw[show (w4.alloc (.cells eZ.toArray 35)).heap.size=w4.heap.size+1 by simp] at hRB;have HRA:=cB hRA;have HRB:=cB hRB;have HCE:=cB (lZ (Row.setAll (ds:=C.toList) hRA (by rw[Array.length_toList,HCS.out];rfl)) (show w4.heap.size≠w4.heap.size+1 by omega) D)
 have HDE:=cB (Row.setAll (ds:=D.toList) (lZ hRB (show w4.heap.size+1≠w4.heap.size by omega) C) (by rw[Array.length_toList,HDS.out];rfl));have HBW:Aside0 (Below w4.heap.size w4 ((((w4.alloc (.cells eZ.toArray 35)).alloc (.cells eZ.toArray 35)).setCells w4.heap.size 0 C.toList).setCells (w4.heap.size+1) 0 D.toList)):=cB (below_setCells bA _ _ _ (below_setCells bA _ _ _ (((Below.refl _ _).alloc (Nat.le_refl _) _).alloc bI _)));clear hRA hRB
 go_upto_region 4 with (first | (refine kZ rfl (.tmp 7) (.tmp 28) rfl w4.heap.size C rfl rfl ?q4 (cs:=eZ) rfl HCS.out HON.out ?_;(case q4=>exact HRA.out)) | (refine kZ rfl (.tmp 8) (.tmp 29) rfl (w4.heap.size+1) D rfl rfl ?q4 (cs:=eZ) rfl HDS.out HDN.out ?_;(case q4=>exact lZ HRB.out bA _)) | fail)
 change Code.wp _ _ _ _ ((((w4.alloc (.cells eZ.toArray 35)).alloc (.cells eZ.toArray 35)).setCells w4.heap.size 0 C.toList).setCells (w4.heap.size+1) 0 D.toList)
 obtain ⟨W,hW⟩:∃ W,(((w4.alloc (.cells eZ.toArray 35)).alloc (.cells eZ.toArray 35)).setCells w4.heap.size 0 C.toList).setCells (w4.heap.size+1) 0 D.toList=W:=⟨_,rfl⟩
 rw[hW] at HCE HDE HBW ⊢
 obtain ⟨bk,hbk⟩:∃ b,w4.heap.size=b:=⟨_,rfl⟩
 have HBK:=cB hbk;rw[hbk] at HCE HDE ⊢;clear hW hbk HRA HRB;have HBX:=cB (eD (eD HBA.out HB4.out) HBW.out);cases ok
 ·go_wp2_with fail
  go_ret;exact ⟨rfl,HBX.out⟩
 have ht:=HT.out bM;obtain ⟨OS,HASC,HASCC,hs400,hc2000,hPK⟩:=HOK.out bM;have hpo:=qR (eJ st) comp (norm s) (by rw[norm_size];omega);have hl1:t.langs.length≤1000000:=by rw[ht];show (jW _).length≤_;unfold jW;rw[List.length_map];exact hpo.1.toPathIn.ll
 have hl2:t.ids.length≤1000000:=by rw[ht];show (kB _).length≤_;unfold kB;rw[List.length_map];exact hpo.1.toPathIn.kl
 have hl3:t.unk.length≤1000000:=by rw[ht];show (lK _).length≤_;unfold lK;rw[List.length_map];exact hpo.1.toPathIn.ul
 have hne:(t.path.toList==[])=false:=by rw[ht];exact sV (eJ st) comp (norm s)
 have hAk:oC W 0 t v1 v2 v3:=(HSL.out.below HBW.out).mono (Nat.zero_le _);have hUk:oC W 0 t u1 u2 u3:=(HUL.out.below HBW.out).mono (Nat.zero_le _);have ca:=alike_t hne hl1 hl2 hl3 hAk hUk;have hR1:W.rangeAt bk 0 C.toList:=HCE.out.range;have hR2:W.rangeAt (bk+1) 0 D.toList:=HDE.out.range;have iC:(Tryz.prog.info? 35).map (·.size)=some C.toList.length:=by rw[Array.length_toList,HCS.out];kernel_rfl
 have iD:(Tryz.prog.info? 35).map (·.size)=some D.toList.length:=by rw[Array.length_toList,HDS.out];kernel_rfl
 have x1:iH t v1 v2 v3 = .agg C.toList.toArray:=by rw[Array.toArray_toList,← HC.out];rfl
 have x2:iH t u1 u2 u3 = .agg D.toList.toArray:=by rw[Array.toArray_toList,← HD.out];rfl
 rw[x1,x2] at ca;clear x1 x2 HSL HUL HT HOK ht OS HASC HASCC hs400 hc2000 hPK hpo hl1 hl2 hl3 hne hAk hUk
 go_wp2_with (first | (refine nJ bH 35 (.tmp 7) rfl bk 0 rfl C.toList _ hR1 Tryz.underlying35 rfl iC ?_) | (refine nJ bH 35 (.tmp 8) rfl (bk+1) 0 rfl D.toList _ hR2 Tryz.underlying35 rfl iD ?_) | fail)
 refine ca.mono ?_;rintro e w5 ⟨rfl,hb5⟩;have HB5:=cB (eD HBX.out hb5);clear hb5 ca hR1 hR2 iC iD;go_wp2_with fail
 go_ret
 first
 | exact ⟨rfl,HB5.out⟩
 | exact ⟨congrArg (fun b=>Ending.returned (Value.bool b)) bZ,HB5.out⟩
end
theorem lifted (os:Os) (started:os.Started) (H:Type) (enc:TypeId×Value→H) :
 ReturnsInHanded {} Tryz.checked os 13 .any (fun w args=>(Rows.fnParseSpec.pre enc Tryz.prog Tryz.f13 Rows.fnParseRow.domain false w args∧laidMetH Tryz.prog Rows.fnParseRow.laid w)∧sizedMet enc Tryz.prog Tryz.f13 (OpenSpec.ofChange Rows.fnParseSpec) false w args)
  (Rows.fnParseSpec.post enc Tryz.prog Tryz.f13 false true false false):=by
 refine returnsInHanded_of_change_and (C:=Tryz.checked) (X:=fun w _=>laidMetH Tryz.prog Rows.fnParseRow.laid w) (fun _ _ _ hh h=>h.of_heap hh) RowKit.own started bB Tryz.func13
  (ChangeSpec.witness_shaped (enc:=enc) (C:=Tryz.checked) (os:=os) (X:=fun w _=>laidMetH Tryz.prog Rows.fnParseRow.laid w) false (World.laidAll Tryz.prog os Rows.fnParseRow.laid) #[.agg #[.slice none 0 0,.slice none 0 0,.slice none 0 0,.slice none 0 0],.string ByteArray.empty,.string ByteArray.empty] 8 (World.laidAll_os _ _ _)
   (World.shaped_of_ZipB bB bB) bB bB bB
   bQ) ?_
 intro W base args ds gs before hval0 hW _ _ _ _;have hval:∀ (j:Nat) t v,Tryz.f13.params[j]? = some t→args[j]? = some v→Value.okWide Tryz.prog W .any base t v:=hval0;have hW':=hW;obtain ⟨p,q,hA0,hV,rfl,_,_⟩:=hW;have hA:DataW.TrodAll enc Tryz.prog W 0 (fun _=>true) true Tryz.f13.params.toList args.toList ds p:=hA0;rw[Tryz.params13] at hA hval;obtain ⟨v0,vs0,d0,ds0,p0,q0,hargs,rfl,rfl,h0,r0⟩:=trodAll_cons hA;obtain ⟨v1,vs1,d1,ds1,p1,q1,rfl,rfl,rfl,h1,r1⟩:=trodAll_cons r0;obtain ⟨v2,vs2,d2,ds2,p2,q2,rfl,rfl,rfl,h2,r2⟩:=trodAll_cons r1;obtain ⟨rfl,rfl,rfl⟩:=trodAll_nil r2;obtain rfl:args = #[v0,v1,v2]:=by cases args;simp_all
 obtain ⟨rfl,rfl⟩:=trodVars_none hV;have k0:=h0;have lt0:∀ x∈p0,x.block < W.heap.size:=by obtain ⟨m,hm⟩:=k0;exact DataW.trod_lt m _ _ _ hm
 obtain ⟨st0,vl0,vd0,vf0,vc0,rfl,S0⟩:=SiteRow.open_site (hval 0 25 v0 rfl rfl) h0;obtain ⟨a1,rfl,rfl,rfl,y1⟩:=Go.ChangeMaps.open_string Tryz.underlying9 (hval 1 9 v1 rfl rfl) h1;obtain ⟨a2,rfl,rfl,rfl,y2⟩:=Go.ChangeMaps.open_string Tryz.underlying9 (hval 2 9 v2 rfl rfl) h2;clear hA0 hval0;refine (walk (w:=W) S0 a1 a2).mono fun e W' ⟨he,bel⟩=>?_;subst he;exact ⟨_,rfl,_,_,_,[],_,[],hW',trodAll_mk1 (shut_bool Tryz.underlying4 _),(trodAll_cons_mk (Below.trod SiteRow.laidOut bB (of_decide_eq_true bB) k0 bel lt0) (trodAll_cons_mk (Go.ChangeMaps.shut_string Tryz.underlying9 y1) (trodAll_cons_mk (Go.ChangeMaps.shut_string Tryz.underlying9 y2) trodAll_mk0))),rfl,bel.frame _,fun h=>by cases h⟩
theorem said:Rows.FnParseSaid :=
 OpenClaim.holds_of_wide 13 Tryz.f13 rfl rfl rfl rfl rfl rfl rfl ⟨rfl,rfl,rfl,rfl,rfl⟩ rfl rfl rfl rfl rfl bB Tryz.func13 bB
  (of_decide_eq_true bB) bO
  (fun os started H enc _=>lifted os started H enc)
theorem plain (f:FuncId) (fn:Func) (hf:Tryz.pinned.checked.prog.funcNamed "pub-trackway/laws.FnParse" = some f) (hfn:Tryz.pinned.checked.prog.funcs[f]? = some fn) :
 false=Tryz.pinned.checked.prog.looks []∧∀ (j:Nat) t,fn.params[j]? = some t→Tryz.pinned.checked.prog.wantsStandIn t=false:=by
 obtain rfl:f=13:=Option.some.inj ((show Tryz.prog.funcNamed "pub-trackway/laws.FnParse" = some 13 by kernel_rfl).symm.trans hf) |>.symm
 obtain rfl:fn=Tryz.f13:=(Option.some.inj (Tryz.func13.symm.trans hfn)).symm;refine ⟨by kernel_rfl,fun j t ht=>?_⟩;rw[Tryz.params13] at ht;have hm:t∈[25,9,9]:=by simpa using Array.mem_of_getElem? ht
 have hall:([25,9,9].all fun u=>!Tryz.prog.wantsStandIn u)=true:=by kernel_rfl
 exact (show Tryz.prog.wantsStandIn t=false by simpa using List.all_eq_true.1 hall t hm)
theorem card:Rows.FnParseCardSaid :=
 Claim7.holds_tied_plain_at .later [] _ _ _ _ said (fun _ h=>by cases h) bB (fun _ h=>by cases h) fnParse_row_tie rfl ⟨rfl,rfl⟩ bB rfl plain bB
end Go.Proofs.YtcdgldnphhidlaaGreatDoor.fnParse
namespace Go.Proofs.YtcdgldnphhidlaaGreatDoor
theorem fnParse_card:Rows.FnParseCardSaid:=fnParse.card
#print axioms fnParse_card
end Go.Proofs.YtcdgldnphhidlaaGreatDoor
