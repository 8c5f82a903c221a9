/- A base from its owner's base on is what the reference tells. Condition: none but the statement's own. -/
import Derived.Deep.QuietTactic
import Derived.BigQuiet
import Derived.Test.YtcdgldnphhidlaaGreatDoorQa
import Derived.Test.YtcdgldnphhidlaaGreatDoorQ23
set_option linter.unusedVariables false
set_option linter.unusedSimpArgs false
set_option maxRecDepth 100000
set_option maxHeartbeats 16000000
namespace Go.Proofs.YtcdgldnphhidlaaGreatDoor.fnBaseRel
open Go.ChangeShapes Go.WideShapes Go.ChangeAt Go.RowKit Go.WideMaps Go.ZW.PrintWords Go.Proofs.YtcdgldnphhidlaaGreatDoor.Base Go.Proofs.YtcdgldnphhidlaaGreatDoor.Lower Go.Proofs.YtcdgldnphhidlaaGreatDoor.Total Go.Proofs.YtcdgldnphhidlaaGreatDoor.Path Go.Proofs.YtcdgldnphhidlaaGreatDoor.PCore
section
variable {w:World} {st:eW} {vl vd vf vc:Value}
theorem walk (S:mM w st vl vd vf vc) (comp s:ByteArray) (owner:ByteArray):Calls Tryz.prog 3 #[.agg #[vl,vd,vf,vc],.string comp,.string s,.string owner] w fun e w'=>e = .returned (.bool true)∧Below w.heap.size w w':=by
 have HSA:=cB S;obtain ⟨Al,cl,rfl,_,_⟩:=S.l;obtain ⟨Ad,cd,rfl,_,_⟩:=S.d;obtain ⟨Af,cf,rfl,_,_⟩:=S.f;obtain ⟨Ac,cc,rfl,_,_⟩:=S.c;clear S;have hB1:Below w.heap.size w (w.alloc (.cells #[.slice Al st.langs.length cl,.slice Ad st.dis.length cd,.slice Af st.fmts.length cf,.slice Ac st.cont.length cc] 25)):=(Below.refl _ _).alloc (Nat.le_refl _) _;have hR1:=Row.new w [.slice Al st.langs.length cl,.slice Ad st.dis.length cd,.slice Af st.fmts.length cf,.slice Ac st.cont.length cc] 25;have hs1:w.heap.size < (w.alloc (.cells #[.slice Al st.langs.length cl,.slice Ad st.dis.length cd,.slice Af st.fmts.length cf,.slice Ac st.cont.length cc] 25)).heap.size:=by simp
 go_enter Tryz.func3,Tryz.ntmps3;go_upto_region 1 with fail
 obtain ⟨w1,hw1⟩:∃ w1,w.alloc (.cells #[.slice Al st.langs.length cl,.slice Ad st.dis.length cd,.slice Af st.fmts.length cf,.slice Ac st.cont.length cc] 25)=w1:=⟨_,rfl⟩
 rw[hw1] at hB1 hR1 hs1 ⊢;clear hw1;have HB1:=cB hB1;have HRS:=cB hR1;have r0:=hR1.at 0 _ rfl;have r1:=hR1.at 1 _ rfl;have r2:=hR1.at 2 _ rfl;have r3:=hR1.at 3 _ rfl;have cz:=qO (HSA.out.below hB1)
 obtain ⟨ft,hft⟩:∃ f,rB st=f:=⟨_,rfl⟩
 rw[hft] at cz;have HFT:=cB hft
 obtain ⟨q1,hq1⟩:∃ q,decide ((2147483647:Int) < (comp.size:Int))=q:=⟨_,rfl⟩
 obtain ⟨q2,hq2⟩:∃ q,decide ((2147483647:Int) < (s.size:Int))=q:=⟨_,rfl⟩
 have HQ1:=cB hq1;have HQ2:=cB hq2
 obtain ⟨q3,hq3⟩:∃ q,decide ((2147483647:Int) < (owner.size:Int))=q:=⟨_,rfl⟩
 have HQ3:=cB hq3;have hq3' : decide (2147483647 < owner.size)=q3:=by rw[← hq3];by_cases c:2147483647 < owner.size <;> simp[c] <;> omega
 have hq1' : decide (2147483647 < comp.size)=q1:=by rw[← hq1];by_cases c:2147483647 < comp.size <;> simp[c] <;> omega
 have hq2' : decide (2147483647 < s.size)=q2:=by rw[← hq2];by_cases c:2147483647 < s.size <;> simp[c] <;> omega
 clear hB1 hR1 hft
 go_cut [27] from 10 to 27 (fun sx wx=>sx = .bool (!ft || (q1 || (q2 || q3)))∧Aside0 (Below w1.heap.size w1 wx))
 case first =>
  go_wp2_with fail
  refine cz.mono ?_;rintro e w2 ⟨rfl,hb2⟩;have HB2:=cB hb2;clear hb2 cz;cases ft
  ·go_wp2_with fail
   go_meet
   case rel=>exact ⟨rfl,HB2⟩
  cases q1
  ·cases q2
   ·go_wp2_with fail
    go_meet
    case rel=>exact ⟨rfl,HB2⟩
   go_wp2_with fail
   go_meet
   case rel=>exact ⟨rfl,HB2⟩
  go_wp2_with fail
  go_meet
  case rel=>exact ⟨rfl,HB2⟩
 obtain ⟨rfl,HB2⟩:=hcut
 obtain ⟨w2,rfl⟩:∃ x,x=wc:=⟨_,rfl⟩
 clear cz hq1 hq2 hq1' hq2' hq3 hq3' r0 r1 r2 r3;have HBA:=cB (HB1.out.trans (HB2.out.mono HB1.out.size))
 obtain ⟨g,hg⟩:∃ g,(!ft || (q1 || (q2 || q3)))=g:=⟨_,rfl⟩
 rw[hg];have HG:=cB hg;clear hg;cases g;rotate_left
 ·go_wp2_with fail
  go_ret;exact ⟨rfl,HBA.out⟩
 have hf:ft=true∧q1=false∧q2=false∧q3=false:=by have h9:=HG.out;revert h9;cases ft <;> cases q1 <;> cases q2 <;> cases q3 <;> simp
 obtain ⟨rfl,rfl,rfl,rfl⟩:=hf;have hcs:comp.size≤2147483647:=by have:=of_decide_eq_false HQ1.out;omega
 have hss:s.size≤2147483647:=by have:=of_decide_eq_false HQ2.out;omega
 have hws:owner.size≤2147483647:=by have:=of_decide_eq_false HQ3.out;omega
 have hRs:=HRS.out.below HB2.out hs1;have r0:=hRs.at 0 _ rfl;have r1:=hRs.at 1 _ rfl;have r2:=hRs.at 2 _ rfl;have r3:=hRs.at 3 _ rfl;have HS1:=HSA.out.below HBA.out;have cs:=aFq HS1 HFT.out comp (s++owner) (by rw[size_append];unfold MM;omega)
 obtain ⟨b1,hb1'⟩:∃ b1,shortS st comp (s++owner)=b1:=⟨_,rfl⟩
 obtain ⟨b2,hb2',hk2⟩:∃ b2:Bool,(b1=true→b2=true→asc s∧asc owner∧lF st comp s∧lF st comp owner∧(aLj (vB (gB (eJ st) comp (norm owner)))).size < (vB (gB (eJ st) comp (norm s))).size)∧(b1=true→∀ w',Below w2.heap.size w2 w'→Calls Tryz.prog 17 #[.agg #[.slice Al st.langs.length cl,.slice Ad st.dis.length cd,.slice Af st.fmts.length cf,.slice Ac st.cont.length cc],.string comp,.string s,.string owner] w' fun e w''=>e = .returned (.bool b2)∧Below w'.heap.size w' w''):=by
  cases b1 with
  | false=>exact ⟨false,fun h=>(by cases h),fun h=>(by cases h)⟩
  | true =>
   obtain ⟨r,h1,h2⟩:=aLs HS1 hb1';exact ⟨r,fun _=>h1,fun _=>h2⟩
 rw[hb1'] at cs;have HB1':=cB hb1';have HBB:=cB hb2';have HK2:=cB hk2;have HRS2:=cB hRs;clear hRs hb1' hb2' hk2 HS1;go_wp2_with fail
 refine cs.mono ?_;rintro e w3 ⟨rfl,hb3⟩;have HB3:=cB (eD HBA.out hb3);have HL3:=cB hb3;clear cs hb3 r0 r1 r2 r3;cases b1
 ·go_wp2_with fail
  go_ret;exact ⟨rfl,HB3.out⟩
 have ck:=HK2.out rfl w3 HL3.out;have HRS3:=cB (HRS2.out.below HL3.out (HRS2.out.lt bI));have r0:=HRS3.out.at 0 _ rfl;have r1:=HRS3.out.at 1 _ rfl;have r2:=HRS3.out.at 2 _ rfl;have r3:=HRS3.out.at 3 _ rfl;go_wp2_with fail
 refine ck.mono ?_;rintro e w4 ⟨rfl,hb4⟩;have HB4:=cB (eD HB3.out hb4);have HRS4:=cB (HRS3.out.below hb4 (HRS3.out.lt bI));clear ck hb4 r0 r1 r2 r3;cases b2
 ·go_wp2_with fail
  go_ret;exact ⟨rfl,HB4.out⟩
 obtain ⟨ha,hao,K1,K2,hlt⟩:=HBB.out (by first | rfl | trivial) (by first | rfl | trivial);have ho:=tA HB1'.out;have OS:=ho.1;have FW:=aHw HB1'.out;have m1:=K1.most;have m2:=K2.most
 obtain ⟨R,hR⟩:∃ R,(vB (gB (eJ st) comp (norm s))).extract ((aLj (vB (gB (eJ st) comp (norm owner)))).size+1) (vB (gB (eJ st) comp (norm s))).size=R:=⟨_,rfl⟩
 have cI:=aLv (HSA.out.below HB4.out).toSiteIn OS comp s owner bA bA ha hao hlt;rw[hR] at cI;have HK1:=cB K1;have HKO:=cB K2;have HFW:=cB FW;have HR:=cB hR;have HLT:=cB hlt;clear ho OS FW K1 K2 ha hao hR hlt;have r0:=HRS4.out.at 0 _ rfl;have r1:=HRS4.out.at 1 _ rfl;have r2:=HRS4.out.at 2 _ rfl;have r3:=HRS4.out.at 3 _ rfl;go_wp2_with fail
 refine cI.mono ?_;rintro e w5 ⟨rfl,hb5⟩;have HB5:=cB (eD HB4.out hb5);have HRS5:=cB (HRS4.out.below hb5 (HRS4.out.lt bI));clear cI hb5 r0 r1 r2 r3;have S5:=HSA.out.below HB5.out;have cS:=aLx ⟨S5.l,S5.d,S5.f,S5.c⟩ HFW.out HK1.out HKO.out HLT.out;rw[HR.out] at cS;clear S5;have r0:=HRS5.out.at 0 _ rfl;have r1:=HRS5.out.at 1 _ rfl;have r2:=HRS5.out.at 2 _ rfl;have r3:=HRS5.out.at 3 _ rfl;go_wp2_with fail
 refine cS.mono ?_;rintro e w6 ⟨rfl,hb6⟩;have HB6:=cB (eD HB5.out hb6);have hRR:(R.toList==R.toList)=true:=by simp
 clear cS hb6 r0 r1 r2 r3;go_wp2_with fail
 go_ret
 first
 | exact ⟨rfl,HB6.out⟩
 | exact ⟨congrArg (fun b=>Ending.returned (Value.bool b)) (by assumption),HB6.out⟩
end
theorem lifted (os:Os) (started:os.Started) (H:Type) (enc:TypeId×Value→H) :
 ReturnsInHanded {} Tryz.checked os 3 .any (fun w args=>(Rows.fnBaseRelSpec.pre enc Tryz.prog Tryz.f3 Rows.fnBaseRelRow.domain false w args∧laidMetH Tryz.prog Rows.fnBaseRelRow.laid w)∧sizedMet enc Tryz.prog Tryz.f3 (OpenSpec.ofChange Rows.fnBaseRelSpec) false w args)
  (Rows.fnBaseRelSpec.post enc Tryz.prog Tryz.f3 false true false false):=by
 refine returnsInHanded_of_change_and (C:=Tryz.checked) (X:=fun w _=>laidMetH Tryz.prog Rows.fnBaseRelRow.laid w) (fun _ _ _ hh h=>h.of_heap hh) RowKit.own started bB Tryz.func3
  (ChangeSpec.witness_shaped (enc:=enc) (C:=Tryz.checked) (os:=os) (X:=fun w _=>laidMetH Tryz.prog Rows.fnBaseRelRow.laid w) false (World.laidAll Tryz.prog os Rows.fnBaseRelRow.laid) #[.agg #[.slice none 0 0,.slice none 0 0,.slice none 0 0,.slice none 0 0],.string ByteArray.empty,.string ByteArray.empty,.string ByteArray.empty] 8 (World.laidAll_os _ _ _)
   (World.shaped_of_ZipB bB bB) bB bB bB
   (by rw[MakeChecks.laidMetH_plain _ _ _ bB];exact laidMet_laidAll _ bB bB)) ?_
 intro W base args ds gs before hval0 hW _ _ _ _;have hval:∀ (j:Nat) t v,Tryz.f3.params[j]? = some t→args[j]? = some v→Value.okWide Tryz.prog W .any base t v:=hval0;have hW':=hW;obtain ⟨p,q,hA0,hV,rfl,_,_⟩:=hW;have hA:DataW.TrodAll enc Tryz.prog W 0 (fun _=>true) true Tryz.f3.params.toList args.toList ds p:=hA0;rw[Tryz.params3] at hA hval;obtain ⟨v0,vs0,d0,ds0,p0,q0,hargs,rfl,rfl,h0,r0⟩:=trodAll_cons hA;obtain ⟨v1,vs1,d1,ds1,p1,q1,rfl,rfl,rfl,h1,r1⟩:=trodAll_cons r0;obtain ⟨v2,vs2,d2,ds2,p2,q2,rfl,rfl,rfl,h2,r2⟩:=trodAll_cons r1;obtain ⟨v3,vs3,d3,ds3,p3,q3,rfl,rfl,rfl,h3,r3⟩:=trodAll_cons r2;obtain ⟨rfl,rfl,rfl⟩:=trodAll_nil r3;obtain rfl:args = #[v0,v1,v2,v3]:=by cases args;simp_all
 obtain ⟨rfl,rfl⟩:=trodVars_none hV;have k0:=h0;have lt0:∀ x∈p0,x.block < W.heap.size:=by obtain ⟨m,hm⟩:=k0;exact DataW.trod_lt m _ _ _ hm
 obtain ⟨st0,vl0,vd0,vf0,vc0,rfl,S0⟩:=SiteRow.open_site (hval 0 25 v0 rfl rfl) h0;obtain ⟨a1,rfl,rfl,rfl,y1⟩:=Go.ChangeMaps.open_string Tryz.underlying9 (hval 1 9 v1 rfl rfl) h1;obtain ⟨a2,rfl,rfl,rfl,y2⟩:=Go.ChangeMaps.open_string Tryz.underlying9 (hval 2 9 v2 rfl rfl) h2;obtain ⟨a3,rfl,rfl,rfl,y3⟩:=Go.ChangeMaps.open_string Tryz.underlying9 (hval 3 9 v3 rfl rfl) h3;clear hA0 hval0;refine (walk (w:=W) S0 a1 a2 a3).mono fun e W' ⟨he,bel⟩=>?_;subst he
 exact ⟨_,rfl,_,_,_,[],_,[],hW',trodAll_mk1 (shut_bool Tryz.underlying4 _),(trodAll_cons_mk (Below.trod SiteRow.laidOut bB (of_decide_eq_true bB) k0 bel lt0) (trodAll_cons_mk (Go.ChangeMaps.shut_string Tryz.underlying9 y1) (trodAll_cons_mk (Go.ChangeMaps.shut_string Tryz.underlying9 y2) (trodAll_cons_mk (Go.ChangeMaps.shut_string Tryz.underlying9 y3) trodAll_mk0)))),rfl,bel.frame _,fun h=>by cases h⟩
theorem said:Rows.FnBaseRelSaid :=
 OpenClaim.holds_of_wide 3 Tryz.f3 rfl rfl rfl rfl rfl rfl rfl ⟨rfl,rfl,rfl,rfl,rfl⟩ rfl rfl rfl rfl rfl bB Tryz.func3 bB
  (of_decide_eq_true bB) (by unfold Func.isWrapper;first | (rw[if_pos (by decide +kernel)];kernel_rfl) | (rw[if_neg (by decide +kernel)];exact ⟨rfl,rfl⟩))
  (fun os started H enc _=>lifted os started H enc)
theorem plain (f:FuncId) (fn:Func) (hf:Tryz.pinned.checked.prog.funcNamed "pub-trackway/laws.FnBaseRel" = some f) (hfn:Tryz.pinned.checked.prog.funcs[f]? = some fn) :
 false=Tryz.pinned.checked.prog.looks []∧∀ (j:Nat) t,fn.params[j]? = some t→Tryz.pinned.checked.prog.wantsStandIn t=false:=by
 obtain rfl:f=3:=Option.some.inj ((show Tryz.prog.funcNamed "pub-trackway/laws.FnBaseRel" = some 3 by kernel_rfl).symm.trans hf) |>.symm
 obtain rfl:fn=Tryz.f3:=(Option.some.inj (Tryz.func3.symm.trans hfn)).symm;refine ⟨by kernel_rfl,fun j t ht=>?_⟩;rw[Tryz.params3] at ht;have hm:t∈[25,9,9,9]:=by simpa using Array.mem_of_getElem? ht
 have hall:([25,9,9,9].all fun u=>!Tryz.prog.wantsStandIn u)=true:=by kernel_rfl
 exact (show Tryz.prog.wantsStandIn t=false by simpa using List.all_eq_true.1 hall t hm)
theorem card:Rows.FnBaseRelCardSaid :=
 Claim7.holds_tied_plain_at .later [] _ _ _ _ said (fun _ h=>by cases h) bB (fun _ h=>by cases h) fnBaseRel_row_tie rfl ⟨rfl,rfl⟩ bB rfl plain bB
end Go.Proofs.YtcdgldnphhidlaaGreatDoor.fnBaseRel
namespace Go.Proofs.YtcdgldnphhidlaaGreatDoor
theorem fnBaseRel_card:Rows.FnBaseRelCardSaid:=fnBaseRel.card
#print axioms fnBaseRel_card
end Go.Proofs.YtcdgldnphhidlaaGreatDoor
