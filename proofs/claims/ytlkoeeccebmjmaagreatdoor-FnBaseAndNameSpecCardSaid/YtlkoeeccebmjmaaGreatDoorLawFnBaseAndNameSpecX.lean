/- The base and the logical name, asked for together. Condition: none but the statement's own. -/
import Derived.Deep.QuietTactic
import Derived.BigQuiet
import Derived.Test.YtlkoeeccebmjmaaGreatDoorXa
import Derived.Test.YtlkoeeccebmjmaaGreatDoorX28
set_option linter.unusedVariables false
set_option linter.unusedSimpArgs false
set_option maxRecDepth 100000
set_option maxHeartbeats 16000000
namespace Go.Proofs.YtlkoeeccebmjmaaGreatDoor.fnBaseAndNameSpec
open Go.ChangeShapes Go.WideShapes Go.ChangeAt Go.RowKit Go.WideMaps Go.ZW.PrintWords Go.Proofs.YtlkoeeccebmjmaaGreatDoor.Base Go.Proofs.YtlkoeeccebmjmaaGreatDoor.Lower Go.Proofs.YtlkoeeccebmjmaaGreatDoor.Total Go.Proofs.YtlkoeeccebmjmaaGreatDoor.Path Go.Proofs.YtlkoeeccebmjmaaGreatDoor.PCore
section
variable {w:World} {st:fF} {vl vd vf vc:Value}
theorem walk (S:nG w st vl vd vf vc) (comp s:ByteArray):Calls Tryz.prog 4 #[.agg #[vl,vd,vf,vc],.string comp,.string s] w fun e w'=>e = .returned (.bool true)∧Below w.heap.size w w':=by
 have HSA:=bW S;obtain ⟨Al,cl,rfl,_,_⟩:=S.l;obtain ⟨Ad,cd,rfl,_,_⟩:=S.d;obtain ⟨Af,cf,rfl,_,_⟩:=S.f;obtain ⟨Ac,cc,rfl,_,_⟩:=S.c;clear S;have hB1:Below w.heap.size w (w.alloc (.cells #[.slice Al st.langs.length cl,.slice Ad st.dis.length cd,.slice Af st.fmts.length cf,.slice Ac st.cont.length cc] 25)):=(Below.refl _ _).alloc (Nat.le_refl _) _;have hR1:=Row.new w [.slice Al st.langs.length cl,.slice Ad st.dis.length cd,.slice Af st.fmts.length cf,.slice Ac st.cont.length cc] 25;have hs1:w.heap.size < (w.alloc (.cells #[.slice Al st.langs.length cl,.slice Ad st.dis.length cd,.slice Af st.fmts.length cf,.slice Ac st.cont.length cc] 25)).heap.size:=by simp
 go_enter Tryz.func4,Tryz.ntmps4;go_upto_region 1 with fail
 obtain ⟨w1,hw1⟩:∃ w1,w.alloc (.cells #[.slice Al st.langs.length cl,.slice Ad st.dis.length cd,.slice Af st.fmts.length cf,.slice Ac st.cont.length cc] 25)=w1:=⟨_,rfl⟩
 rw[hw1] at hB1 hR1 hs1 ⊢;clear hw1;have HB1:=bW hB1;have HRS:=bW hR1;have r0:=hR1.at 0 _ rfl;have r1:=hR1.at 1 _ rfl;have r2:=hR1.at 2 _ rfl;have r3:=hR1.at 3 _ rfl;have cz:=vP (HSA.out.below hB1)
 obtain ⟨ft,hft⟩:∃ f,tE st=f:=⟨_,rfl⟩
 rw[hft] at cz;have HFT:=bW hft
 obtain ⟨q1,hq1⟩:∃ q,decide ((2147483647:Int) < (comp.size:Int))=q:=⟨_,rfl⟩
 obtain ⟨q2,hq2⟩:∃ q,decide ((2147483647:Int) < (s.size:Int))=q:=⟨_,rfl⟩
 have HQ1:=bW hq1;have HQ2:=bW hq2;have hq1' : decide (2147483647 < comp.size)=q1:=by rw[← hq1];by_cases c:2147483647 < comp.size <;> simp[c] <;> omega
 have hq2' : decide (2147483647 < s.size)=q2:=by rw[← hq2];by_cases c:2147483647 < s.size <;> simp[c] <;> omega
 clear hB1 hR1 hft
 go_cut [25] from 13 to 25 (fun sx wx=>sx = .bool (!ft || (q1 || q2))∧Aside0 (Below w1.heap.size w1 wx))
 case first =>
  go_wp2_with fail
  refine cz.mono ?_;rintro e w2 ⟨rfl,hb2⟩;have HB2:=bW hb2;clear hb2 cz;cases ft
  ·go_wp2_with fail
   go_meet
   case rel=>exact ⟨rfl,HB2⟩
  cases q1
  ·go_wp2_with fail
   go_meet
   case rel=>exact ⟨rfl,HB2⟩
  go_wp2_with fail
  go_meet
  case rel=>exact ⟨rfl,HB2⟩
 obtain ⟨rfl,HB2⟩:=hcut
 obtain ⟨w2,rfl⟩:∃ x,x=wc:=⟨_,rfl⟩
 clear cz hq1 hq2 hq1' hq2' r0 r1 r2 r3;have HBA:=bW (HB1.out.trans (HB2.out.mono HB1.out.size))
 obtain ⟨g,hg⟩:∃ g,(!ft || (q1 || q2))=g:=⟨_,rfl⟩
 rw[hg];have HG:=bW hg;clear hg;cases g;rotate_left
 ·go_wp2_with fail
  go_ret;exact ⟨rfl,HBA.out⟩
 have hf:ft=true∧q1=false∧q2=false:=by have h9:=HG.out;revert h9;cases ft <;> cases q1 <;> cases q2 <;> simp
 obtain ⟨rfl,rfl,rfl⟩:=hf;have hcs:comp.size≤MM:=by have:=of_decide_eq_false HQ1.out;unfold MM;omega
 have hss:s.size≤MM:=by have:=of_decide_eq_false HQ2.out;unfold MM;omega
 have hRs:=HRS.out.below HB2.out hs1;have r0:=hRs.at 0 _ rfl;have r1:=hRs.at 1 _ rfl;have r2:=hRs.at 2 _ rfl;have r3:=hRs.at 3 _ rfl;obtain ⟨ok,HOK,ck⟩:=wP (HSA.out.below HBA.out) HFT.out comp s (by unfold MM at hcs hss;omega);replace HOK:=bW HOK;have HRS2:=bW hRs;clear hRs hcs hss;go_wp2_with fail
 refine ck.mono ?_;rintro e w4 ⟨t,l1,l2,l3,v1,v2,v3,rfl,hs,ht,hb4⟩;have HSL:=bW hs;have HT:=bW ht;have HB4:=bW hb4;obtain ⟨A1,c1,e1,_⟩:=HSL.out.1;obtain ⟨A2,c2,e2,_⟩:=HSL.out.2.1;obtain ⟨A3,c3,e3,_⟩:=HSL.out.2.2;clear ck hs ht hb4 r0 r1 r2 r3
 obtain ⟨C,hC⟩:∃ C:Array Value,qU t v1 v2 v3=C:=⟨_,rfl⟩
 have hval:lX t v1 v2 v3 = .agg C:=by rw[← hC];rfl
 have HCS:=bW (show C.size=31 by rw[← hC];rfl);have HON:=bW (show C.all (·.oneCell')=true by rw[← hC,e1,e2,e3];exact pD _ _ _ _ _ _ _ _ _ _);rw[hval];have HC:=bW hC;clear hval e1 e2 e3 hC;have hRZ:=Row.new w4 fX 28;have HCE:=bW (zC hRZ rfl HCS.out);have HBW:=bW (zD w4 C)
 go_upto_region 4 with (first | (refine pN rfl _ _ rfl w4.heap.size C rfl rfl hRZ rfl HCS.out HON.out ?_) | fail)
 change Code.wp _ _ _ _ ((w4.alloc (.cells fX.toArray 28)).setCells w4.heap.size 0 C.toList)
 obtain ⟨W,hW⟩:∃ W,(w4.alloc (.cells fX.toArray 28)).setCells w4.heap.size 0 C.toList=W:=⟨_,rfl⟩
 rw[hW] at HCE HBW ⊢
 obtain ⟨bk,hbk⟩:∃ b,w4.heap.size=b:=⟨_,rfl⟩
 have HBK:=bW hbk;rw[hbk] at HCE ⊢;clear hW hbk hRZ;have HBX:=bW (eA (eA HBA.out HB4.out) HBW.out);have HRS3:=bW ((HRS2.out.below HB4.out (Nat.lt_of_lt_of_le hs1 HB2.out.size)).below HBW.out (Nat.lt_of_lt_of_le (Nat.lt_of_lt_of_le hs1 HB2.out.size) HB4.out.size));cases ok
 ·go_wp2_with fail
  go_ret
  first
  | exact ⟨rfl,HBX.out⟩
  | exact ⟨congrArg (fun b=>Ending.returned (Value.bool b)) (by assumption),HBX.out⟩
 obtain ⟨ht1,rfl,rfl,rfl⟩:=HT.out (by first | rfl | trivial);obtain ⟨OS,HASC,HASCC,hs400,hc2000,hPK⟩:=HOK.out (by first | rfl | trivial);have HPK:=bW hPK;clear hPK
 obtain ⟨p,hp⟩:∃ p,gI (eH st) comp (norm s)=p:=⟨_,rfl⟩
 rw[hp] at ht1 HSL;subst ht1;have HP:=bW hp;have hpo:=rK (eH st) comp (norm s) (by rw[norm_size];omega);rw[hp] at hpo;have HPO:=bW hpo;have HPN:=bW (aCq (eH st) comp (norm s));rw[hp] at HPN;have k9:=HCE.out 9 (.string (nrm p.trim p.s)) (by rw[← HC.out];rfl);have hne:=HPN.out;clear hp hpo HT HOK k9 hne;have K:=HPK.out;have cR:=zX (HSA.out.below HBX.out).toSiteIn OS comp s bA HASC;rw[HP.out] at cR;have r0:=HRS3.out.at 0 _ rfl;have r1:=HRS3.out.at 1 _ rfl;have r2:=HRS3.out.at 2 _ rfl;have r3:=HRS3.out.at 3 _ rfl
 obtain ⟨bs,hbs⟩:∃ x,iV p=x:=⟨_,rfl⟩
 obtain ⟨nm,hnm⟩:∃ x,nK p=x:=⟨_,rfl⟩
 rw[hbs,hnm] at cR;have HBS:=bW hbs;have HNM:=bW hnm;clear hbs hnm;go_wp2_with fail
 refine cR.mono ?_;rintro e w6 ⟨rfl,hb6⟩;have HB6:=bW (eA HBX.out hb6);have HRS6:=bW (HRS3.out.below hb6 (HRS3.out.lt bJ));clear cR hb6 r0 r1 r2 r3;have hS:=HSA.out.below HB6.out;have eT:lJ (wOf st comp (pathOf s false))=kA p:=by rw[aDa K,HP.out]
 have cS:=aAd (w:=w6) ⟨hS.l,hS.d,hS.f,hS.c⟩ (aE6 K) comp s bA;rw[eT,show (kA p).base=bs from HBS.out,show (kA p).baseName=nm from HNM.out] at cS;have h1:(bs.toList==bs.toList)=true:=by simp
 have h2:(nm.toList==nm.toList)=true:=by simp
 clear hS eT K;have r0:=HRS6.out.at 0 _ rfl;have r1:=HRS6.out.at 1 _ rfl;have r2:=HRS6.out.at 2 _ rfl;have r3:=HRS6.out.at 3 _ rfl;go_wp2_with fail
 refine cS.mono ?_;rintro e w7 ⟨rfl,hb7⟩;have HB7:=bW (eA HB6.out hb7);clear cS hb7 r0 r1 r2 r3;go_wp2_with fail
 go_ret
 first
 | exact ⟨rfl,HB7.out⟩
 | exact ⟨congrArg (fun b=>Ending.returned (Value.bool b)) (by assumption),HB7.out⟩
end
theorem lifted (os:Os) (started:os.Started) (H:Type) (enc:TypeId×Value→H) :
 ReturnsInHanded {} Tryz.checked os 4 .any (fun w args=>(Rows.fnBaseAndNameSpecSpec.pre enc Tryz.prog Tryz.f4 Rows.fnBaseAndNameSpecRow.domain false w args∧laidMetH Tryz.prog Rows.fnBaseAndNameSpecRow.laid w)∧sizedMet enc Tryz.prog Tryz.f4 (OpenSpec.ofChange Rows.fnBaseAndNameSpecSpec) false w args)
  (Rows.fnBaseAndNameSpecSpec.post enc Tryz.prog Tryz.f4 false true false false):=by
 refine returnsInHanded_of_change_and (C:=Tryz.checked) (X:=fun w _=>laidMetH Tryz.prog Rows.fnBaseAndNameSpecRow.laid w) (fun _ _ _ hh h=>h.of_heap hh) RowKit.own started bB Tryz.func4
  (ChangeSpec.witness_shaped (enc:=enc) (C:=Tryz.checked) (os:=os) (X:=fun w _=>laidMetH Tryz.prog Rows.fnBaseAndNameSpecRow.laid w) false (World.laidAll Tryz.prog os Rows.fnBaseAndNameSpecRow.laid) #[.agg #[.slice none 0 0,.slice none 0 0,.slice none 0 0,.slice none 0 0],.string ByteArray.empty,.string ByteArray.empty] 8 (World.laidAll_os _ _ _)
   (World.shaped_of_ZipB bB bB) bB bB bB
   (by rw[MakeChecks.laidMetH_plain _ _ _ bB];exact laidMet_laidAll _ bB bB)) ?_
 intro W base args ds gs before hval0 hW _ _ _ _;have hval:∀ (j:Nat) t v,Tryz.f4.params[j]? = some t→args[j]? = some v→Value.okWide Tryz.prog W .any base t v:=hval0;have hW':=hW;obtain ⟨p,q,hA0,hV,rfl,_,_⟩:=hW;have hA:DataW.TrodAll enc Tryz.prog W 0 (fun _=>true) true Tryz.f4.params.toList args.toList ds p:=hA0;rw[Tryz.params4] at hA hval;obtain ⟨v0,vs0,d0,ds0,p0,q0,hargs,rfl,rfl,h0,r0⟩:=trodAll_cons hA;obtain ⟨v1,vs1,d1,ds1,p1,q1,rfl,rfl,rfl,h1,r1⟩:=trodAll_cons r0;obtain ⟨v2,vs2,d2,ds2,p2,q2,rfl,rfl,rfl,h2,r2⟩:=trodAll_cons r1;obtain ⟨rfl,rfl,rfl⟩:=trodAll_nil r2;obtain rfl:args = #[v0,v1,v2]:=by cases args;simp_all
 obtain ⟨rfl,rfl⟩:=trodVars_none hV;have k0:=h0;have lt0:∀ x∈p0,x.block < W.heap.size:=by obtain ⟨m,hm⟩:=k0;exact DataW.trod_lt m _ _ _ hm
 obtain ⟨st0,vl0,vd0,vf0,vc0,rfl,S0⟩:=SiteRow.open_site (hval 0 25 v0 rfl rfl) h0;obtain ⟨a1,rfl,rfl,rfl,y1⟩:=Go.ChangeMaps.open_string Tryz.underlying9 (hval 1 9 v1 rfl rfl) h1;obtain ⟨a2,rfl,rfl,rfl,y2⟩:=Go.ChangeMaps.open_string Tryz.underlying9 (hval 2 9 v2 rfl rfl) h2;clear hA0 hval0;refine (walk (w:=W) S0 a1 a2).mono fun e W' ⟨he,bel⟩=>?_;subst he;exact ⟨_,rfl,_,_,_,[],_,[],hW',trodAll_mk1 (shut_bool Tryz.underlying4 _),(trodAll_cons_mk (Below.trod SiteRow.laidOut bB (of_decide_eq_true bB) k0 bel lt0) (trodAll_cons_mk (Go.ChangeMaps.shut_string Tryz.underlying9 y1) (trodAll_cons_mk (Go.ChangeMaps.shut_string Tryz.underlying9 y2) trodAll_mk0))),rfl,bel.frame _,fun h=>by cases h⟩
theorem said:Rows.FnBaseAndNameSpecSaid :=
 OpenClaim.holds_of_wide 4 Tryz.f4 rfl rfl rfl rfl rfl rfl rfl ⟨rfl,rfl,rfl,rfl,rfl⟩ rfl rfl rfl rfl rfl bB Tryz.func4 bB
  (of_decide_eq_true bB) (by unfold Func.isWrapper;first | (rw[if_pos (by decide +kernel)];kernel_rfl) | (rw[if_neg (by decide +kernel)];exact ⟨rfl,rfl⟩))
  (fun os started H enc _=>lifted os started H enc)
theorem plain (f:FuncId) (fn:Func) (hf:Tryz.pinned.checked.prog.funcNamed "pub-trackway/laws.FnBaseAndNameSpec" = some f) (hfn:Tryz.pinned.checked.prog.funcs[f]? = some fn) :
 false=Tryz.pinned.checked.prog.looks []∧∀ (j:Nat) t,fn.params[j]? = some t→Tryz.pinned.checked.prog.wantsStandIn t=false:=by
 obtain rfl:f=4:=Option.some.inj ((show Tryz.prog.funcNamed "pub-trackway/laws.FnBaseAndNameSpec" = some 4 by kernel_rfl).symm.trans hf) |>.symm
 obtain rfl:fn=Tryz.f4:=(Option.some.inj (Tryz.func4.symm.trans hfn)).symm;refine ⟨by kernel_rfl,fun j t ht=>?_⟩;rw[Tryz.params4] at ht;have hm:t∈[25,9,9]:=by simpa using Array.mem_of_getElem? ht
 have hall:([25,9,9].all fun u=>!Tryz.prog.wantsStandIn u)=true:=by kernel_rfl
 exact (show Tryz.prog.wantsStandIn t=false by simpa using List.all_eq_true.1 hall t hm)
theorem card:Rows.FnBaseAndNameSpecCardSaid :=
 Claim7.holds_tied_plain_at .later [] _ _ _ _ said (fun _ h=>by cases h) bB (fun _ h=>by cases h) fnBaseAndNameSpec_row_tie rfl ⟨rfl,rfl⟩ bB rfl plain bB
end Go.Proofs.YtlkoeeccebmjmaaGreatDoor.fnBaseAndNameSpec
namespace Go.Proofs.YtlkoeeccebmjmaaGreatDoor
theorem fnBaseAndNameSpec_card:Rows.FnBaseAndNameSpecCardSaid:=fnBaseAndNameSpec.card
#print axioms fnBaseAndNameSpec_card
end Go.Proofs.YtlkoeeccebmjmaaGreatDoor
