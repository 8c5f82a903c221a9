/- A site without languages has paths without language, of which none is disabled. Condition: none but the statement's own. -/
import Derived.Deep.QuietTactic
import Derived.BigQuiet
import Derived.Test.YtcdgldnphhidlaaGreatDoorQa
import Derived.Test.YtcdgldnphhidlaaGreatDoorQ31
set_option linter.unusedVariables false
set_option linter.unusedSimpArgs false
set_option maxRecDepth 100000
set_option maxHeartbeats 16000000
namespace Go.Proofs.YtcdgldnphhidlaaGreatDoor.fnNoLanguages
open Go.ChangeShapes Go.WideShapes Go.ChangeAt Go.RowKit Go.WideMaps Go.ZW.PrintWords Go.Proofs.YtcdgldnphhidlaaGreatDoor.Base Go.Proofs.YtcdgldnphhidlaaGreatDoor.Lower Go.Proofs.YtcdgldnphhidlaaGreatDoor.Total Go.Proofs.YtcdgldnphhidlaaGreatDoor.Path Go.Proofs.YtcdgldnphhidlaaGreatDoor.PCore
section
variable {w:World} {st:eW} {vl vd vf vc:Value}
theorem walk (S:mM w st vl vd vf vc) (comp s:ByteArray):Calls Tryz.prog 12 #[.agg #[vl,vd,vf,vc],.string comp,.string s] w fun e w'=>e = .returned (.bool true)∧Below w.heap.size w w':=by
 have HSA:=cB S;obtain ⟨Al,cl,rfl,_,_⟩:=S.l;obtain ⟨Ad,cd,rfl,_,_⟩:=S.d;obtain ⟨Af,cf,rfl,_,_⟩:=S.f;obtain ⟨Ac,cc,rfl,_,_⟩:=S.c;clear S;have hB1:Below w.heap.size w (w.alloc (.cells #[.slice Al st.langs.length cl,.slice Ad st.dis.length cd,.slice Af st.fmts.length cf,.slice Ac st.cont.length cc] 25)):=(Below.refl _ _).alloc (Nat.le_refl _) _;have hR1:=Row.new w [.slice Al st.langs.length cl,.slice Ad st.dis.length cd,.slice Af st.fmts.length cf,.slice Ac st.cont.length cc] 25;have hs1:w.heap.size < (w.alloc (.cells #[.slice Al st.langs.length cl,.slice Ad st.dis.length cd,.slice Af st.fmts.length cf,.slice Ac st.cont.length cc] 25)).heap.size:=by simp
 go_enter Tryz.func12,Tryz.ntmps12;go_upto_region 1 with fail
 obtain ⟨w1,hw1⟩:∃ w1,w.alloc (.cells #[.slice Al st.langs.length cl,.slice Ad st.dis.length cd,.slice Af st.fmts.length cf,.slice Ac st.cont.length cc] 25)=w1:=⟨_,rfl⟩
 rw[hw1] at hB1 hR1 hs1 ⊢;clear hw1;have HB1:=cB hB1;have HRS:=cB hR1;have r0:=hR1.at 0 _ rfl;have r1:=hR1.at 1 _ rfl;have r2:=hR1.at 2 _ rfl;have r3:=hR1.at 3 _ rfl;have cz:=qO (HSA.out.below hB1)
 obtain ⟨ft,hft⟩:∃ f,rB st=f:=⟨_,rfl⟩
 rw[hft] at cz;have HFT:=cB hft
 obtain ⟨q1,hq1⟩:∃ q,decide ((2147483647:Int) < (comp.size:Int))=q:=⟨_,rfl⟩
 obtain ⟨q2,hq2⟩:∃ q,decide ((2147483647:Int) < (s.size:Int))=q:=⟨_,rfl⟩
 have HQ1:=cB hq1;have HQ2:=cB hq2;have hq1' : decide (2147483647 < comp.size)=q1:=by rw[← hq1];by_cases c:2147483647 < comp.size <;> simp[c] <;> omega
 have hq2' : decide (2147483647 < s.size)=q2:=by rw[← hq2];by_cases c:2147483647 < s.size <;> simp[c] <;> omega
 clear hB1 hR1 hft
 go_cut [23] from 11 to 23 (fun sx wx=>sx = .bool (!ft || (q1 || q2))∧Aside0 (Below w1.heap.size w1 wx))
 case first =>
  go_wp2_with fail
  refine cz.mono ?_;rintro e w2 ⟨rfl,hb2⟩;have HB2:=cB hb2;clear hb2 cz;cases ft
  ·go_wp2_with fail
   go_meet
   case rel=>exact ⟨rfl,HB2⟩
  cases q1
  ·go_wp2_with fail
   go_meet
   case rel=>exact ⟨rfl,HB2⟩
  go_wp2_with fail
  go_meet
  case rel=>exact ⟨rfl,HB2⟩
 obtain ⟨rfl,HB2⟩:=hcut
 obtain ⟨w2,rfl⟩:∃ x,x=wc:=⟨_,rfl⟩
 clear cz hq1 hq2 hq1' hq2' r0 r1 r2 r3;have HBA:=cB (HB1.out.trans (HB2.out.mono HB1.out.size))
 obtain ⟨g,hg⟩:∃ g,(!ft || (q1 || q2))=g:=⟨_,rfl⟩
 rw[hg];have HG:=cB hg;clear hg;cases g;rotate_left
 ·go_wp2_with fail
  go_ret;exact ⟨rfl,HBA.out⟩
 have hf:ft=true∧q1=false∧q2=false:=by have h9:=HG.out;revert h9;cases ft <;> cases q1 <;> cases q2 <;> simp
 obtain ⟨rfl,rfl,rfl⟩:=hf;have hcs:comp.size≤MM:=by have:=of_decide_eq_false HQ1.out;unfold MM;omega
 have hss:s.size≤MM:=by have:=of_decide_eq_false HQ2.out;unfold MM;omega
 have hRs:=HRS.out.below HB2.out hs1;have r0:=hRs.at 0 _ rfl;have r1:=hRs.at 1 _ rfl;have r2:=hRs.at 2 _ rfl;have r3:=hRs.at 3 _ rfl;obtain ⟨ok,HOK,ck⟩:=tX (HSA.out.below HBA.out) HFT.out comp s (by unfold MM at hcs hss;omega);replace HOK:=cB HOK;have HRS2:=cB hRs;clear hRs hcs hss;go_wp2_with fail
 refine ck.mono ?_;rintro e w4 ⟨t,l1,l2,l3,v1,v2,v3,rfl,hs,ht,hb4⟩;have HSL:=cB hs;have HT:=cB ht;have HB4:=cB hb4;obtain ⟨A1,c1,e1,_⟩:=HSL.out.1;obtain ⟨A2,c2,e2,_⟩:=HSL.out.2.1;obtain ⟨A3,c3,e3,_⟩:=HSL.out.2.2;clear ck hs ht hb4 r0 r1 r2 r3
 obtain ⟨C,hC⟩:∃ C:Array Value,nV t v1 v2 v3=C:=⟨_,rfl⟩
 have hval:iH t v1 v2 v3 = .agg C:=by rw[← hC];rfl
 have HCS:=cB (show C.size=31 by rw[← hC];rfl);have HON:=cB (show C.all (·.oneCell')=true by rw[← hC,e1,e2,e3];exact nZ _ _ _ _ _ _ _ _ _ _);rw[hval];have HC:=cB hC;clear hval e1 e2 e3 hC;have hRZ:=Row.new w4 eZ 35;have HCE:=cB (sB hRZ rfl HCS.out);have HBW:=cB (sC w4 C)
 go_upto_region 4 with (first | (refine kZ rfl _ _ rfl w4.heap.size C rfl rfl hRZ rfl HCS.out HON.out ?_) | fail)
 change Code.wp _ _ _ _ ((w4.alloc (.cells eZ.toArray 35)).setCells w4.heap.size 0 C.toList)
 obtain ⟨W,hW⟩:∃ W,(w4.alloc (.cells eZ.toArray 35)).setCells w4.heap.size 0 C.toList=W:=⟨_,rfl⟩
 rw[hW] at HCE HBW ⊢
 obtain ⟨bk,hbk⟩:∃ b,w4.heap.size=b:=⟨_,rfl⟩
 have HBK:=cB hbk;rw[hbk] at HCE ⊢;clear hW hbk hRZ;have HBX:=cB (eD (eD HBA.out HB4.out) HBW.out);have HRS3:=cB ((HRS2.out.below HB4.out (Nat.lt_of_lt_of_le hs1 HB2.out.size)).below HBW.out (Nat.lt_of_lt_of_le (Nat.lt_of_lt_of_le hs1 HB2.out.size) HB4.out.size));have r0:=HRS3.out.at 0 _ rfl;have r1:=HRS3.out.at 1 _ rfl;have r2:=HRS3.out.at 2 _ rfl;have r3:=HRS3.out.at 3 _ rfl;go_upto_region 5 with fail
 have hR5:=Row.new W [.slice Al st.langs.length cl,.slice Ad st.dis.length cd,.slice Af st.fmts.length cf,.slice Ac st.cont.length cc] 25;have hb5:Below W.heap.size W (W.alloc (.cells #[.slice Al st.langs.length cl,.slice Ad st.dis.length cd,.slice Af st.fmts.length cf,.slice Ac st.cont.length cc] 25)):=(Below.refl _ _).alloc (Nat.le_refl _) _
 obtain ⟨XB,hX⟩:∃ X,W.alloc (.cells #[.slice Al st.langs.length cl,.slice Ad st.dis.length cd,.slice Af st.fmts.length cf,.slice Ac st.cont.length cc] 25)=X:=⟨_,rfl⟩
 rw[hX] at hR5 hb5 ⊢
 obtain ⟨bb,hbb⟩:∃ b,W.heap.size=b:=⟨_,rfl⟩
 have HBL:=cB (Nat.le_of_eq hbb);rw[hbb] at hR5 ⊢;clear hX r0 r1 r2 r3 hbb;have HB5:=cB (eD HBX.out hb5);have HV5:=cB hb5;have HR5:=cB hR5;clear hb5;have q0:=HR5.out.at 0 _ rfl;have f0:=HR5.out.free 0 bI;have q1:=HR5.out.at 1 _ rfl;have f1:=HR5.out.free 1 bI;go_upto_region 6 with fail
 have hY0:Row ((XB.setCell ⟨bb,0,none⟩ (.slice none 0 0)).setCell ⟨bb,1,none⟩ (.slice none 0 0)) bb [.slice none 0 0,.slice none 0 0,.slice Af st.fmts.length cf,.slice Ac st.cont.length cc]:=(HR5.out.set 0 (.slice none 0 0) bI).set 1 (.slice none 0 0) bI;have hY1:Below W.heap.size W ((XB.setCell ⟨bb,0,none⟩ (.slice none 0 0)).setCell ⟨bb,1,none⟩ (.slice none 0 0)):=(HV5.out.setCell (p:=⟨bb,0,none⟩) HBL.out _).setCell (p:=⟨bb,1,none⟩) HBL.out _
 obtain ⟨Y,hY⟩:∃ Y,(XB.setCell ⟨bb,0,none⟩ (.slice none 0 0)).setCell ⟨bb,1,none⟩ (.slice none 0 0)=Y:=⟨_,rfl⟩
 rw[hY] at hY0 hY1 ⊢;have HRY:=cB hY0;have HV6:=cB hY1;have HB6:=cB (eD HBX.out hY1);clear hY hY0 hY1 q0 f0 q1 f1 hR5;cases ok
 ·go_wp2_with fail
  go_ret
  first
  | exact ⟨rfl,HB6.out⟩
  | exact ⟨congrArg (fun b=>Ending.returned (Value.bool b)) bZ,HB6.out⟩
 obtain ⟨ht1,rfl,rfl,rfl⟩:=HT.out bM;obtain ⟨OS,HASC,HASCC,hs400,hc2000,hPK⟩:=HOK.out bM;have HPK:=cB hPK;clear hPK
 obtain ⟨p,hp⟩:∃ p,gB (eJ st) comp (norm s)=p:=⟨_,rfl⟩
 rw[hp] at ht1 HSL;subst ht1;have HP:=cB hp;have hpo:=qR (eJ st) comp (norm s) (by rw[norm_size];omega);rw[hp] at hpo;have HPO:=cB hpo;have HPN:=cB (sV (eJ st) comp (norm s));rw[hp] at HPN;have k9:=HCE.out 9 (.string (nrm p.trim p.s)) (by rw[← HC.out];rfl);have hne:=HPN.out;clear hp hpo HT HOK k9 hne;have S0:=HSA.out.below HB6.out
 obtain ⟨st2,hst2⟩:∃ x:eW,{ st with langs:=[],dis:=[] }=x:=⟨_,rfl⟩
 have SN:SiteIn Y st2 (.slice none 0 0) (.slice none 0 0) (.slice Af st.fmts.length cf) (.slice Ac st.cont.length cc):=hst2▸⟨eV.nil _ _ _ _,eV.nil _ _ _ _,S0.f,S0.c⟩;obtain ⟨kn,hkn,ck0⟩:=pG SN (hst2▸HPK.out.few.none) comp s bA bA;have ck:=ck0 Y (Below.refl _ _);have HSN:=cB SN;have HKN:=cB hkn;have HST:=cB hst2;clear ck0 S0 SN hkn hst2;have r0:=HRY.out.at 0 _ rfl;have r1:=HRY.out.at 1 _ rfl;have r2:=HRY.out.at 2 _ rfl;have r3:=HRY.out.at 3 _ rfl;go_wp2_with fail
 refine ck.mono ?_;rintro e w8 ⟨rfl,hb8⟩;have HB8:=cB (eD HB6.out hb8);have HV8:=cB (eD HV6.out hb8);have HL8:=cB hb8;have HRB:=cB (HRY.out.below hb8 (HRY.out.lt bI));clear ck hb8 r0 r1 r2 r3;cases kn
 ·go_wp2_with fail
  go_ret
  first
  | exact ⟨rfl,HB8.out⟩
  | exact ⟨congrArg (fun b=>Ending.returned (Value.bool b)) bZ,HB8.out⟩
 obtain ⟨hasc,_,_,K2⟩:=HKN.out bM;have r0:=HRB.out.at 0 _ rfl;have r1:=HRB.out.at 1 _ rfl;have r2:=HRB.out.at 2 _ rfl;have r3:=HRB.out.at 3 _ rfl;have cP:=oP (HSN.out.below HL8.out) K2.siteOk comp s bA hasc
 obtain ⟨p2,hp2⟩:∃ p,gB (eJ st2) comp (norm s)=p:=⟨_,rfl⟩
 rw[hp2] at cP;obtain ⟨n1,n2,n3,n4,n5,n6⟩:=aLb HPK.out (HST.out▸K2) HP.out (HST.out▸hp2);have N1:=cB n1;have N2:=cB n2;have N3:=cB n3;have N4:=cB n4;have N5:=cB n5;have N6:=cB n6;clear n1 n2 n3 n4 n5 n6 K2 hp2 hasc;go_wp2_with fail
 refine cP.mono ?_;rintro e w9 ⟨u1,u2,u3,rfl,hT,hb9⟩;have HT:=cB hT;have HB9:=cB (eD HB8.out hb9);have HV9:=cB (eD HV8.out hb9);clear cP hT hb9 r0 r1 r2 r3;obtain ⟨D1,d1,e1,_⟩:=HT.out.1;obtain ⟨D2,d2,e2,_⟩:=HT.out.2.1;obtain ⟨D3,d3,e3,_⟩:=HT.out.2.2
 obtain ⟨Cb,hCb⟩:∃ C:Array Value,nV (gL p2) u1 u2 u3=C:=⟨_,rfl⟩
 have hval:iH (gL p2) u1 u2 u3 = .agg Cb:=by rw[← hCb];rfl
 have HCS2:=cB (show Cb.size=31 by rw[← hCb];rfl);have HON2:=cB (show Cb.all (·.oneCell')=true by rw[← hCb,e1,e2,e3];exact nZ _ _ _ _ _ _ _ _ _ _);rw[hval];have HC2:=cB hCb;clear hval e1 e2 e3 hCb;have hRZ:=Row.new w9 eZ 35;have HCE2:=cB (sB hRZ rfl HCS2.out);have HBW2:=cB (sC w9 Cb)
 go_upto_region 9 with (first | (refine kZ rfl _ _ rfl w9.heap.size Cb rfl rfl hRZ rfl HCS2.out HON2.out ?_) | fail)
 change Code.wp _ _ _ _ ((w9.alloc (.cells eZ.toArray 35)).setCells w9.heap.size 0 Cb.toList)
 obtain ⟨X,hX⟩:∃ X,(w9.alloc (.cells eZ.toArray 35)).setCells w9.heap.size 0 Cb.toList=X:=⟨_,rfl⟩
 rw[hX] at HCE2 HBW2 ⊢
 obtain ⟨bx,hbx⟩:∃ b,w9.heap.size=b:=⟨_,rfl⟩
 rw[hbx] at HCE2 ⊢;clear hX hbx hRZ;have HBY:=cB (eD HB9.out HBW2.out);have HVY:=cB (eD HV9.out HBW2.out)
 obtain ⟨f_path,e_path⟩:∃ x,nrm p.trim p.s=x:=⟨_,rfl⟩
 have k9:=HCE.out 9 (.string f_path) (by rw[← HC.out,← e_path];rfl)
 obtain ⟨f_ext,e_ext⟩:∃ x,fD p 0=x:=⟨_,rfl⟩
 have k15:=HCE.out 15 (.string f_ext) (by rw[← HC.out,← e_ext];rfl);replace k9:=aBl k9 HVY.out;replace k15:=aBl k15 HVY.out;obtain ⟨D9,d9,e9,_⟩:=HT.out.1;have hne:=HPN.out;rw[e_path] at hne;have j9:=HCE2.out 9 (.string f_path) (by rw[← HC2.out,← e_path,← N4.out];rfl);have j10:=HCE2.out 10 (.string f_path) (by rw[← HC2.out,← e_path,← N5.out];rfl);have j15:=HCE2.out 15 (.string f_ext) (by rw[← HC2.out,← e_ext,← N6.out];rfl);have j19:=HCE2.out 19 (.string (nL p2)) (by rw[← HC2.out];rfl);have j21:=HCE2.out 21 (.slice D9 0 d9) (by rw[← HC2.out,show (Value.slice D9 0 d9)=u1 by rw[e9,N2.out];rfl];rfl);have j24:=HCE2.out 24 (.bool false) (by rw[← HC2.out,← N3.out];rfl);have hl:((nL p2).toList==[])=true:=by rw[N1.out];rfl
 have hpp:(f_path.toList==f_path.toList)=true:=by simp
 have hee:(f_ext.toList==f_ext.toList)=true:=by simp
 clear e9 e_path e_ext;go_wp2_with fail
 go_ret
 first
 | exact ⟨rfl,HBY.out⟩
 | exact ⟨congrArg (fun b=>Ending.returned (Value.bool b)) bZ,HBY.out⟩
end
theorem lifted (os:Os) (started:os.Started) (H:Type) (enc:TypeId×Value→H) :
 ReturnsInHanded {} Tryz.checked os 12 .any (fun w args=>(Rows.fnNoLanguagesSpec.pre enc Tryz.prog Tryz.f12 Rows.fnNoLanguagesRow.domain false w args∧laidMetH Tryz.prog Rows.fnNoLanguagesRow.laid w)∧sizedMet enc Tryz.prog Tryz.f12 (OpenSpec.ofChange Rows.fnNoLanguagesSpec) false w args)
  (Rows.fnNoLanguagesSpec.post enc Tryz.prog Tryz.f12 false true false false):=by
 refine returnsInHanded_of_change_and (C:=Tryz.checked) (X:=fun w _=>laidMetH Tryz.prog Rows.fnNoLanguagesRow.laid w) (fun _ _ _ hh h=>h.of_heap hh) RowKit.own started bB Tryz.func12
  (ChangeSpec.witness_shaped (enc:=enc) (C:=Tryz.checked) (os:=os) (X:=fun w _=>laidMetH Tryz.prog Rows.fnNoLanguagesRow.laid w) false (World.laidAll Tryz.prog os Rows.fnNoLanguagesRow.laid) #[.agg #[.slice none 0 0,.slice none 0 0,.slice none 0 0,.slice none 0 0],.string ByteArray.empty,.string ByteArray.empty] 8 (World.laidAll_os _ _ _)
   (World.shaped_of_ZipB bB bB) bB bB bB
   bQ) ?_
 intro W base args ds gs before hval0 hW _ _ _ _;have hval:∀ (j:Nat) t v,Tryz.f12.params[j]? = some t→args[j]? = some v→Value.okWide Tryz.prog W .any base t v:=hval0;have hW':=hW;obtain ⟨p,q,hA0,hV,rfl,_,_⟩:=hW;have hA:DataW.TrodAll enc Tryz.prog W 0 (fun _=>true) true Tryz.f12.params.toList args.toList ds p:=hA0;rw[Tryz.params12] at hA hval;obtain ⟨v0,vs0,d0,ds0,p0,q0,hargs,rfl,rfl,h0,r0⟩:=trodAll_cons hA;obtain ⟨v1,vs1,d1,ds1,p1,q1,rfl,rfl,rfl,h1,r1⟩:=trodAll_cons r0;obtain ⟨v2,vs2,d2,ds2,p2,q2,rfl,rfl,rfl,h2,r2⟩:=trodAll_cons r1;obtain ⟨rfl,rfl,rfl⟩:=trodAll_nil r2;obtain rfl:args = #[v0,v1,v2]:=by cases args;simp_all
 obtain ⟨rfl,rfl⟩:=trodVars_none hV;have k0:=h0;have lt0:∀ x∈p0,x.block < W.heap.size:=by obtain ⟨m,hm⟩:=k0;exact DataW.trod_lt m _ _ _ hm
 obtain ⟨st0,vl0,vd0,vf0,vc0,rfl,S0⟩:=SiteRow.open_site (hval 0 25 v0 rfl rfl) h0;obtain ⟨a1,rfl,rfl,rfl,y1⟩:=Go.ChangeMaps.open_string Tryz.underlying9 (hval 1 9 v1 rfl rfl) h1;obtain ⟨a2,rfl,rfl,rfl,y2⟩:=Go.ChangeMaps.open_string Tryz.underlying9 (hval 2 9 v2 rfl rfl) h2;clear hA0 hval0;refine (walk (w:=W) S0 a1 a2).mono fun e W' ⟨he,bel⟩=>?_;subst he;exact ⟨_,rfl,_,_,_,[],_,[],hW',trodAll_mk1 (shut_bool Tryz.underlying4 _),(trodAll_cons_mk (Below.trod SiteRow.laidOut bB (of_decide_eq_true bB) k0 bel lt0) (trodAll_cons_mk (Go.ChangeMaps.shut_string Tryz.underlying9 y1) (trodAll_cons_mk (Go.ChangeMaps.shut_string Tryz.underlying9 y2) trodAll_mk0))),rfl,bel.frame _,fun h=>by cases h⟩
theorem said:Rows.FnNoLanguagesSaid :=
 OpenClaim.holds_of_wide 12 Tryz.f12 rfl rfl rfl rfl rfl rfl rfl ⟨rfl,rfl,rfl,rfl,rfl⟩ rfl rfl rfl rfl rfl bB Tryz.func12 bB
  (of_decide_eq_true bB) bO
  (fun os started H enc _=>lifted os started H enc)
theorem plain (f:FuncId) (fn:Func) (hf:Tryz.pinned.checked.prog.funcNamed "pub-trackway/laws.FnNoLanguages" = some f) (hfn:Tryz.pinned.checked.prog.funcs[f]? = some fn) :
 false=Tryz.pinned.checked.prog.looks []∧∀ (j:Nat) t,fn.params[j]? = some t→Tryz.pinned.checked.prog.wantsStandIn t=false:=by
 obtain rfl:f=12:=Option.some.inj ((show Tryz.prog.funcNamed "pub-trackway/laws.FnNoLanguages" = some 12 by kernel_rfl).symm.trans hf) |>.symm
 obtain rfl:fn=Tryz.f12:=(Option.some.inj (Tryz.func12.symm.trans hfn)).symm;refine ⟨by kernel_rfl,fun j t ht=>?_⟩;rw[Tryz.params12] at ht;have hm:t∈[25,9,9]:=by simpa using Array.mem_of_getElem? ht
 have hall:([25,9,9].all fun u=>!Tryz.prog.wantsStandIn u)=true:=by kernel_rfl
 exact (show Tryz.prog.wantsStandIn t=false by simpa using List.all_eq_true.1 hall t hm)
theorem card:Rows.FnNoLanguagesCardSaid :=
 Claim7.holds_tied_plain_at .later [] _ _ _ _ said (fun _ h=>by cases h) bB (fun _ h=>by cases h) fnNoLanguages_row_tie rfl ⟨rfl,rfl⟩ bB rfl plain bB
end Go.Proofs.YtcdgldnphhidlaaGreatDoor.fnNoLanguages
namespace Go.Proofs.YtcdgldnphhidlaaGreatDoor
theorem fnNoLanguages_card:Rows.FnNoLanguagesCardSaid:=fnNoLanguages.card
#print axioms fnNoLanguages_card
end Go.Proofs.YtcdgldnphhidlaaGreatDoor
