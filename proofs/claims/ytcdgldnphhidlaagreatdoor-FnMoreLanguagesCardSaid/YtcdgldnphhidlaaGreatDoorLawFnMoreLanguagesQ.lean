/- A language more that stands nowhere in a path changes nothing, enabled or disabled. Condition: none but the statement's own. -/
import Derived.Deep.QuietTactic
import Derived.BigQuiet
import Derived.Test.YtcdgldnphhidlaaGreatDoorQa
import Derived.Test.YtcdgldnphhidlaaGreatDoorQ31
set_option linter.unusedVariables false
set_option linter.unusedSimpArgs false
set_option maxRecDepth 100000
set_option maxHeartbeats 16000000
namespace Go.Proofs.YtcdgldnphhidlaaGreatDoor.fnMoreLanguages
open Go.ChangeShapes Go.WideShapes Go.ChangeAt Go.RowKit Go.WideMaps Go.ZW.PrintWords Go.Proofs.YtcdgldnphhidlaaGreatDoor.Base Go.Proofs.YtcdgldnphhidlaaGreatDoor.Lower Go.Proofs.YtcdgldnphhidlaaGreatDoor.Total Go.Proofs.YtcdgldnphhidlaaGreatDoor.Path Go.Proofs.YtcdgldnphhidlaaGreatDoor.PCore
section
variable {w:World} {st:eW} {vl vd vf vc:Value}
theorem walk (S:mM w st vl vd vf vc) (comp s:ByteArray) (word:ByteArray) (dis:Bool):Calls Tryz.prog 11 #[.agg #[vl,vd,vf,vc],.string comp,.string s,.string word,.bool dis] w fun e w'=>e = .returned (.bool true)∧Below w.heap.size w w':=by
 have HSA:=cB S;obtain ⟨Al,cl,rfl,_,_⟩:=S.l;obtain ⟨Ad,cd,rfl,_,_⟩:=S.d;obtain ⟨Af,cf,rfl,_,_⟩:=S.f;obtain ⟨Ac,cc,rfl,_,_⟩:=S.c;clear S;have hB1:Below w.heap.size w (w.alloc (.cells #[.slice Al st.langs.length cl,.slice Ad st.dis.length cd,.slice Af st.fmts.length cf,.slice Ac st.cont.length cc] 25)):=(Below.refl _ _).alloc (Nat.le_refl _) _;have hR1:=Row.new w [.slice Al st.langs.length cl,.slice Ad st.dis.length cd,.slice Af st.fmts.length cf,.slice Ac st.cont.length cc] 25;have hs1:w.heap.size < (w.alloc (.cells #[.slice Al st.langs.length cl,.slice Ad st.dis.length cd,.slice Af st.fmts.length cf,.slice Ac st.cont.length cc] 25)).heap.size:=by simp
 go_enter Tryz.func11,Tryz.ntmps11;go_upto_region 1 with fail
 obtain ⟨w1,hw1⟩:∃ w1,w.alloc (.cells #[.slice Al st.langs.length cl,.slice Ad st.dis.length cd,.slice Af st.fmts.length cf,.slice Ac st.cont.length cc] 25)=w1:=⟨_,rfl⟩
 rw[hw1] at hB1 hR1 hs1 ⊢;clear hw1;have HB1:=cB hB1;have HRS:=cB hR1;have r0:=hR1.at 0 _ rfl;have r1:=hR1.at 1 _ rfl;have r2:=hR1.at 2 _ rfl;have r3:=hR1.at 3 _ rfl;have cz:=qO (HSA.out.below hB1)
 obtain ⟨ft,hft⟩:∃ f,rB st=f:=⟨_,rfl⟩
 rw[hft] at cz;have HFT:=cB hft
 obtain ⟨q1,hq1⟩:∃ q,decide ((2147483647:Int) < (comp.size:Int))=q:=⟨_,rfl⟩
 obtain ⟨q2,hq2⟩:∃ q,decide ((2147483647:Int) < (s.size:Int))=q:=⟨_,rfl⟩
 have HQ1:=cB hq1;have HQ2:=cB hq2
 obtain ⟨q3,hq3⟩:∃ q,decide ((2147483647:Int) < (word.size:Int))=q:=⟨_,rfl⟩
 have HQ3:=cB hq3;have hq3' : decide (2147483647 < word.size)=q3:=by rw[← hq3];by_cases c:2147483647 < word.size <;> simp[c] <;> omega
 have hq1' : decide (2147483647 < comp.size)=q1:=by rw[← hq1];by_cases c:2147483647 < comp.size <;> simp[c] <;> omega
 have hq2' : decide (2147483647 < s.size)=q2:=by rw[← hq2];by_cases c:2147483647 < s.size <;> simp[c] <;> omega
 clear hB1 hR1 hft
 go_cut [31] from 14 to 31 (fun sx wx=>sx = .bool (!ft || (q1 || (q2 || q3)))∧Aside0 (Below w1.heap.size w1 wx))
 case first =>
  go_wp2_with fail
  refine cz.mono ?_;rintro e w2 ⟨rfl,hb2⟩;have HB2:=cB hb2;clear hb2 cz;cases ft
  ·go_wp2_with fail
   go_meet
   case rel=>exact ⟨rfl,HB2⟩
  cases q1
  ·cases q2
   ·go_wp2_with fail
    go_meet
    case rel=>exact ⟨rfl,HB2⟩
   go_wp2_with fail
   go_meet
   case rel=>exact ⟨rfl,HB2⟩
  go_wp2_with fail
  go_meet
  case rel=>exact ⟨rfl,HB2⟩
 obtain ⟨rfl,HB2⟩:=hcut
 obtain ⟨w2,rfl⟩:∃ x,x=wc:=⟨_,rfl⟩
 clear cz hq1 hq2 hq1' hq2' hq3 hq3' r0 r1 r2 r3;have HBA:=cB (HB1.out.trans (HB2.out.mono HB1.out.size))
 obtain ⟨g,hg⟩:∃ g,(!ft || (q1 || (q2 || q3)))=g:=⟨_,rfl⟩
 rw[hg];have HG:=cB hg;clear hg;cases g;rotate_left
 ·go_wp2_with fail
  go_ret;exact ⟨rfl,HBA.out⟩
 have hf:ft=true∧q1=false∧q2=false∧q3=false:=by have h9:=HG.out;revert h9;cases ft <;> cases q1 <;> cases q2 <;> cases q3 <;> simp
 obtain ⟨rfl,rfl,rfl,rfl⟩:=hf;have hcs:comp.size≤MM:=by have:=of_decide_eq_false HQ1.out;unfold MM;omega
 have hss:s.size≤MM:=by have:=of_decide_eq_false HQ2.out;unfold MM;omega
 have hws:word.size≤2147483647:=by have:=of_decide_eq_false HQ3.out;omega
 have hRs:=HRS.out.below HB2.out hs1;have r0:=hRs.at 0 _ rfl;have r1:=hRs.at 1 _ rfl;have r2:=hRs.at 2 _ rfl;have r3:=hRs.at 3 _ rfl;obtain ⟨ok,HOK,ck⟩:=tX (HSA.out.below HBA.out) HFT.out comp s (by unfold MM at hcs hss;omega);replace HOK:=cB HOK;have HRS2:=cB hRs;clear hRs hcs hss;go_wp2_with fail
 refine ck.mono ?_;rintro e w4 ⟨t,l1,l2,l3,v1,v2,v3,rfl,hs,ht,hb4⟩;have HSL:=cB hs;have HT:=cB ht;have HB4:=cB hb4;obtain ⟨A1,c1,e1,_⟩:=HSL.out.1;obtain ⟨A2,c2,e2,_⟩:=HSL.out.2.1;obtain ⟨A3,c3,e3,_⟩:=HSL.out.2.2;clear ck hs ht hb4 r0 r1 r2 r3
 obtain ⟨C,hC⟩:∃ C:Array Value,nV t v1 v2 v3=C:=⟨_,rfl⟩
 have hval:iH t v1 v2 v3 = .agg C:=by rw[← hC];rfl
 have HCS:=cB (show C.size=31 by rw[← hC];rfl);have HON:=cB (show C.all (·.oneCell')=true by rw[← hC,e1,e2,e3];exact nZ _ _ _ _ _ _ _ _ _ _);rw[hval];have HC:=cB hC;clear hval e1 e2 e3 hC;have hRZ:=Row.new w4 eZ 35;have HCE:=cB (sB hRZ rfl HCS.out);have HBW:=cB (sC w4 C)
 go_upto_region 4 with (first | (refine kZ rfl _ _ rfl w4.heap.size C rfl rfl hRZ rfl HCS.out HON.out ?_) | fail)
 change Code.wp _ _ _ _ ((w4.alloc (.cells eZ.toArray 35)).setCells w4.heap.size 0 C.toList)
 obtain ⟨W,hW⟩:∃ W,(w4.alloc (.cells eZ.toArray 35)).setCells w4.heap.size 0 C.toList=W:=⟨_,rfl⟩
 rw[hW] at HCE HBW ⊢
 obtain ⟨bk,hbk⟩:∃ b,w4.heap.size=b:=⟨_,rfl⟩
 have HBK:=cB hbk;rw[hbk] at HCE ⊢;clear hW hbk hRZ;have HBX:=cB (eD (eD HBA.out HB4.out) HBW.out);have HRS3:=cB ((HRS2.out.below HB4.out (Nat.lt_of_lt_of_le hs1 HB2.out.size)).below HBW.out (Nat.lt_of_lt_of_le (Nat.lt_of_lt_of_le hs1 HB2.out.size) HB4.out.size));have r0:=HRS3.out.at 0 _ rfl;have r1:=HRS3.out.at 1 _ rfl;have r2:=HRS3.out.at 2 _ rfl;have r3:=HRS3.out.at 3 _ rfl;go_upto_region 5 with fail
 have hR5:=Row.new W [.slice Al st.langs.length cl,.slice Ad st.dis.length cd,.slice Af st.fmts.length cf,.slice Ac st.cont.length cc] 25;have hb5:Below W.heap.size W (W.alloc (.cells #[.slice Al st.langs.length cl,.slice Ad st.dis.length cd,.slice Af st.fmts.length cf,.slice Ac st.cont.length cc] 25)):=(Below.refl _ _).alloc (Nat.le_refl _) _
 obtain ⟨XB,hX⟩:∃ X,W.alloc (.cells #[.slice Al st.langs.length cl,.slice Ad st.dis.length cd,.slice Af st.fmts.length cf,.slice Ac st.cont.length cc] 25)=X:=⟨_,rfl⟩
 rw[hX] at hR5 hb5 ⊢
 obtain ⟨bb,hbb⟩:∃ b,W.heap.size=b:=⟨_,rfl⟩
 have HBL:=cB (Nat.le_of_eq hbb);rw[hbb] at hR5 ⊢;clear hX r0 r1 r2 r3 hbb;have HB5:=cB (eD HBX.out hb5);have HV5:=cB hb5;have HR5:=cB hR5;clear hb5;cases dis
 ·have hbl0:bb < XB.heap.size:=HR5.out.lt bI;have hlz:st.langs.length≤4000000000:=(tI HFT.out).l
  obtain ⟨XA,hXA⟩:∃ X,XB.alloc (.cells #[] 9)=X:=⟨_,rfl⟩
  have hva:Below XB.heap.size XB XA:=hXA▸(Below.refl _ _).alloc (Nat.le_refl _) _;have hown:XA.ownsRow XB.heap.size 9 1 (.slice (some ⟨XB.heap.size,0,none⟩) 0 0) 0 []:=hXA▸World.ownsRow_lit XB #[] 0 (Nat.le_refl _) bF rfl;have hsa:XB.heap.size≤XA.heap.size:=hva.size;have rs:=((HRS3.out.below HV5.out (HRS3.out.lt bI)).below hva (Nat.lt_of_lt_of_le (HRS3.out.lt bI) HV5.out.size)).at 0 _ rfl;have hsrc:eV XA 0 (.slice Al st.langs.length cl) st.langs:=(HSA.out.below (eD HB5.out hva)).l
  go_wp2_with (first | (refine uR rfl XB.heap.size (.tmp 49) (.tmp 51) 22 9 _ 16 rfl Tryz.underlying22 pO rfl bF (.slice (some ⟨XB.heap.size,0,none⟩) 0 0) 0 [] rfl hown hsrc rfl hsa bA ?_) | fail)
  intro v1 w5 ho hg ha
  try rw[Nat.zero_add,List.nil_append] at ho
  obtain ⟨N1,m1,rfl⟩:=fL ho;have hg1:XA.grownBy w5 (some XB.heap.size):=hg;have hra:=(HR5.out.below hva hbl0).grown hg1 (Nat.lt_of_lt_of_le hbl0 hsa) (fun e=>by injection e with e;omega);have hv1:Below W.heap.size W w5:=(eD HV5.out hva).grown hg1 (Nat.le_trans HV5.out.size hsa) (fun k e=>by injection e with e;have:=HV5.out.size;omega);have hs5:XB.heap.size≤w5.heap.size:=Nat.le_trans hsa hg1.size;clear rs hown hg ha hg1 hsrc
  go_wp2_with (first | (refine kI rfl XB.heap.size (.tmp 52) (.tmp 54) 22 9 _ 1 16 rfl Tryz.underlying22 pO rfl bF bF (.slice N1 st.langs.length m1) st.langs.length (st.langs.map Value.string) [.string word] rfl rfl rfl bL ho hs5 bA ?_) | fail)
  intro v2 w6 ho2 hg2 ha2;have hnb:=lW ho hbl0;obtain ⟨N2,m2,rfl⟩:=fL ho2;have hnb2:=lW ho2 hbl0;have hrb:=hra.grown hg2 (hra.lt bI) hnb
  have hv2:Below W.heap.size W w6:=hv1.grown hg2 (Nat.le_trans HV5.out.size hs5) (fun k e=>by
   rcases Nat.lt_or_ge k XB.heap.size with h | h
   ·exact absurd e.symm (lW ho h)
   exact Nat.le_trans HV5.out.size h)
  have q0:=hrb.at 0 _ rfl;have f0:=hrb.free 0 bI;clear ho hg2 ha2 hra hv1 hs5 hva hXA hsa;go_upto_region 8 with fail
  obtain ⟨Y,hY⟩:∃ Y,w6.setCell ⟨bb,0,none⟩ (.slice N2 (st.langs.length+1) m2)=Y:=⟨_,rfl⟩
  have hY0:Row Y bb [.slice N2 (st.langs.length+1) m2,.slice Ad st.dis.length cd,.slice Af st.fmts.length cf,.slice Ac st.cont.length cc]:=hY▸hrb.set 0 (.slice N2 (st.langs.length+1) m2) bI;have hY1:Below W.heap.size W Y:=hY▸hv2.setCell (p:=⟨bb,0,none⟩) HBL.out _;have hN:eV Y 0 (.slice N2 (st.langs.length+1) m2) (st.langs++[word]):=hY▸(tC (l:=st.langs++[word]) (by rw[List.map_append];exact ownsRow_setCell_other ho2 (a:=⟨bb,0,none⟩) (fun e=>hnb2 e.symm) _) bI).mono (Nat.zero_le _);rw[hY];have HRY:=cB hY0;have HV6:=cB hY1;have HB6:=cB (eD HBX.out hY1);have HNN:=cB hN;have HBW6:=cB (eD HBW.out hY1);clear hY hY0 hY1 hN q0 f0 hrb hv2 ho2 hnb hnb2 hR5;cases ok
  ·go_wp2_with fail
   go_ret
   first
   | exact ⟨rfl,HB6.out⟩
   | exact ⟨congrArg (fun b=>Ending.returned (Value.bool b)) bZ,HB6.out⟩
  obtain ⟨ht1,rfl,rfl,rfl⟩:=HT.out bM;obtain ⟨OS,HASC,HASCC,hs400,hc2000,hPK⟩:=HOK.out bM;have HPK:=cB hPK;clear hPK
  obtain ⟨p,hp⟩:∃ p,gB (eJ st) comp (norm s)=p:=⟨_,rfl⟩
  rw[hp] at ht1 HSL;subst ht1;have HP:=cB hp;have hpo:=qR (eJ st) comp (norm s) (by rw[norm_size];omega);rw[hp] at hpo;have HPO:=cB hpo;have HPN:=cB (sV (eJ st) comp (norm s));rw[hp] at HPN;have k9:=HCE.out 9 (.string (nrm p.trim p.s)) (by rw[← HC.out];rfl);have hne:=HPN.out;clear hp hpo HT HOK k9 hne;have HRC0:=cB (show W.rangeAt bk 0 C.toList from fun j v hv=>by rw[Nat.zero_add];exact HCE.out j v hv);have S0:=HSA.out.below HB6.out;have hN:=HNN.out
  obtain ⟨st2,hst2⟩:∃ x:eW,{ st with langs:=st.langs++[word] }=x:=⟨_,rfl⟩
  have SN:SiteIn Y st2 (.slice N2 (st.langs.length+1) m2) (.slice Ad st.dis.length cd) (.slice Af st.fmts.length cf) (.slice Ac st.cont.length cc):=hst2▸⟨hN,S0.d,S0.f,S0.c⟩;obtain ⟨kn,hkn,ck⟩:=pG SN (hst2▸HPK.out.few.langs bA (by have:=HPK.out.site.la;omega)) comp s bA bA;obtain ⟨sr,hsr,cst⟩:=rS s word bA bA;have HSN:=cB SN;have HKN:=cB hkn;have HST:=cB hst2;have HSR:=cB hsr;have HCK:=cB ck;clear S0 SN hkn hst2 hsr ck hN;go_wp2_with fail
  refine (cst _).mono ?_;rintro e w7 ⟨rfl,hb7⟩;have HL7:=cB hb7;have HB7:=cB (eD HB6.out hb7);have HRB7:=cB (HRY.out.below hb7 (HRY.out.lt bI));clear cst hb7;cases sr
  ·go_wp2_with fail
   go_ret
   first
   | exact ⟨rfl,HB7.out⟩
   | exact ⟨congrArg (fun b=>Ending.returned (Value.bool b)) bZ,HB7.out⟩
  have r0:=HRB7.out.at 0 _ rfl;have r1:=HRB7.out.at 1 _ rfl;have r2:=HRB7.out.at 2 _ rfl;have r3:=HRB7.out.at 3 _ rfl;have ck:=HCK.out w7 HL7.out;go_wp2_with fail
  refine ck.mono ?_;rintro e w8 ⟨rfl,hb8⟩;have HB8:=cB (eD HB7.out hb8);have HV8:=cB (eD HL7.out hb8);have HRS8:=cB (HRB7.out.below hb8 (HRB7.out.lt bI));have HRC8:=cB (iY HRC0.out (eD HV6.out HV8.out));clear ck hb8 r0 r1 r2 r3;cases kn
  ·go_wp2_with fail
   go_ret
   first
   | exact ⟨rfl,HB8.out⟩
   | exact ⟨congrArg (fun b=>Ending.returned (Value.bool b)) bZ,HB8.out⟩
  obtain ⟨hasc,_,_,K2⟩:=HKN.out bM;have K2':=HST.out.symm▸K2;have hin:=vM (s:=s) (K2'.site.langs word bI) (HSR.out bM);have HAG:=cB (aEo (st:=st) hin);have HK2:=cB K2';have HAS2:=cB hasc;clear K2 K2' hin hasc;go_wp2_with fail
  have hS9:w8.drew.rangeAt bb 0 [.slice N2 (st.langs.length+1) m2,.slice Ad st.dis.length cd,.slice Af st.fmts.length cf,.slice Ac st.cont.length cc]∧w8.drew.rangeAt bk 0 C.toList:=⟨(World.rangeAt_drew _ _ _ _).2 HRS8.out.range,(World.rangeAt_drew _ _ _ _).2 HRC8.out⟩
  refine wp_region_held_drew (S:=fun w'=>w'.rangeAt bb 0 [.slice N2 (st.langs.length+1) m2,.slice Ad st.dis.length cd,.slice Af st.fmts.length cf,.slice Ac st.cont.length cc]∧w'.rangeAt bk 0 C.toList) bB hS9 (fun hH=>?_);have HBV:=cB HB8.out.drew;have HVV:=cB HV8.out.drew
  obtain ⟨V,hV⟩:∃ V,w8.drew=V:=⟨_,rfl⟩
  rw[hV] at hS9 HBV HVV hH ⊢;clear hV;have iC:(Tryz.prog.info? 35).map (·.size)=some C.toList.length:=by rw[Array.length_toList,HCS.out];kernel_rfl
  refine takeD (i:=0) (d:=some 72) (v:=.agg #[.slice N2 (st.langs.length+1) m2,.slice Ad st.dis.length cd,.slice Af st.fmts.length cf,.slice Ac st.cont.length cc]) rfl rfl bB bB bB (fun _ _ _ h=>h) (yieldsIf_load_mid rfl 25 (.tmp 13) rfl bb 0 rfl [.slice N2 (st.langs.length+1) m2,.slice Ad st.dis.length cd,.slice Af st.fmts.length cf,.slice Ac st.cont.length cc] _ (fun _ h=>h.1) Tryz.underlying25 rfl bB) hH ?_;refine takeD (i:=1) (d:=some 73) (v:=.string comp) rfl rfl bB bB bB (fun _ _ _ h=>h) (.inl ⟨rfl,fun w' _=>by go_simp⟩) hH ?_;refine takeD (i:=2) (d:=some 74) (v:=.string s) rfl rfl bB bB bB (fun _ _ _ h=>h) (.inl ⟨rfl,fun w' _=>by go_simp⟩) hH ?_
  refine takeD (i:=4) (d:=some 76) (v:=.agg C.toList.toArray) rfl rfl bB bB bB (fun _ _ _ h=>h) (yieldsIf_load_mid rfl 35 (.tmp 11) rfl bk 0 rfl C.toList _ (fun _ h=>h.2) Tryz.underlying35 rfl iC) hH ?_;have cP:=qI (HST.out.symm▸HSN.out.below HVV.out) HK2.out.siteOk HPK.out HK2.out HAG.out bA HAS2.out;rw[HP.out] at cP;refine wpAnyH_ready (rs:=[3]) bB bI ?_;refine xW (i:=3) (d:=some 75) (R:=fun v w'=>∃ u1 u2 u3,v=iH (gL p) u1 u2 u3∧Path.Told w' V.heap.size p u1 u2 u3∧Below V.heap.size V w') rfl rfl rfl (fun K hK=>pZ (by go_simp) (cP.mono fun e w' ⟨u1,u2,u3,h1,h2,h3⟩=>⟨_,h1,u1,u2,u3,rfl,h2,h3⟩) hK) (fun v w' ⟨_,_,_,_,_,h⟩=>⟨iY hS9.1 h,iY hS9.2 h⟩) ?_ AllReadyH.nil;rintro v w9 ⟨u1,u2,u3,rfl,hT,hb9⟩
  have HT:=cB hT;have HB9:=cB (eD HBV.out hb9);have hv:=HBW6.out.trans ((eD HVV.out hb9).mono HBW6.out.size)
  have U1:Path.Told w9 0 p v1 v2 v3:=⟨(HSL.out.1.below hv).mono (Nat.zero_le _),(HSL.out.2.1.below hv).mono (Nat.zero_le _),(HSL.out.2.2.below hv).mono (Nat.zero_le _)⟩
  have ca:=uQ HPO.out.1.toPathIn HPN.out ⟨HT.out.1.mono (Nat.zero_le _),HT.out.2.1.mono (Nat.zero_le _),HT.out.2.2.mono (Nat.zero_le _)⟩ U1
  obtain ⟨Cx,hCx⟩:∃ Cx:Array Value,nV (gL p) u1 u2 u3=Cx:=⟨_,rfl⟩
  have hv1:iH (gL p) u1 u2 u3 = .agg Cx:=by rw[← hCx];rfl
  have hv2:iH (gL p) v1 v2 v3 = .agg C.toList.toArray:=by rw[Array.toArray_toList,← HC.out];rfl
  rw[hv1];rw[hv1,hv2] at ca
  have hS8:w9.rangeAt bb 0 [.slice N2 (st.langs.length+1) m2,.slice Ad st.dis.length cd,.slice Af st.fmts.length cf,.slice Ac st.cont.length cc]∧w9.rangeAt bk 0 C.toList:=⟨iY hS9.1 hb9,iY hS9.2 hb9⟩
  clear cP hT hCx hv1 hv2 U1 hv;refine wpAnyH_ready (rs:=[5]) bB bI ?_;refine xW (i:=5) (d:=some 77) (R:=fun v w'=>v = .bool true∧Below w9.heap.size w9 w') rfl rfl rfl (fun K hK=>pZ (by go_simp) (ca.mono fun e w' ⟨h1,h2⟩=>⟨_,h1,rfl,h2⟩) hK) (fun v w' ⟨_,h⟩=>⟨iY hS8.1 h,iY hS8.2 h⟩) ?_ AllReadyH.nil;rintro v w10 ⟨rfl,hb10⟩;have HB10:=cB (eD HB9.out hb10)
  have hH:w10.rangeAt bb 0 [.slice N2 (st.langs.length+1) m2,.slice Ad st.dis.length cd,.slice Af st.fmts.length cf,.slice Ac st.cont.length cc]∧w10.rangeAt bk 0 C.toList:=⟨iY hS8.1 hb10,iY hS8.2 hb10⟩
  refine takeD (i:=6) (d:=some 10) (v:=.bool true) rfl rfl bB bB bB (fun _ _ _ h=>h) (.inl ⟨rfl,fun w' _=>by go_simp⟩) hH ?_;refine wpAnyH_done bB ?_ _;simp only[Act.put,List.setIfInBounds_toArray,List.set_cons_zero,List.set_cons_succ];go_wp2_with fail
  go_ret;exact ⟨rfl,HB10.out⟩
 have hbl0:bb < XB.heap.size:=HR5.out.lt bI;have hlz:st.dis.length≤4000000000:=(tI HFT.out).d
 obtain ⟨XA,hXA⟩:∃ X,XB.alloc (.cells #[] 9)=X:=⟨_,rfl⟩
 have hva:Below XB.heap.size XB XA:=hXA▸(Below.refl _ _).alloc (Nat.le_refl _) _;have hown:XA.ownsRow XB.heap.size 9 1 (.slice (some ⟨XB.heap.size,0,none⟩) 0 0) 0 []:=hXA▸World.ownsRow_lit XB #[] 0 (Nat.le_refl _) bF rfl;have hsa:XB.heap.size≤XA.heap.size:=hva.size;have rs:=((HRS3.out.below HV5.out (HRS3.out.lt bI)).below hva (Nat.lt_of_lt_of_le (HRS3.out.lt bI) HV5.out.size)).at 1 _ rfl;have hsrc:eV XA 0 (.slice Ad st.dis.length cd) st.dis:=(HSA.out.below (eD HB5.out hva)).d
 go_wp2_with (first | (refine uR rfl XB.heap.size (.tmp 41) (.tmp 43) 22 9 _ 16 rfl Tryz.underlying22 pO rfl bF (.slice (some ⟨XB.heap.size,0,none⟩) 0 0) 0 [] rfl hown hsrc rfl hsa bA ?_) | fail)
 intro v1 w5 ho hg ha
 try rw[Nat.zero_add,List.nil_append] at ho
 obtain ⟨N1,m1,rfl⟩:=fL ho;have hg1:XA.grownBy w5 (some XB.heap.size):=hg;have hra:=(HR5.out.below hva hbl0).grown hg1 (Nat.lt_of_lt_of_le hbl0 hsa) (fun e=>by injection e with e;omega);have hv1:Below W.heap.size W w5:=(eD HV5.out hva).grown hg1 (Nat.le_trans HV5.out.size hsa) (fun k e=>by injection e with e;have:=HV5.out.size;omega);have hs5:XB.heap.size≤w5.heap.size:=Nat.le_trans hsa hg1.size;clear rs hown hg ha hg1 hsrc
 go_wp2_with (first | (refine kI rfl XB.heap.size (.tmp 44) (.tmp 46) 22 9 _ 1 16 rfl Tryz.underlying22 pO rfl bF bF (.slice N1 st.dis.length m1) st.dis.length (st.dis.map Value.string) [.string word] rfl rfl rfl bL ho hs5 bA ?_) | fail)
 intro v2 w6 ho2 hg2 ha2;have hnb:=lW ho hbl0;obtain ⟨N2,m2,rfl⟩:=fL ho2;have hnb2:=lW ho2 hbl0;have hrb:=hra.grown hg2 (hra.lt bI) hnb
 have hv2:Below W.heap.size W w6:=hv1.grown hg2 (Nat.le_trans HV5.out.size hs5) (fun k e=>by
  rcases Nat.lt_or_ge k XB.heap.size with h | h
  ·exact absurd e.symm (lW ho h)
  exact Nat.le_trans HV5.out.size h)
 have q0:=hrb.at 1 _ rfl;have f0:=hrb.free 1 bI;clear ho hg2 ha2 hra hv1 hs5 hva hXA hsa;go_upto_region 8 with fail
 obtain ⟨Y,hY⟩:∃ Y,w6.setCell ⟨bb,1,none⟩ (.slice N2 (st.dis.length+1) m2)=Y:=⟨_,rfl⟩
 have hY0:Row Y bb [.slice Al st.langs.length cl,.slice N2 (st.dis.length+1) m2,.slice Af st.fmts.length cf,.slice Ac st.cont.length cc]:=hY▸hrb.set 1 (.slice N2 (st.dis.length+1) m2) bI;have hY1:Below W.heap.size W Y:=hY▸hv2.setCell (p:=⟨bb,1,none⟩) HBL.out _;have hN:eV Y 0 (.slice N2 (st.dis.length+1) m2) (st.dis++[word]):=hY▸(tC (l:=st.dis++[word]) (by rw[List.map_append];exact ownsRow_setCell_other ho2 (a:=⟨bb,1,none⟩) (fun e=>hnb2 e.symm) _) bI).mono (Nat.zero_le _);rw[hY];have HRY:=cB hY0;have HV6:=cB hY1;have HB6:=cB (eD HBX.out hY1);have HNN:=cB hN;have HBW6:=cB (eD HBW.out hY1);clear hY hY0 hY1 hN q0 f0 hrb hv2 ho2 hnb hnb2 hR5;cases ok
 ·go_wp2_with fail
  go_ret
  first
  | exact ⟨rfl,HB6.out⟩
  | exact ⟨congrArg (fun b=>Ending.returned (Value.bool b)) bZ,HB6.out⟩
 obtain ⟨ht1,rfl,rfl,rfl⟩:=HT.out bM;obtain ⟨OS,HASC,HASCC,hs400,hc2000,hPK⟩:=HOK.out bM;have HPK:=cB hPK;clear hPK
 obtain ⟨p,hp⟩:∃ p,gB (eJ st) comp (norm s)=p:=⟨_,rfl⟩
 rw[hp] at ht1 HSL;subst ht1;have HP:=cB hp;have hpo:=qR (eJ st) comp (norm s) (by rw[norm_size];omega);rw[hp] at hpo;have HPO:=cB hpo;have HPN:=cB (sV (eJ st) comp (norm s));rw[hp] at HPN;have k9:=HCE.out 9 (.string (nrm p.trim p.s)) (by rw[← HC.out];rfl);have hne:=HPN.out;clear hp hpo HT HOK k9 hne;have HRC0:=cB (show W.rangeAt bk 0 C.toList from fun j v hv=>by rw[Nat.zero_add];exact HCE.out j v hv);have S0:=HSA.out.below HB6.out;have hN:=HNN.out
 obtain ⟨st2,hst2⟩:∃ x:eW,{ st with dis:=st.dis++[word] }=x:=⟨_,rfl⟩
 have SN:SiteIn Y st2 (.slice Al st.langs.length cl) (.slice N2 (st.dis.length+1) m2) (.slice Af st.fmts.length cf) (.slice Ac st.cont.length cc):=hst2▸⟨S0.l,hN,S0.f,S0.c⟩;obtain ⟨kn,hkn,ck⟩:=pG SN (hst2▸HPK.out.few.dis bA (by have:=HPK.out.site.lb;omega)) comp s bA bA;obtain ⟨sr,hsr,cst⟩:=rS s word bA bA;have HSN:=cB SN;have HKN:=cB hkn;have HST:=cB hst2;have HSR:=cB hsr;have HCK:=cB ck;clear S0 SN hkn hst2 hsr ck hN;go_wp2_with fail
 refine (cst _).mono ?_;rintro e w7 ⟨rfl,hb7⟩;have HL7:=cB hb7;have HB7:=cB (eD HB6.out hb7);have HRB7:=cB (HRY.out.below hb7 (HRY.out.lt bI));clear cst hb7;cases sr
 ·go_wp2_with fail
  go_ret
  first
  | exact ⟨rfl,HB7.out⟩
  | exact ⟨congrArg (fun b=>Ending.returned (Value.bool b)) bZ,HB7.out⟩
 have r0:=HRB7.out.at 0 _ rfl;have r1:=HRB7.out.at 1 _ rfl;have r2:=HRB7.out.at 2 _ rfl;have r3:=HRB7.out.at 3 _ rfl;have ck:=HCK.out w7 HL7.out;go_wp2_with fail
 refine ck.mono ?_;rintro e w8 ⟨rfl,hb8⟩;have HB8:=cB (eD HB7.out hb8);have HV8:=cB (eD HL7.out hb8);have HRS8:=cB (HRB7.out.below hb8 (HRB7.out.lt bI));have HRC8:=cB (iY HRC0.out (eD HV6.out HV8.out));clear ck hb8 r0 r1 r2 r3;cases kn
 ·go_wp2_with fail
  go_ret
  first
  | exact ⟨rfl,HB8.out⟩
  | exact ⟨congrArg (fun b=>Ending.returned (Value.bool b)) bZ,HB8.out⟩
 obtain ⟨hasc,_,_,K2⟩:=HKN.out bM;have K2':=HST.out.symm▸K2;have hin:=vM (s:=s) (K2'.site.dis word bI) (HSR.out bM);have HAG:=cB (aHi (st:=st) hin);have HK2:=cB K2';have HAS2:=cB hasc;clear K2 K2' hin hasc;go_wp2_with fail
 have hS9:w8.drew.rangeAt bb 0 [.slice Al st.langs.length cl,.slice N2 (st.dis.length+1) m2,.slice Af st.fmts.length cf,.slice Ac st.cont.length cc]∧w8.drew.rangeAt bk 0 C.toList:=⟨(World.rangeAt_drew _ _ _ _).2 HRS8.out.range,(World.rangeAt_drew _ _ _ _).2 HRC8.out⟩
 refine wp_region_held_drew (S:=fun w'=>w'.rangeAt bb 0 [.slice Al st.langs.length cl,.slice N2 (st.dis.length+1) m2,.slice Af st.fmts.length cf,.slice Ac st.cont.length cc]∧w'.rangeAt bk 0 C.toList) bB hS9 (fun hH=>?_);have HBV:=cB HB8.out.drew;have HVV:=cB HV8.out.drew
 obtain ⟨V,hV⟩:∃ V,w8.drew=V:=⟨_,rfl⟩
 rw[hV] at hS9 HBV HVV hH ⊢;clear hV;have iC:(Tryz.prog.info? 35).map (·.size)=some C.toList.length:=by rw[Array.length_toList,HCS.out];kernel_rfl
 refine takeD (i:=0) (d:=some 72) (v:=.agg #[.slice Al st.langs.length cl,.slice N2 (st.dis.length+1) m2,.slice Af st.fmts.length cf,.slice Ac st.cont.length cc]) rfl rfl bB bB bB (fun _ _ _ h=>h) (yieldsIf_load_mid rfl 25 (.tmp 13) rfl bb 0 rfl [.slice Al st.langs.length cl,.slice N2 (st.dis.length+1) m2,.slice Af st.fmts.length cf,.slice Ac st.cont.length cc] _ (fun _ h=>h.1) Tryz.underlying25 rfl bB) hH ?_;refine takeD (i:=1) (d:=some 73) (v:=.string comp) rfl rfl bB bB bB (fun _ _ _ h=>h) (.inl ⟨rfl,fun w' _=>by go_simp⟩) hH ?_;refine takeD (i:=2) (d:=some 74) (v:=.string s) rfl rfl bB bB bB (fun _ _ _ h=>h) (.inl ⟨rfl,fun w' _=>by go_simp⟩) hH ?_
 refine takeD (i:=4) (d:=some 76) (v:=.agg C.toList.toArray) rfl rfl bB bB bB (fun _ _ _ h=>h) (yieldsIf_load_mid rfl 35 (.tmp 11) rfl bk 0 rfl C.toList _ (fun _ h=>h.2) Tryz.underlying35 rfl iC) hH ?_;have cP:=qI (HST.out.symm▸HSN.out.below HVV.out) HK2.out.siteOk HPK.out HK2.out HAG.out bA HAS2.out;rw[HP.out] at cP;refine wpAnyH_ready (rs:=[3]) bB bI ?_;refine xW (i:=3) (d:=some 75) (R:=fun v w'=>∃ u1 u2 u3,v=iH (gL p) u1 u2 u3∧Path.Told w' V.heap.size p u1 u2 u3∧Below V.heap.size V w') rfl rfl rfl (fun K hK=>pZ (by go_simp) (cP.mono fun e w' ⟨u1,u2,u3,h1,h2,h3⟩=>⟨_,h1,u1,u2,u3,rfl,h2,h3⟩) hK) (fun v w' ⟨_,_,_,_,_,h⟩=>⟨iY hS9.1 h,iY hS9.2 h⟩) ?_ AllReadyH.nil;rintro v w9 ⟨u1,u2,u3,rfl,hT,hb9⟩
 have HT:=cB hT;have HB9:=cB (eD HBV.out hb9);have hv:=HBW6.out.trans ((eD HVV.out hb9).mono HBW6.out.size)
 have U1:Path.Told w9 0 p v1 v2 v3:=⟨(HSL.out.1.below hv).mono (Nat.zero_le _),(HSL.out.2.1.below hv).mono (Nat.zero_le _),(HSL.out.2.2.below hv).mono (Nat.zero_le _)⟩
 have ca:=uQ HPO.out.1.toPathIn HPN.out ⟨HT.out.1.mono (Nat.zero_le _),HT.out.2.1.mono (Nat.zero_le _),HT.out.2.2.mono (Nat.zero_le _)⟩ U1
 obtain ⟨Cx,hCx⟩:∃ Cx:Array Value,nV (gL p) u1 u2 u3=Cx:=⟨_,rfl⟩
 have hv1:iH (gL p) u1 u2 u3 = .agg Cx:=by rw[← hCx];rfl
 have hv2:iH (gL p) v1 v2 v3 = .agg C.toList.toArray:=by rw[Array.toArray_toList,← HC.out];rfl
 rw[hv1];rw[hv1,hv2] at ca
 have hS8:w9.rangeAt bb 0 [.slice Al st.langs.length cl,.slice N2 (st.dis.length+1) m2,.slice Af st.fmts.length cf,.slice Ac st.cont.length cc]∧w9.rangeAt bk 0 C.toList:=⟨iY hS9.1 hb9,iY hS9.2 hb9⟩
 clear cP hT hCx hv1 hv2 U1 hv;refine wpAnyH_ready (rs:=[5]) bB bI ?_;refine xW (i:=5) (d:=some 77) (R:=fun v w'=>v = .bool true∧Below w9.heap.size w9 w') rfl rfl rfl (fun K hK=>pZ (by go_simp) (ca.mono fun e w' ⟨h1,h2⟩=>⟨_,h1,rfl,h2⟩) hK) (fun v w' ⟨_,h⟩=>⟨iY hS8.1 h,iY hS8.2 h⟩) ?_ AllReadyH.nil;rintro v w10 ⟨rfl,hb10⟩;have HB10:=cB (eD HB9.out hb10)
 have hH:w10.rangeAt bb 0 [.slice Al st.langs.length cl,.slice N2 (st.dis.length+1) m2,.slice Af st.fmts.length cf,.slice Ac st.cont.length cc]∧w10.rangeAt bk 0 C.toList:=⟨iY hS8.1 hb10,iY hS8.2 hb10⟩
 refine takeD (i:=6) (d:=some 10) (v:=.bool true) rfl rfl bB bB bB (fun _ _ _ h=>h) (.inl ⟨rfl,fun w' _=>by go_simp⟩) hH ?_;refine wpAnyH_done bB ?_ _;simp only[Act.put,List.setIfInBounds_toArray,List.set_cons_zero,List.set_cons_succ];go_wp2_with fail
 go_ret;exact ⟨rfl,HB10.out⟩
end
theorem lifted (os:Os) (started:os.Started) (H:Type) (enc:TypeId×Value→H) :
 ReturnsInHanded {} Tryz.checked os 11 .any (fun w args=>(Rows.fnMoreLanguagesSpec.pre enc Tryz.prog Tryz.f11 Rows.fnMoreLanguagesRow.domain false w args∧laidMetH Tryz.prog Rows.fnMoreLanguagesRow.laid w)∧sizedMet enc Tryz.prog Tryz.f11 (OpenSpec.ofChange Rows.fnMoreLanguagesSpec) false w args)
  (Rows.fnMoreLanguagesSpec.post enc Tryz.prog Tryz.f11 false true false false):=by
 refine returnsInHanded_of_change_and (C:=Tryz.checked) (X:=fun w _=>laidMetH Tryz.prog Rows.fnMoreLanguagesRow.laid w) (fun _ _ _ hh h=>h.of_heap hh) RowKit.own started bB Tryz.func11
  (ChangeSpec.witness_shaped (enc:=enc) (C:=Tryz.checked) (os:=os) (X:=fun w _=>laidMetH Tryz.prog Rows.fnMoreLanguagesRow.laid w) false (World.laidAll Tryz.prog os Rows.fnMoreLanguagesRow.laid) #[.agg #[.slice none 0 0,.slice none 0 0,.slice none 0 0,.slice none 0 0],.string ByteArray.empty,.string ByteArray.empty,.string ByteArray.empty,.bool false] 8 (World.laidAll_os _ _ _)
   (World.shaped_of_ZipB bB bB) bB bB bB
   bQ) ?_
 intro W base args ds gs before hval0 hW _ _ _ _;have hval:∀ (j:Nat) t v,Tryz.f11.params[j]? = some t→args[j]? = some v→Value.okWide Tryz.prog W .any base t v:=hval0;have hW':=hW;obtain ⟨p,q,hA0,hV,rfl,_,_⟩:=hW;have hA:DataW.TrodAll enc Tryz.prog W 0 (fun _=>true) true Tryz.f11.params.toList args.toList ds p:=hA0;rw[Tryz.params11] at hA hval;obtain ⟨v0,vs0,d0,ds0,p0,q0,hargs,rfl,rfl,h0,r0⟩:=trodAll_cons hA;obtain ⟨v1,vs1,d1,ds1,p1,q1,rfl,rfl,rfl,h1,r1⟩:=trodAll_cons r0;obtain ⟨v2,vs2,d2,ds2,p2,q2,rfl,rfl,rfl,h2,r2⟩:=trodAll_cons r1;obtain ⟨v3,vs3,d3,ds3,p3,q3,rfl,rfl,rfl,h3,r3⟩:=trodAll_cons r2;obtain ⟨v4,vs4,d4,ds4,p4,q4,rfl,rfl,rfl,h4,r4⟩:=trodAll_cons r3;obtain ⟨rfl,rfl,rfl⟩:=trodAll_nil r4;obtain rfl:args = #[v0,v1,v2,v3,v4]:=by cases args;simp_all
 obtain ⟨rfl,rfl⟩:=trodVars_none hV;have k0:=h0;have lt0:∀ x∈p0,x.block < W.heap.size:=by obtain ⟨m,hm⟩:=k0;exact DataW.trod_lt m _ _ _ hm
 obtain ⟨st0,vl0,vd0,vf0,vc0,rfl,S0⟩:=SiteRow.open_site (hval 0 25 v0 rfl rfl) h0;obtain ⟨a1,rfl,rfl,rfl,y1⟩:=Go.ChangeMaps.open_string Tryz.underlying9 (hval 1 9 v1 rfl rfl) h1;obtain ⟨a2,rfl,rfl,rfl,y2⟩:=Go.ChangeMaps.open_string Tryz.underlying9 (hval 2 9 v2 rfl rfl) h2;obtain ⟨a3,rfl,rfl,rfl,y3⟩:=Go.ChangeMaps.open_string Tryz.underlying9 (hval 3 9 v3 rfl rfl) h3;obtain ⟨a4,rfl,rfl,rfl⟩:=open_bool Tryz.underlying4 (hval 4 4 v4 rfl rfl) h4;clear hA0 hval0;refine (walk (w:=W) S0 a1 a2 a3 a4).mono fun e W' ⟨he,bel⟩=>?_;subst he
 exact ⟨_,rfl,_,_,_,[],_,[],hW',trodAll_mk1 (shut_bool Tryz.underlying4 _),(trodAll_cons_mk (Below.trod SiteRow.laidOut bB (of_decide_eq_true bB) k0 bel lt0) (trodAll_cons_mk (Go.ChangeMaps.shut_string Tryz.underlying9 y1) (trodAll_cons_mk (Go.ChangeMaps.shut_string Tryz.underlying9 y2) (trodAll_cons_mk (Go.ChangeMaps.shut_string Tryz.underlying9 y3) (trodAll_cons_mk (shut_bool Tryz.underlying4 _) trodAll_mk0))))),rfl,bel.frame _,fun h=>by cases h⟩
theorem said:Rows.FnMoreLanguagesSaid :=
 OpenClaim.holds_of_wide 11 Tryz.f11 rfl rfl rfl rfl rfl rfl rfl ⟨rfl,rfl,rfl,rfl,rfl⟩ rfl rfl rfl rfl rfl bB Tryz.func11 bB
  (of_decide_eq_true bB) bO
  (fun os started H enc _=>lifted os started H enc)
theorem plain (f:FuncId) (fn:Func) (hf:Tryz.pinned.checked.prog.funcNamed "pub-trackway/laws.FnMoreLanguages" = some f) (hfn:Tryz.pinned.checked.prog.funcs[f]? = some fn) :
 false=Tryz.pinned.checked.prog.looks []∧∀ (j:Nat) t,fn.params[j]? = some t→Tryz.pinned.checked.prog.wantsStandIn t=false:=by
 obtain rfl:f=11:=Option.some.inj ((show Tryz.prog.funcNamed "pub-trackway/laws.FnMoreLanguages" = some 11 by kernel_rfl).symm.trans hf) |>.symm
 obtain rfl:fn=Tryz.f11:=(Option.some.inj (Tryz.func11.symm.trans hfn)).symm;refine ⟨by kernel_rfl,fun j t ht=>?_⟩;rw[Tryz.params11] at ht;have hm:t∈[25,9,9,9,4]:=by simpa using Array.mem_of_getElem? ht
 have hall:([25,9,9,9,4].all fun u=>!Tryz.prog.wantsStandIn u)=true:=by kernel_rfl
 exact (show Tryz.prog.wantsStandIn t=false by simpa using List.all_eq_true.1 hall t hm)
theorem card:Rows.FnMoreLanguagesCardSaid :=
 Claim7.holds_tied_plain_at .later [] _ _ _ _ said (fun _ h=>by cases h) bB (fun _ h=>by cases h) fnMoreLanguages_row_tie rfl ⟨rfl,rfl⟩ bB rfl plain bB
end Go.Proofs.YtcdgldnphhidlaaGreatDoor.fnMoreLanguages
namespace Go.Proofs.YtcdgldnphhidlaaGreatDoor
theorem fnMoreLanguages_card:Rows.FnMoreLanguagesCardSaid:=fnMoreLanguages.card
#print axioms fnMoreLanguages_card
end Go.Proofs.YtcdgldnphhidlaaGreatDoor
