/- All components but content, layouts and archetypes are alike. Condition: none but the statement's own. -/
import Derived.Deep.QuietTactic
import Derived.BigQuiet
import Derived.Test.YtjlaamcklhdhaaaGreatDoorV1
import Derived.Test.YtjlaamcklhdhaaaGreatDoorV10
import Derived.Test.YtjlaamcklhdhaaaGreatDoorV11
import Derived.Test.YtjlaamcklhdhaaaGreatDoorV12
import Derived.Test.YtjlaamcklhdhaaaGreatDoorV13
import Derived.Test.YtjlaamcklhdhaaaGreatDoorV14
import Derived.Test.YtjlaamcklhdhaaaGreatDoorV15
import Derived.Test.YtjlaamcklhdhaaaGreatDoorV16
import Derived.Test.YtjlaamcklhdhaaaGreatDoorV17
import Derived.Test.YtjlaamcklhdhaaaGreatDoorV18
import Derived.Test.YtjlaamcklhdhaaaGreatDoorV19
import Derived.Test.YtjlaamcklhdhaaaGreatDoorV2
import Derived.Test.YtjlaamcklhdhaaaGreatDoorV20
import Derived.Test.YtjlaamcklhdhaaaGreatDoorV21
import Derived.Test.YtjlaamcklhdhaaaGreatDoorV22
import Derived.Test.YtjlaamcklhdhaaaGreatDoorV3
import Derived.Test.YtjlaamcklhdhaaaGreatDoorV4
import Derived.Test.YtjlaamcklhdhaaaGreatDoorV5
import Derived.Test.YtjlaamcklhdhaaaGreatDoorV6
import Derived.Test.YtjlaamcklhdhaaaGreatDoorV7
import Derived.Test.YtjlaamcklhdhaaaGreatDoorV8
import Derived.Test.YtjlaamcklhdhaaaGreatDoorV9
import Derived.Test.YtjlaamcklhdhaaaGreatDoorRBS
set_option linter.unusedSimpArgs false
set_option linter.unusedVariables false
namespace Go.Proofs.YtjlaamcklhdhaaaGreatDoor.fnOthers
open Go.ChangeShapes Go.WideShapes Go.ChangeAt Go.RowKit Go.WideMaps Go.Proofs.YtjlaamcklhdhaaaGreatDoorW.PrintWords Go.Proofs.YtjlaamcklhdhaaaGreatDoor.Base Go.Proofs.YtjlaamcklhdhaaaGreatDoor.Lower Go.Proofs.YtjlaamcklhdhaaaGreatDoor.Total Go.Proofs.YtjlaamcklhdhaaaGreatDoor.Path Go.Proofs.YtjlaamcklhdhaaaGreatDoor.PCore
theorem told_as (p:PathV) (c:ByteArray) (h1:isLay p.comp=isLay c):mTold (p.as c) = { mTold p with component:=c }:=by
 have h2:mIdBase (p.as c)=mIdBase p:=by
  unfold mIdBase
  have e:(p.comp.toList=[108,97,121,111,117,116,115])=(c.toList=[108,97,121,111,117,116,115]):=by
   unfold isLay at h1;apply propext;constructor
   ·intro h;rw[h] at h1;simpa using h1.symm
   ·intro h;rw[h] at h1;simpa using h1
  show (if c.toList=[108,97,121,111,117,116,115] then nrm p.trim p.s else mBase p)=_;simp only[e]
 show ToldV.mk .. = ToldV.mk ..;congr 1
theorem toldC_tail (t:ToldV) (c:ByteArray) (v1 v2 v3:Value) (j:Nat) (h:j≠0):(toldC { t with component:=c } v1 v2 v3).toList[j]? = (toldC t v1 v2 v3).toList[j]?:=by
 cases j with
 | zero=>exact absurd rfl h
 | succ j=>rfl
theorem static_out:isLay (⟨#[115,116,97,116,105,99]⟩:ByteArray)=false∧isCon (⟨#[115,116,97,116,105,99]⟩:ByteArray)=false∧isArch (⟨#[115,116,97,116,105,99]⟩:ByteArray)=false:=by
 refine ⟨?_,?_,?_⟩ <;> kernel_rfl
section
variable {w:World} {st:SiteV} {vl vd vf vc:Value}
set_option maxRecDepth 100000 in
set_option maxHeartbeats 4000000 in
theorem walk (S:SiteArg w st vl vd vf vc) (comp s:ByteArray):Calls Tryz.prog 11 #[.agg #[vl,vd,vf,vc],.string comp,.string s] w fun e w'=>e = .returned (.bool true)∧Below w.heap.size w w':=by
 have HSA:=Aside0.mk S;obtain ⟨Al,cl,rfl,_,_⟩:=S.l;obtain ⟨Ad,cd,rfl,_,_⟩:=S.d;obtain ⟨Af,cf,rfl,_,_⟩:=S.f;obtain ⟨Ac,cc,rfl,_,_⟩:=S.c;clear S;have hB1:Below w.heap.size w (w.alloc (.cells #[.slice Al st.langs.length cl,.slice Ad st.dis.length cd,.slice Af st.fmts.length cf,.slice Ac st.cont.length cc] 25)):=(Below.refl _ _).alloc (Nat.le_refl _) _;have hR1:=Row.new w [.slice Al st.langs.length cl,.slice Ad st.dis.length cd,.slice Af st.fmts.length cf,.slice Ac st.cont.length cc] 25;have hs1:w.heap.size < (w.alloc (.cells #[.slice Al st.langs.length cl,.slice Ad st.dis.length cd,.slice Af st.fmts.length cf,.slice Ac st.cont.length cc] 25)).heap.size:=by simp
 go_enter Tryz.func11,Tryz.ntmps11;go_upto_region 1 with fail
 obtain ⟨w1,hw1⟩:∃ w1,w.alloc (.cells #[.slice Al st.langs.length cl,.slice Ad st.dis.length cd,.slice Af st.fmts.length cf,.slice Ac st.cont.length cc] 25)=w1:=⟨_,rfl⟩
 rw[hw1] at hB1 hR1 hs1 ⊢;clear hw1;have HB1:=Aside0.mk hB1;have HRS:=Aside0.mk hR1;have r0:=hR1.at 0 _ rfl;have r1:=hR1.at 1 _ rfl;have r2:=hR1.at 2 _ rfl;have r3:=hR1.at 3 _ rfl;have cz:=zzFits_calls (HSA.out.below hB1)
 obtain ⟨ft,hft⟩:∃ f,fitsS st=f:=⟨_,rfl⟩
 rw[hft] at cz;have HFT:=Aside0.mk hft
 obtain ⟨q1,hq1⟩:∃ q,decide ((2147483647:Int) < (comp.size:Int))=q:=⟨_,rfl⟩
 obtain ⟨q2,hq2⟩:∃ q,decide ((2147483647:Int) < (s.size:Int))=q:=⟨_,rfl⟩
 have HQ1:=Aside0.mk hq1;have HQ2:=Aside0.mk hq2;have hq1' : decide (2147483647 < comp.size)=q1:=by rw[← hq1];by_cases c:2147483647 < comp.size <;> simp[c] <;> omega
 have hq2' : decide (2147483647 < s.size)=q2:=by rw[← hq2];by_cases c:2147483647 < s.size <;> simp[c] <;> omega
 clear hB1 hR1 hft
 go_cut [22] from 10 to 22 (fun sx wx=>sx = .bool (!ft || (q1 || q2))∧Aside0 (Below w1.heap.size w1 wx))
 case first =>
  go_wp2_with fail
  refine cz.mono ?_;rintro e w2 ⟨rfl,hb2⟩;have HB2:=Aside0.mk hb2;clear hb2 cz;cases ft
  ·go_wp2_with fail
   go_meet
   case rel=>exact ⟨rfl,HB2⟩
  ·cases q1
   ·go_wp2_with fail
    go_meet
    case rel=>exact ⟨rfl,HB2⟩
   ·go_wp2_with fail
    go_meet
    case rel=>exact ⟨rfl,HB2⟩
 case rest =>
  obtain ⟨rfl,HB2⟩:=hcut
  obtain ⟨w2,rfl⟩:∃ x,x=wc:=⟨_,rfl⟩
  clear cz hq1 hq2 hq1' hq2' r0 r1 r2 r3;have HBA:=Aside0.mk (HB1.out.trans (HB2.out.mono HB1.out.size))
  obtain ⟨g,hg⟩:∃ g,(!ft || (q1 || q2))=g:=⟨_,rfl⟩
  rw[hg];have HG:=Aside0.mk hg;clear hg;cases g;rotate_left
  ·go_wp2_with fail
   go_ret;exact ⟨rfl,HBA.out⟩
  ·have hf:ft=true∧q1=false∧q2=false:=by have h9:=HG.out;revert h9;cases ft <;> cases q1 <;> cases q2 <;> simp
   obtain ⟨rfl,rfl,rfl⟩:=hf;have hcs:comp.size≤MM:=by have:=of_decide_eq_false HQ1.out;unfold MM;omega
   have hss:s.size≤MM:=by have:=of_decide_eq_false HQ2.out;unfold MM;omega
   have hRs:=HRS.out.below HB2.out hs1;have r0:=hRs.at 0 _ rfl;have r1:=hRs.at 1 _ rfl;have r2:=hRs.at 2 _ rfl;have r3:=hRs.at 3 _ rfl;obtain ⟨ok,HOK,ck⟩:=known_calls (HSA.out.below HBA.out) HFT.out comp s hcs hss;replace HOK:=Aside0.mk HOK;have HRS2:=Aside0.mk hRs;clear hRs hcs hss;go_wp2_with fail
   refine ck.mono ?_;rintro e w4 ⟨t,l1,l2,l3,v1,v2,v3,rfl,hs,ht,hb4⟩;have HSL:=Aside0.mk hs;have HT:=Aside0.mk ht;have HB4:=Aside0.mk hb4;obtain ⟨A1,c1,e1,_⟩:=HSL.out.1;obtain ⟨A2,c2,e2,_⟩:=HSL.out.2.1;obtain ⟨A3,c3,e3,_⟩:=HSL.out.2.2;clear ck hs ht hb4 r0 r1 r2 r3
   obtain ⟨C,hC⟩:∃ C:Array Value,toldC t v1 v2 v3=C:=⟨_,rfl⟩
   have hval:toldVal t v1 v2 v3 = .agg C:=by rw[← hC];rfl
   have HCS:=Aside0.mk (show C.size=31 by rw[← hC];rfl);have HON:=Aside0.mk (show C.all (·.oneCell')=true by rw[← hC,e1,e2,e3];exact toldC_one _ _ _ _ _ _ _ _ _ _);rw[hval];have HC:=Aside0.mk hC;clear hval e1 e2 e3 hC;have hRZ:=Row.new w4 toldZero 28;have HCE:=Aside0.mk (told_cells hRZ rfl HCS.out);have HBW:=Aside0.mk (told_world w4 C)
   go_upto_region 4 with (first | (refine told_store rfl _ _ rfl w4.heap.size C rfl rfl hRZ rfl HCS.out HON.out ?_) | fail)
   change Code.wp _ _ _ _ ((w4.alloc (.cells toldZero.toArray 28)).setCells w4.heap.size 0 C.toList)
   obtain ⟨W,hW⟩:∃ W,(w4.alloc (.cells toldZero.toArray 28)).setCells w4.heap.size 0 C.toList=W:=⟨_,rfl⟩
   rw[hW] at HCE HBW ⊢
   obtain ⟨bk,hbk⟩:∃ b,w4.heap.size=b:=⟨_,rfl⟩
   have HBK:=Aside0.mk hbk;rw[hbk] at HCE ⊢;clear hW hbk hRZ;have HBX:=Aside0.mk (below_step (below_step HBA.out HB4.out) HBW.out);have HRS3:=Aside0.mk ((HRS2.out.below HB4.out (Nat.lt_of_lt_of_le hs1 HB2.out.size)).below HBW.out (Nat.lt_of_lt_of_le (Nat.lt_of_lt_of_le hs1 HB2.out.size) HB4.out.size));cases ok
   ·go_wp2_with fail
    go_ret;exact ⟨rfl,HBX.out⟩
   ·obtain ⟨ht1,rfl,rfl,rfl⟩:=HT.out (by first | rfl | trivial);obtain ⟨OS,HASC,HASCC,hs400,hc2000,hPK⟩:=HOK.out (by first | rfl | trivial);have HPK:=Aside0.mk hPK;clear hPK
    obtain ⟨p,hp⟩:∃ p,mPath (envOf st) comp (norm s)=p:=⟨_,rfl⟩
    rw[hp] at ht1 HSL;subst ht1;have HP:=Aside0.mk hp;have hpo:=mPath_ok (envOf st) comp (norm s) (by rw[norm_size];omega);rw[hp] at hpo;have HPO:=Aside0.mk hpo;have HPN:=Aside0.mk (mPath_ne (envOf st) comp (norm s));rw[hp] at HPN;have k9:=HCE.out 9 (.string (nrm p.trim p.s)) (by rw[← HC.out];rfl);have hne:=HPN.out;clear hp hpo HT HOK;go_upto_if 36 with fail
    clear k9 hne;have HRC:=Aside0.mk (show W.rangeAt bk 0 C.toList from fun j v hv=>by rw[Nat.zero_add];exact HCE.out j v hv);have hcomp:p.comp=comp:=by rw[← HP.out];exact (mPath_s _ _ _).2.2
    have k0:W.cell? ⟨bk,0,none⟩=some (.string comp):=HCE.out 0 (.string comp) (by rw[← HC.out];show some (Value.string p.comp)=_;rw[hcomp]);have K0:=Aside0.mk k0
    obtain ⟨b1,hb1⟩:∃ b,(comp.toList==[99,111,110,116,101,110,116])=b:=⟨_,rfl⟩
    obtain ⟨b2,hb2⟩:∃ b,(comp.toList==[108,97,121,111,117,116,115])=b:=⟨_,rfl⟩
    obtain ⟨b3,hb3⟩:∃ b,(comp.toList==[97,114,99,104,101,116,121,112,101,115])=b:=⟨_,rfl⟩
    clear k0
    cases b1 with
    | true =>
     go_wp2_with fail
     go_ret;exact ⟨rfl,HBX.out⟩
    | false =>
     cases b2 with
     | true =>
      go_wp2_with fail
      go_ret;exact ⟨rfl,HBX.out⟩
     | false =>
      cases b3 with
      | true =>
       go_wp2_with fail
       go_ret;exact ⟨rfl,HBX.out⟩
      | false =>
       have hm:mPath (envOf st) (⟨#[115,116,97,116,105,99]⟩:ByteArray) (norm s)=p.as (⟨#[115,116,97,116,105,99]⟩:ByteArray):=by
        rw[← HP.out];exact mPath_as (static_out.1.trans (show isLay comp=false from hb2).symm) (static_out.2.1.trans (show isCon comp=false from hb1).symm) (static_out.2.2.trans (show isArch comp=false from hb3).symm) (norm s)
       have hta:mTold (p.as (⟨#[115,116,97,116,105,99]⟩:ByteArray)) = { mTold p with component:=(⟨#[115,116,97,116,105,99]⟩:ByteArray) }:=told_as p (⟨#[115,116,97,116,105,99]⟩:ByteArray) ((show isLay p.comp=false from by rw[hcomp];exact hb2).trans static_out.1.symm);have HM:=Aside0.mk hm;have HTA:=Aside0.mk hta;have HCO:=Aside0.mk hcomp;clear hm hta hcomp;obtain ⟨kn,hkn,ck⟩:=pathKnown_at (HSA.out.below HBX.out) HPK.out (⟨#[115,116,97,116,105,99]⟩:ByteArray) s (by decide) (by omega);have ck:=ck W (Below.refl _ _);have r0:=HRS3.out.at 0 _ rfl;have r1:=HRS3.out.at 1 _ rfl;have r2:=HRS3.out.at 2 _ rfl;have r3:=HRS3.out.at 3 _ rfl
       go_wp2_with (first | (refine load_mid_w (by rfl) 25 _ rfl w.heap.size 0 rfl [.slice Al st.langs.length cl,.slice Ad st.dis.length cd,.slice Af st.fmts.length cf,.slice Ac st.cont.length cc] _ HRS3.out.range Tryz.underlying25 rfl (by kernel_rfl) ?_) | fail)
       refine ck.mono ?_;rintro e w6 ⟨rfl,hb6⟩;have HB6:=Aside0.mk (below_step HBX.out hb6);have HRS6:=Aside0.mk (HRS3.out.below hb6 (HRS3.out.lt (by simp)));have HV6:=Aside0.mk hb6;have HRC6:=Aside0.mk (rstep HRC.out hb6);clear hb6 ck r0 r1 r2 r3 hb1 hb2 hb3;cases kn
       ·go_wp2_with fail
        go_ret
        first
        | exact ⟨rfl,HB6.out⟩
        | exact ⟨congrArg (fun b=>Ending.returned (Value.bool b)) (by assumption),HB6.out⟩
       ·obtain ⟨hasc,_,_,_⟩:=hkn (by first | rfl | trivial);have r0:=HRS6.out.at 0 _ rfl;have r1:=HRS6.out.at 1 _ rfl;have r2:=HRS6.out.at 2 _ rfl;have r3:=HRS6.out.at 3 _ rfl;have cP:=implParse_calls (HSA.out.below HB6.out).toSiteIn OS (⟨#[115,116,97,116,105,99]⟩:ByteArray) s (by omega) hasc;rw[HM.out] at cP;go_wp2_with fail
        refine cP.mono ?_;rintro e w7 ⟨u1,u2,u3,rfl,hT,hb7⟩;have HT:=Aside0.mk hT;have HB7:=Aside0.mk (below_step HB6.out hb7);have HV7:=Aside0.mk (below_step HV6.out hb7);have HRC7:=Aside0.mk (rstep HRC6.out hb7);clear cP hT hb7 r0 r1 r2 r3;obtain ⟨D1,d1,e1,_⟩:=HT.out.1;obtain ⟨D2,d2,e2,_⟩:=HT.out.2.1;obtain ⟨D3,d3,e3,_⟩:=HT.out.2.2
        obtain ⟨Cb,hCb⟩:∃ C:Array Value,toldC (mTold (p.as (⟨#[115,116,97,116,105,99]⟩:ByteArray))) u1 u2 u3=C:=⟨_,rfl⟩
        have hval:toldVal (mTold (p.as (⟨#[115,116,97,116,105,99]⟩:ByteArray))) u1 u2 u3 = .agg Cb:=by rw[← hCb];rfl
        have HCS2:=Aside0.mk (show Cb.size=31 by rw[← hCb];rfl);have HON2:=Aside0.mk (show Cb.all (·.oneCell')=true by rw[← hCb,e1,e2,e3];exact toldC_one _ _ _ _ _ _ _ _ _ _);rw[hval];have HC2:=Aside0.mk hCb;clear hval e1 e2 e3 hCb;have hRZ:=Row.new w7 toldZero 28;have HCE2:=Aside0.mk (told_cells hRZ rfl HCS2.out);have HBW2:=Aside0.mk (told_world w7 Cb);have HFZ:=Aside0.mk (show ((w7.alloc (.cells toldZero.toArray 28)).setCells w7.heap.size 0 Cb.toList).frozen? ⟨w7.heap.size,0,none⟩=false by rw[World.frozen?_setCells];exact hRZ.free 0 (by decide))
        go_upto_region 9 with (first | (refine told_store rfl _ _ rfl w7.heap.size Cb rfl rfl hRZ rfl HCS2.out HON2.out ?_) | fail)
        change Code.wp _ _ _ _ ((w7.alloc (.cells toldZero.toArray 28)).setCells w7.heap.size 0 Cb.toList)
        obtain ⟨X,hX⟩:∃ X,(w7.alloc (.cells toldZero.toArray 28)).setCells w7.heap.size 0 Cb.toList=X:=⟨_,rfl⟩
        rw[hX] at HCE2 HBW2 HFZ ⊢
        obtain ⟨bx,hbx⟩:∃ b,w7.heap.size=b:=⟨_,rfl⟩
        have HBK2:=Aside0.mk hbx;rw[hbx] at HCE2 HFZ ⊢;clear hX hbx hRZ;have q0:X.cell? ⟨bx,0,none⟩=some (.string (⟨#[115,116,97,116,105,99]⟩:ByteArray)):=HCE2.out 0 (.string (⟨#[115,116,97,116,105,99]⟩:ByteArray)) (by rw[← HC2.out];rfl);have q0f:=HFZ.out;have HQ0:=Aside0.mk q0;go_upto_region 10 with fail
        obtain ⟨Y,hY⟩:∃ Y,X.setCell ⟨bx,0,none⟩ (.string comp)=Y:=⟨_,rfl⟩
        have hXY:Below w7.heap.size w7 Y:=by rw[← hY];exact HBW2.out.setCell (Nat.le_of_eq HBK2.out) _
        obtain ⟨Cc,hCc⟩:∃ C:Array Value,toldC (mTold p) u1 u2 u3=C:=⟨_,rfl⟩
        have hRY:Y.rangeAt bx 0 Cc.toList:=by
         intro j v hv;rw[Nat.zero_add,← hY]
         by_cases hj:j=0
         ·subst hj
          have:v = .string comp:=by
           rw[← hCc] at hv;have h2:some (Value.string p.comp)=some v:=hv;rw[HCO.out] at h2;injection h2 with h2
           exact h2.symm
          rw[this];exact World.cell?_setCell_same _ _ _ HQ0.out
         ·rw[World.cell?_setCell_other _ _ _ _ (by intro h;simp only[Addr.mk.injEq] at h;omega)];refine HCE2.out j v ?_;rw[← HC2.out,HTA.out,toldC_tail _ _ _ _ _ _ hj,hCc];exact hv
        rw[hY];have HBY:=Aside0.mk (below_step HB7.out hXY);have HVY:=Aside0.mk (below_step HV7.out hXY);have HRCY:=Aside0.mk (rstep HRC7.out hXY);have HRY:=Aside0.mk hRY
        have T2:Path.Told Y 0 p u1 u2 u3:=⟨(HT.out.1.below hXY).mono (Nat.zero_le _),(HT.out.2.1.below hXY).mono (Nat.zero_le _),(HT.out.2.2.below hXY).mono (Nat.zero_le _)⟩
        have hv:=HBW.out.trans (HVY.out.mono HBW.out.size)
        have U1:Path.Told Y 0 p v1 v2 v3:=⟨(HSL.out.1.below hv).mono (Nat.zero_le _),(HSL.out.2.1.below hv).mono (Nat.zero_le _),(HSL.out.2.2.below hv).mono (Nat.zero_le _)⟩
        have ca:=alike_told HPO.out.1.toPathIn HPN.out U1 T2;have hv1:toldVal (mTold p) u1 u2 u3 = .agg Cc.toList.toArray:=by rw[Array.toArray_toList,← hCc];rfl
        have hv2:toldVal (mTold p) v1 v2 v3 = .agg C.toList.toArray:=by rw[Array.toArray_toList,← HC.out];rfl
        rw[hv1,hv2] at ca;have iC:(Tryz.prog.info? 28).map (·.size)=some C.toList.length:=by rw[Array.length_toList,HCS.out];kernel_rfl
        have iD:(Tryz.prog.info? 28).map (·.size)=some Cc.toList.length:=by rw[Array.length_toList,← hCc];kernel_rfl
        have k0:=cstep K0.out HVY.out;have hcc:(comp.toList==comp.toList)=true:=by simp
        clear q0 q0f hY hXY hCc hRY T2 hv U1 hv1 hv2
        go_wp2_with (first | (refine load_mid_w (by rfl) 28 _ rfl bk 0 rfl C.toList _ HRCY.out Tryz.underlying28 rfl iC ?_) | (refine load_mid_w (by rfl) 28 _ rfl bx 0 rfl Cc.toList _ HRY.out Tryz.underlying28 rfl iD ?_) | fail)
        refine ca.mono ?_;rintro e w9 ⟨rfl,hb9⟩;have HB9:=Aside0.mk (below_step HBY.out hb9);clear hb9 ca k0;go_wp2_with fail
        go_ret
        first
        | exact ⟨rfl,HB9.out⟩
        | exact ⟨congrArg (fun b=>Ending.returned (Value.bool b)) (by assumption),HB9.out⟩
end
set_option maxRecDepth 100000 in
theorem lifted (os:Os) (started:os.Started) (H:Type) (enc:TypeId×Value→H) :
 ReturnsInHanded {} Tryz.checked os 11 .any (fun w args=>(Rows.fnOthersSpec.pre enc Tryz.prog Tryz.f11 Rows.fnOthersRow.domain false w args∧laidMetH Tryz.prog Rows.fnOthersRow.laid w)∧sizedMet enc Tryz.prog Tryz.f11 (OpenSpec.ofChange Rows.fnOthersSpec) false w args)
  (Rows.fnOthersSpec.post enc Tryz.prog Tryz.f11 false true false false):=by
 refine returnsInHanded_of_change_and (C:=Tryz.checked) (X:=fun w _=>laidMetH Tryz.prog Rows.fnOthersRow.laid w) (fun _ _ _ hh h=>h.of_heap hh) RowKit.own started (by kernel_rfl) Tryz.func11
  (ChangeSpec.witness_shaped (enc:=enc) (C:=Tryz.checked) (os:=os) (X:=fun w _=>laidMetH Tryz.prog Rows.fnOthersRow.laid w) false (World.laidAll Tryz.prog os Rows.fnOthersRow.laid) #[.agg #[.slice none 0 0,.slice none 0 0,.slice none 0 0,.slice none 0 0],.string ByteArray.empty,.string ByteArray.empty] 8 (World.laidAll_os _ _ _)
   (World.shaped_of_ZipB (by kernel_rfl) (by kernel_rfl)) (by kernel_rfl) (by kernel_rfl) (by kernel_rfl)
   (by rw[MakeChecks.laidMetH_plain _ _ _ (by kernel_rfl)];exact laidMet_laidAll _ (by kernel_rfl) (by kernel_rfl))) ?_
 intro W base args ds gs before hval0 hW _ _ _ _;have hval:∀ (j:Nat) t v,Tryz.f11.params[j]? = some t→args[j]? = some v→Value.okWide Tryz.prog W .any base t v:=hval0;have hW':=hW;obtain ⟨p,q,hA0,hV,rfl,_,_⟩:=hW;have hA:DataW.TrodAll enc Tryz.prog W 0 (fun _=>true) true Tryz.f11.params.toList args.toList ds p:=hA0;rw[Tryz.params11] at hA hval;obtain ⟨v0,vs0,d0,ds0,p0,q0,hargs,rfl,rfl,h0,r0⟩:=trodAll_cons hA;obtain ⟨v1,vs1,d1,ds1,p1,q1,rfl,rfl,rfl,h1,r1⟩:=trodAll_cons r0;obtain ⟨v2,vs2,d2,ds2,p2,q2,rfl,rfl,rfl,h2,r2⟩:=trodAll_cons r1;obtain ⟨rfl,rfl,rfl⟩:=trodAll_nil r2;obtain rfl:args = #[v0,v1,v2]:=by cases args;simp_all
 obtain ⟨rfl,rfl⟩:=trodVars_none hV;have k0:=h0;have lt0:∀ x∈p0,x.block < W.heap.size:=by obtain ⟨m,hm⟩:=k0;exact DataW.trod_lt m _ _ _ hm
 obtain ⟨st0,vl0,vd0,vf0,vc0,rfl,S0⟩:=SiteRow.open_site (hval 0 25 v0 rfl rfl) h0;obtain ⟨a1,rfl,rfl,rfl,y1⟩:=Go.ChangeMaps.open_string Tryz.underlying9 (hval 1 9 v1 rfl rfl) h1;obtain ⟨a2,rfl,rfl,rfl,y2⟩:=Go.ChangeMaps.open_string Tryz.underlying9 (hval 2 9 v2 rfl rfl) h2;clear hA0 hval0;refine (walk (w:=W) S0 a1 a2).mono fun e W' ⟨he,bel⟩=>?_;subst he;exact ⟨_,rfl,_,_,_,[],_,[],hW',trodAll_mk1 (shut_bool Tryz.underlying4 _),(trodAll_cons_mk (Below.trod SiteRow.laidOut (by kernel_rfl) (of_decide_eq_true (by kernel_rfl)) k0 bel lt0) (trodAll_cons_mk (Go.ChangeMaps.shut_string Tryz.underlying9 y1) (trodAll_cons_mk (Go.ChangeMaps.shut_string Tryz.underlying9 y2) trodAll_mk0))),rfl,bel.frame _,fun h=>by cases h⟩
theorem said:Rows.FnOthersSaid :=
 OpenClaim.holds_of_wide 11 Tryz.f11 rfl rfl rfl rfl rfl rfl rfl ⟨rfl,rfl,rfl,rfl,rfl⟩ rfl rfl rfl rfl rfl (by kernel_rfl) Tryz.func11 (by kernel_rfl)
  (of_decide_eq_true (by kernel_rfl)) (by unfold Func.isWrapper;first | (rw[if_pos (by decide +kernel)];kernel_rfl) | (rw[if_neg (by decide +kernel)];exact ⟨rfl,rfl⟩))
  (fun os started H enc _=>lifted os started H enc)
theorem plain (f:FuncId) (fn:Func) (hf:Tryz.pinned.checked.prog.funcNamed "pub-trackway/laws.FnOthers" = some f) (hfn:Tryz.pinned.checked.prog.funcs[f]? = some fn) :
 false=Tryz.pinned.checked.prog.looks []∧∀ (j:Nat) t,fn.params[j]? = some t→Tryz.pinned.checked.prog.wantsStandIn t=false:=by
 obtain rfl:f=11:=Option.some.inj ((show Tryz.prog.funcNamed "pub-trackway/laws.FnOthers" = some 11 by kernel_rfl).symm.trans hf) |>.symm
 obtain rfl:fn=Tryz.f11:=(Option.some.inj (Tryz.func11.symm.trans hfn)).symm;refine ⟨by kernel_rfl,fun j t ht=>?_⟩;rw[Tryz.params11] at ht;have hm:t∈[25,9,9]:=by simpa using Array.mem_of_getElem? ht
 have hall:([25,9,9].all fun u=>!Tryz.prog.wantsStandIn u)=true:=by kernel_rfl
 exact (show Tryz.prog.wantsStandIn t=false by simpa using List.all_eq_true.1 hall t hm)
theorem card:Rows.FnOthersCardSaid :=
 Claim7.holds_tied_plain_at .later [] _ _ _ _ said (fun _ h=>by cases h) (by kernel_rfl) (fun _ h=>by cases h) fnOthers_row_tie rfl ⟨rfl,rfl⟩ (by kernel_rfl) rfl plain (by kernel_rfl)
end Go.Proofs.YtjlaamcklhdhaaaGreatDoor.fnOthers
namespace Go.Proofs.YtjlaamcklhdhaaaGreatDoor
theorem fnOthers_card:Rows.FnOthersCardSaid:=fnOthers.card
#print axioms fnOthers_card
end Go.Proofs.YtjlaamcklhdhaaaGreatDoor
