/- A bundle that is built of folders, index or _index, perhaps a language and an extension of content is a leaf or a branch, is called by its folder, and its base is its folder. Condition: none but the statement's own. -/
import Derived.Deep.QuietTactic
import Derived.Deep.DeepCutAuto
import Derived.Deep.CutBlock
import Derived.BigQuiet
import Derived.Test.YtcdgldnphhidlaaGreatDoorVa
import Derived.Test.YtcdgldnphhidlaaGreatDoorV21
set_option linter.unusedVariables false
set_option linter.unusedSimpArgs false
set_option maxRecDepth 100000
set_option maxHeartbeats 16000000
namespace Go.Proofs.YtcdgldnphhidlaaGreatDoor.fnBuiltBundle
open Go.ChangeShapes Go.WideShapes Go.ChangeAt Go.RowKit Go.WideMaps Go.ZW.PrintWords Go.Proofs.YtcdgldnphhidlaaGreatDoor.Base Go.Proofs.YtcdgldnphhidlaaGreatDoor.Lower Go.Proofs.YtcdgldnphhidlaaGreatDoor.Total Go.Proofs.YtcdgldnphhidlaaGreatDoor.Path Go.Proofs.YtcdgldnphhidlaaGreatDoor.PCore
open Go.ZW.PrintLast
section
variable {w:World} {st:fD} {vl vd vf vc:Value}
theorem walk (S:lW w st vl vd vf vc) {vx:Value} {dirs:List ByteArray} (D:eT w 0 vx dirs) (zd:dirs.length≤9223372036854775807) (branch:Bool) (lang:Int) (ext:Int):Calls Tryz.prog 5 #[.agg #[vl,vd,vf,vc],vx,.bool branch,.int .i64 lang,.int .i64 ext] w fun e w'=>e = .returned (.bool true)∧Below w.heap.size w w':=by
 have HSA:=cH S;obtain ⟨Al,cl,rfl,_,_⟩:=S.l;obtain ⟨Ad,cd,rfl,_,_⟩:=S.d;obtain ⟨Af,cf,rfl,_,_⟩:=S.f;obtain ⟨Ac,cc,rfl,_,_⟩:=S.c;obtain ⟨Ax,cx,ex,hcx,hdx⟩:=id D;subst ex;have HDD:=cH D;have HZD:=cH zd;clear S D hcx hdx zd;have hB1:Below w.heap.size w (w.alloc (.cells #[.slice Al st.langs.length cl,.slice Ad st.dis.length cd,.slice Af st.fmts.length cf,.slice Ac st.cont.length cc] 25)):=(Below.refl _ _).alloc (Nat.le_refl _) _;have hR1:=Row.new w [.slice Al st.langs.length cl,.slice Ad st.dis.length cd,.slice Af st.fmts.length cf,.slice Ac st.cont.length cc] 25;go_enter Tryz.func5,Tryz.ntmps5;go_upto_region 1 with fail
 obtain ⟨w1,hw1⟩:∃ w1,w.alloc (.cells #[.slice Al st.langs.length cl,.slice Ad st.dis.length cd,.slice Af st.fmts.length cf,.slice Ac st.cont.length cc] 25)=w1:=⟨_,rfl⟩
 rw[hw1] at hB1 hR1 ⊢;clear hw1;have HB1:=cH hB1;have HRS1:=cH hR1;have cz:=nX (HSA.out.below hB1)
 obtain ⟨ft,hft⟩:∃ f,pY st=f:=⟨_,rfl⟩
 rw[hft] at cz;have HFT:=cH hft;clear hB1 hR1 hft;have r0:=HRS1.out.at 0 _ rfl;have r1:=HRS1.out.at 1 _ rfl;have r2:=HRS1.out.at 2 _ rfl;have r3:=HRS1.out.at 3 _ rfl;go_wp2_with fail
 refine (cz).mono ?_;rintro e w2 ⟨rfl,hb⟩;have HB2:=cH (eB HB1.out hb);have HRS2:=cH (HRS1.out.below hb (HRS1.out.lt bJ));clear hb cz r0 r1 r2 r3;cases ft
 ·go_wp2_with fail
  go_ret;exact ⟨rfl,HB2.out⟩
 have hgo:=trivial
 obtain ⟨fd,hfd⟩:∃ f,fits2 dirs=f:=⟨_,rfl⟩
 have cd':=oE (HDD.out.below HB2.out) HZD.out;rw[hfd] at cd';have HFD:=cH hfd;clear hfd;go_wp2_with fail
 refine (cd').mono ?_;rintro e w3 ⟨rfl,hb⟩;have HB3:=cH (eB HB2.out hb);have HRS3:=cH (HRS2.out.below hb (HRS2.out.lt bJ));clear hb cd';cases fd
 ·go_wp2_with fail
  go_ret;exact ⟨rfl,HB3.out⟩
 have hgo:=trivial;obtain ⟨lw,hlw,clw⟩:=vZ (st:=st) ⟨(HSA.out.below HB3.out).l,(HSA.out.below HB3.out).d,(HSA.out.below HB3.out).f,(HSA.out.below HB3.out).c⟩ (jQ HFT.out) lang;have Hlw:=cH hlw;have Clw:=cH clw;clear hlw clw;obtain ⟨ew,hew,cew⟩:=rB (st:=st) ⟨(HSA.out.below HB3.out).l,(HSA.out.below HB3.out).d,(HSA.out.below HB3.out).f,(HSA.out.below HB3.out).c⟩ (jQ HFT.out) ext;have Hew:=cH hew;have Cew:=cH cew;clear hew cew;have r0:=HRS3.out.at 0 _ rfl;have r1:=HRS3.out.at 1 _ rfl;have r2:=HRS3.out.at 2 _ rfl;have r3:=HRS3.out.at 3 _ rfl;go_upto_region 3 with fail
 refine iH (n:=8) (S:=fun w'=>w'.cell? ⟨w.heap.size,0,none⟩=some (.slice Al st.langs.length cl)∧w'.cell? ⟨w.heap.size,1,none⟩=some (.slice Ad st.dis.length cd)∧w'.cell? ⟨w.heap.size,2,none⟩=some (.slice Af st.fmts.length cf)∧w'.cell? ⟨w.heap.size,3,none⟩=some (.slice Ac st.cont.length cc)) (ds:=[]) _ bB rfl rfl ⟨r0,r1,r2,r3⟩ (fun hHeld=>?_);refine sA1 1 (some 29) sB1 ?_
 refine sA1 4 (some 32) sB1 ?_
 refine sC1 0 (some 28) sO1 ?_
 refine sC1 3 (some 31) sO1 ?_
 refine sF1 2 (some 30) sG1 (fun K hK=>?_);refine iK Tryz.func24 bB rfl #[.agg #[.slice Al st.langs.length cl,.slice Ad st.dis.length cd,.slice Af st.fmts.length cf,.slice Ac st.cont.length cc],.int .i64 lang] bK rfl rfl bG ?_
 with_reducible refine ((Clw.out _ ((Below.refl w3.heap.size w3).drew))).mono ?_
 rintro e w4 ⟨rfl,hb4⟩;refine ⟨_,rfl,?_⟩;have r0_4:=eF (w:=w3.drew) r0 hb4;have r1_4:=eF (w:=w3.drew) r1 hb4;have r2_4:=eF (w:=w3.drew) r2 hb4;have r3_4:=eF (w:=w3.drew) r3 hb4;have HB4:=cH (eB HB3.out (eB (Below.refl w3.heap.size w3).drew hb4));have HRS4:=cH (HRS3.out.below (eB (Below.refl w3.heap.size w3).drew hb4) (HRS3.out.lt bJ));have HL4:=cH (eB (Below.refl w3.heap.size w3).drew hb4);refine hK.out _ _ ⟨r0_4,r1_4,r2_4,r3_4⟩ (fun hHeld=>?_);clear hK K;refine eU sJ1 ?_
 refine sF1 5 (some 33) sG1 (fun K hK=>?_);refine iK Tryz.func25 bB rfl #[.agg #[.slice Al st.langs.length cl,.slice Ad st.dis.length cd,.slice Af st.fmts.length cf,.slice Ac st.cont.length cc],.int .i64 ext] bK rfl rfl bG ?_
 with_reducible refine ((Cew.out _ (HL4.out))).mono ?_
 rintro e w5 ⟨rfl,hb5⟩;refine ⟨_,rfl,?_⟩;have r0_5:=eF (w:=w4) r0_4 hb5;have r1_5:=eF (w:=w4) r1_4 hb5;have r2_5:=eF (w:=w4) r2_4 hb5;have r3_5:=eF (w:=w4) r3_4 hb5;have HB5:=cH (eB HB3.out (eB HL4.out hb5));have HRS5:=cH (HRS3.out.below (eB HL4.out hb5) (HRS3.out.lt bJ));have HL5:=cH (eB HL4.out hb5);refine hK.out _ _ ⟨r0_5,r1_5,r2_5,r3_5⟩ (fun hHeld=>?_);clear hK K;refine eU sJ1 ?_
 refine sA1 6 (some 11) sB1 ?_
 refine sA1 7 (some 12) sB1 ?_
 refine iY bB ?_;clear hHeld r0 r1 r2 r3 r0_4 r1_4 r2_4 r3_4 r0_5 r1_5 r2_5 r3_5 hb4 hb5;obtain ⟨pd,hpd,cpd⟩:=oM (HDD.out.below HB5.out) HFD.out (oK HFD.out).2;have HPD:=cH hpd;clear hpd;go_wp2_with fail
 refine (cpd).mono ?_;rintro e w6 ⟨rfl,hb⟩;have HB6:=cH (eB HB5.out hb);have HRS6:=cH (HRS5.out.below hb (HRS5.out.lt bJ));clear hb cpd;cases pd
 ·go_wp2_with fail
  go_ret;exact ⟨rfl,HB6.out⟩
 have hgo:=trivial
 obtain ⟨bq,hxew⟩:∃ b,(ew.toList==[])=b:=⟨_,rfl⟩
 cases bq;rotate_left
 ·go_wp2_with fail
  go_ret;exact ⟨rfl,HB6.out⟩
 have hgo:=trivial;obtain ⟨h1,h2⟩:=Hew.out.resolve_left (fun e=>by rw[e] at hxew;exact Bool.noConfusion (hxew.symm.trans (show ((⟨#[]⟩:ByteArray).toList==[])=true by rw[L_toList];rfl)));have Pew:=cH h1;have Iew:=cH h2;have zew:ew.size≤4000000000:=(jQ HFT.out).cz _ (qW h2);clear h1 h2 hgo;have r0:=HRS6.out.at 0 _ rfl;have r1:=HRS6.out.at 1 _ rfl;have r2:=HRS6.out.at 2 _ rfl;have r3:=HRS6.out.at 3 _ rfl;have S9:=HSA.out.below HB6.out;have cm9:=xC (st:=st) ⟨S9.l,S9.d,S9.f,S9.c⟩ (jQ HFT.out) ⟨#[105,110,100,101,120]⟩
 obtain ⟨bm,hbm⟩:∃ b,qB st ⟨#[105,110,100,101,120]⟩=b:=⟨_,rfl⟩
 rw[hbm] at cm9;clear hbm S9;go_wp2_with fail
 refine (cm9).mono ?_;rintro e w7 ⟨rfl,hb⟩;have HB7:=cH (eB HB6.out hb);have HRS7:=cH (HRS6.out.below hb (HRS6.out.lt bJ));clear hb cm9 r0 r1 r2 r3;cases bm;rotate_left
 ·go_wp2_with fail
  go_ret;exact ⟨rfl,HB7.out⟩
 have hgo:=trivial;have r0:=HRS7.out.at 0 _ rfl;have r1:=HRS7.out.at 1 _ rfl;have r2:=HRS7.out.at 2 _ rfl;have r3:=HRS7.out.at 3 _ rfl;have S9:=HSA.out.below HB7.out;have cm9:=xC (st:=st) ⟨S9.l,S9.d,S9.f,S9.c⟩ (jQ HFT.out) ⟨#[95,105,110,100,101,120]⟩
 obtain ⟨bm,hbm⟩:∃ b,qB st ⟨#[95,105,110,100,101,120]⟩=b:=⟨_,rfl⟩
 rw[hbm] at cm9;clear hbm S9;go_wp2_with fail
 refine (cm9).mono ?_;rintro e w8 ⟨rfl,hb⟩;have HB8:=cH (eB HB7.out hb);have HRS8:=cH (HRS7.out.below hb (HRS7.out.lt bJ));clear hb cm9 r0 r1 r2 r3;cases bm;rotate_left
 ·go_wp2_with fail
  go_ret;exact ⟨rfl,HB8.out⟩
 have hgo:=trivial;obtain ⟨hdp,hfew⟩:=HPD.out bL;have hfl:dirs.length+wt dirs≤2000:=by unfold fewB at hfew;exact of_decide_eq_true hfew
 have HDP:=cH hdp;have HFL:=cH hfl;have zdir:(gU dirs).size≤2000:=by rw[nT];exact hfl
 obtain ⟨dir,hdir⟩:∃ d,gU dirs=d:=⟨_,rfl⟩
 rw[hdir] at zdir;have HDIR:=cH hdir;clear hdir hdp hfew hfl
 have zlw:lw.size≤4000000000:=by
  rcases Hlw.out with h | h
  ·rw[h];exact Nat.zero_le _
  exact (jQ HFT.out).lz _ (qW h.2)
 cases branch
 ·have cf:=mV (HDD.out.below HB8.out) bS;rw[HDIR.out] at cf;go_wp2_with fail
  refine (cf).mono ?_;rintro e w9 ⟨rfl,hb⟩;have HB9:=cH (eB HB8.out hb);have HRS9:=cH (HRS8.out.below hb (HRS8.out.lt bJ));clear hb cf
  obtain ⟨bq,hlx⟩:∃ b,(lw.toList==[])=b:=⟨_,rfl⟩
  have HLX:=cH hlx
  obtain ⟨file,hfile⟩:∃ f,(if bq=true then ((⟨#[105,110,100,101,120]⟩:ByteArray)++⟨#[46]⟩)++ew else ((((⟨#[105,110,100,101,120]⟩:ByteArray)++⟨#[46]⟩)++lw)++⟨#[46]⟩)++ew)=f:=⟨_,rfl⟩
  have HFILE:=cH hfile
  have zfile:file.size≤10000000000:=by
   rw[← hfile];have u1:(⟨#[105,110,100,101,120]⟩:ByteArray).size=5:=rfl;have u2:(⟨#[46]⟩:ByteArray).size=1:=rfl;split <;> simp only[size_append] <;> omega
  clear hfile;go_upto_if 57 with fail
  go_cut [16] (fun s16 wx=>s16 = .string file∧w9=wx)
  case first =>
   cases bq
   ·go_wp2_with fail
    go_meet
    case rel=>exact ⟨by rw[← HFILE.out];rfl,rfl⟩
   go_wp2_with fail
   go_meet
   case rel=>exact ⟨by rw[← HFILE.out];rfl,rfl⟩
  obtain ⟨rfl,rfl⟩:=hcut;clear hlx;have r0:=HRS9.out.at 0 _ rfl;have r1:=HRS9.out.at 1 _ rfl;have r2:=HRS9.out.at 2 _ rfl;have r3:=HRS9.out.at 3 _ rfl
  obtain ⟨s,hs⟩:∃ x:ByteArray,(dir++⟨#[47]⟩)++file=x:=⟨_,rfl⟩
  have HS:=cH hs
  have hsz:s.size≤100000000000:=by
   rw[← hs];simp only[size_append];have z0:(⟨#[47]⟩:ByteArray).size=1:=rfl;omega
  obtain ⟨comp,hcomp⟩:∃ c:ByteArray,(⟨#[99,111,110,116,101,110,116]⟩:ByteArray)=c:=⟨_,rfl⟩
  have HCOMP:=cH hcomp;have zcomp:comp.size≤2147483647:=by rw[← hcomp];decide
  have HB2:=HB9;have HBA:=HB9;have HRS2:=HRS9;obtain ⟨ok,HOK,ck⟩:=pD (HSA.out.below HBA.out) HFT.out comp s bA;replace HOK:=cH HOK;go_wp2_with fail
  refine ck.mono ?_;rintro e wq ⟨t,l1,l2,l3,v1,v2,v3,rfl,hsl,ht,hbq⟩;have HSL:=cH hsl;clear hsl hs hcomp;have HT:=cH ht;have HBQ:=cH hbq;obtain ⟨A1,c1,e1,_⟩:=HSL.out.1;obtain ⟨A2,c2,e2,_⟩:=HSL.out.2.1;obtain ⟨A3,c3,e3,_⟩:=HSL.out.2.2;clear ck ht hbq r0 r1 r2 r3
  obtain ⟨C,hC⟩:∃ C:Array Value,oY t v1 v2 v3=C:=⟨_,rfl⟩
  have hval:iB t v1 v2 v3 = .agg C:=by rw[← hC];rfl
  have HCS:=cH (show C.size=31 by rw[← hC];rfl);have HON:=cH (show C.all (·.oneCell')=true by rw[← hC,e1,e2,e3];exact mF _ _ _ _ _ _ _ _ _ _);rw[hval];have HC:=cH hC;clear hval e1 e2 e3 hC;have hRZ:=Row.new wq fY 35;have HCE:=cH (nM hRZ rfl HCS.out);have HBW:=cH (qD wq C)
  go_upto_region 13 with (first | (refine nN rfl _ _ rfl wq.heap.size C rfl rfl hRZ rfl HCS.out HON.out ?_) | fail)
  change Code.wp _ _ _ _ ((wq.alloc (.cells fY.toArray 35)).setCells wq.heap.size 0 C.toList)
  obtain ⟨W,hW⟩:∃ W,(wq.alloc (.cells fY.toArray 35)).setCells wq.heap.size 0 C.toList=W:=⟨_,rfl⟩
  rw[hW] at HCE HBW ⊢
  obtain ⟨bk,hbk⟩:∃ b,wq.heap.size=b:=⟨_,rfl⟩
  have HBK:=cH hbk;rw[hbk] at HCE ⊢;clear hW hbk hRZ;have HBX:=cH (eB (eB HBA.out HBQ.out) HBW.out);have HRS3:=cH ((HRS2.out.below HBQ.out (HRS2.out.lt bJ)).below HBW.out (Nat.lt_of_lt_of_le (HRS2.out.lt bJ) HBQ.out.size));cases ok
  ·go_wp2_with fail
   go_ret;exact ⟨rfl,HBX.out⟩
  have hgo:=trivial;obtain ⟨ht1,rfl,rfl,rfl⟩:=HT.out bL;obtain ⟨OS,HASC,HASCC,hs400,hc2000,hPK⟩:=HOK.out bL;have HPK:=cH hPK;clear hPK
  obtain ⟨p,hp⟩:∃ p,fL (eI st) comp (norm s)=p:=⟨_,rfl⟩
  rw[hp] at ht1 HSL;subst ht1;have HP:=cH hp;have hpo:=nP (eI st) comp (norm s) (by rw[norm_size];omega);rw[hp] at hpo;have HPO:=cH hpo;have HPN:=cH (oL (eI st) comp (norm s));rw[hp] at HPN;have k9:=HCE.out 9 (.string (nrm p.trim p.s)) (by rw[← HC.out];rfl);have hne:=HPN.out;clear hp hpo HT HOK k9 hne
  obtain ⟨ids,dis,PG⟩:∃ ids dis,pS st s p dirs (⟨#[105,110,100,101,120]⟩:ByteArray) ew lw ids [] dis:=by
   have hc:iQ comp=true:=by rw[← HCOMP.out];unfold iQ;rw[L_toList];rfl
   cases bq
   ·obtain ⟨h1,h2⟩:=Hlw.out.resolve_left (fun e=>by
     have h9:=HLX.out;rw[e] at h9
     exact Bool.noConfusion (h9.symm.trans (show ((⟨#[]⟩:ByteArray).toList==[])=true by rw[L_toList];rfl)))
    exact ⟨_,_,xT HPK.out HP.out HDP.out (by rw[← HS.out,← HDIR.out,← HFILE.out];simp only[iP,jL,if_neg Bool.false_ne_true];simp[L]) yS h1 Pew.out hc Iew.out (by rw[h2];rfl)⟩
   have e:lw=⟨#[]⟩:=by
    have h9:lw.toList=[]:=by simpa using HLX.out
    rw[L_toList] at h9;exact L_inj (h9.trans rfl)
   rw[e];exact ⟨_,_,aCf HPK.out HP.out HDP.out (by rw[← HS.out,← HDIR.out,← HFILE.out];simp only[iP,jL,if_true];simp[L]) yS Pew.out hc Iew.out⟩
  have ty:p.typ=3:=by rw[PG.typ];rfl
  obtain ⟨g1,g2,g3,g4,g5,g6⟩:=aDw PG (by rw[ty];decide);have q1:=PG.lang;have q2:=PG.ext;have q3:=PG.name;have HG1:=cH g1;have HG2:=cH g2;have HG3:=cH g3;have HG4:=cH g4;have HG5:=cH g5;have HG6:=cH g6;have HQ1:=cH q1;have HQ2:=cH q2;have HQ3:=cH q3;have HTY:=cH ty;clear PG ty g1 g2 g3 g4 g5 g6 q1 q2 q3;have cfo:=uL (HDD.out.below HBX.out) bS
  obtain ⟨fh,hfh⟩:∃ x,dirs.head?.getD ⟨#[]⟩=x:=⟨_,rfl⟩
  rw[hfh] at cfo;have HFH:=cH hfh;clear hfh;go_wp2_with fail
  refine cfo.mono ?_;rintro e wf ⟨rfl,hbf⟩;have HBF:=cH (eB HBX.out hbf);have HVF:=cH hbf;clear cfo hbf;rcases (by omega:dirs.length=0∨dirs.length=1∨2≤dirs.length) with hn | hn | hn
  ·have HN:=cH hn;have d0:((dirs.length:Int)==0)=true:=by rw[hn];rfl
   have d1:((dirs.length:Int)==1)=false:=by rw[hn];rfl
   have d0' : (dirs.length==0)=true:=by rw[hn];rfl
   have d1' : (dirs.length==1)=false:=by rw[hn];rfl
   obtain ⟨la,hla⟩:∃ x,dirs.getLast?.getD ⟨#[]⟩=x:=⟨_,rfl⟩
   obtain ⟨rd,hrd⟩:∃ x:ByteArray,(if dir=⟨#[]⟩ then ⟨#[47]⟩ else dir)=x:=⟨_,rfl⟩
   have HLA:=cH hla;have HRD:=cH hrd
   have hrd2:pK p=rd:=by
    rw[HG4.out,← hrd,← HDIR.out]
    by_cases h:dirs=[]
    ·rw[if_pos h,if_pos (by rw[h];rfl)]
    rw[if_neg h,if_neg (fun e=>h (mP.1 (by rw[← jL,e];rfl)))]
   have HRD2:=cH hrd2;have t1:(lw.toList==lw.toList)=true:=by simp
   have t2:(ew.toList==ew.toList)=true:=by simp
   have t3:(dir.toList==dir.toList)=true:=by simp
   have t4:(fh.toList==fh.toList)=true:=by simp
   have t5:(la.toList==la.toList)=true:=by simp
   have t6:(rd.toList==rd.toList)=true:=by simp
   have t7:((⟨#[105,110,100,101,120]⟩:ByteArray).toList==(⟨#[105,110,100,101,120]⟩:ByteArray).toList)=true:=by simp
   have t8:((⟨#[]⟩:ByteArray).toList==(⟨#[]⟩:ByteArray).toList)=true:=by simp
   clear hn hla hrd hrd2;have k30:=HCE.out 30 (.int .i64 3) (by rw[← HC.out,← show p.typ=3 from HTY.out];rfl);have k28:=HCE.out 28 (.bool true) (by rw[← HC.out,← show lX p=true from (by unfold lX;rw[HTY.out];rfl)];rfl);have k27:=HCE.out 27 (.bool false) (by rw[← HC.out,← show kE p=false from (by unfold kE;rw[HTY.out];rfl)];rfl);have k26:=HCE.out 26 (.bool true) bR;have k25:=HCE.out 25 (.bool true) bP;have k19:=HCE.out 19 (.string lw) cA;have k15:=HCE.out 15 (.string ew) bY
   have k3:=HCE.out 3 (.string fh) (by rw[← HC.out,← show kS p=fh from (by rw[HG6.out,if_pos (.inl (List.eq_nil_of_length_eq_zero HN.out)),← HFH.out,List.eq_nil_of_length_eq_zero HN.out];rfl)];rfl);have k13:=HCE.out 13 (.string dir) bV;have k6:=HCE.out 6 (.string la) bU;have k1:=HCE.out 1 (.string la) bT;have k7:=HCE.out 7 (.string (⟨#[105,110,100,101,120]⟩:ByteArray)) (by rw[← HC.out,← show jA p=(⟨#[105,110,100,101,120]⟩:ByteArray) from HQ3.out];rfl);have k8:=HCE.out 8 (.string rd) cB;replace k30:=eH k30 HVF.out
   replace k28:=eH k28 HVF.out;replace k27:=eH k27 HVF.out;replace k26:=eH k26 HVF.out;replace k25:=eH k25 HVF.out;replace k19:=eH k19 HVF.out;replace k15:=eH k15 HVF.out;replace k3:=eH k3 HVF.out;replace k13:=eH k13 HVF.out;replace k6:=eH k6 HVF.out;replace k1:=eH k1 HVF.out;replace k7:=eH k7 HVF.out;replace k8:=eH k8 HVF.out;have xl:=fun (m:Nat)=>tG (w:=wf.drewN m) ((HDD.out.below HBF.out).below (eW.below ⟨m,rfl⟩)) bS;rw[HLA.out] at xl;have xr:=fun (m:Nat)=>qJ dir (wf.drewN m);rw[HRD.out] at xr;go_wp2_with fail
   go_quiet (first | (go_at_call 31;exact Calls.quiet_of (xl _)) | (go_at_call 32;exact Calls.quiet_of (xr _)) )
   go_wp2_with fail
   go_ret
   first
   | exact ⟨rfl,eB HBF.out (eW.below ⟨_,rfl⟩)⟩
   | exact ⟨congrArg (fun b=>Ending.returned (Value.bool b)) (by assumption),eB HBF.out (eW.below ⟨_,rfl⟩)⟩
  ·have HN:=cH hn;have d0:((dirs.length:Int)==0)=false:=by exact beq_eq_false_iff_ne.2 bA
   have d1:((dirs.length:Int)==1)=true:=by rw[hn];rfl
   have d0' : (dirs.length==0)=false:=by exact beq_eq_false_iff_ne.2 bA
   have d1' : (dirs.length==1)=true:=by rw[hn];rfl
   obtain ⟨la,hla⟩:∃ x,dirs.getLast?.getD ⟨#[]⟩=x:=⟨_,rfl⟩
   obtain ⟨rd,hrd⟩:∃ x:ByteArray,(if dir=⟨#[]⟩ then ⟨#[47]⟩ else dir)=x:=⟨_,rfl⟩
   have HLA:=cH hla;have HRD:=cH hrd
   have hrd2:pK p=rd:=by
    rw[HG4.out,← hrd,← HDIR.out]
    by_cases h:dirs=[]
    ·rw[if_pos h,if_pos (by rw[h];rfl)]
    rw[if_neg h,if_neg (fun e=>h (mP.1 (by rw[← jL,e];rfl)))]
   have HRD2:=cH hrd2;have t1:(lw.toList==lw.toList)=true:=by simp
   have t2:(ew.toList==ew.toList)=true:=by simp
   have t3:(dir.toList==dir.toList)=true:=by simp
   have t4:(fh.toList==fh.toList)=true:=by simp
   have t5:(la.toList==la.toList)=true:=by simp
   have t6:(rd.toList==rd.toList)=true:=by simp
   have t7:((⟨#[105,110,100,101,120]⟩:ByteArray).toList==(⟨#[105,110,100,101,120]⟩:ByteArray).toList)=true:=by simp
   have t8:((⟨#[]⟩:ByteArray).toList==(⟨#[]⟩:ByteArray).toList)=true:=by simp
   clear hn hla hrd hrd2;have k30:=HCE.out 30 (.int .i64 3) (by rw[← HC.out,← show p.typ=3 from HTY.out];rfl);have k28:=HCE.out 28 (.bool true) (by rw[← HC.out,← show lX p=true from (by unfold lX;rw[HTY.out];rfl)];rfl);have k27:=HCE.out 27 (.bool false) (by rw[← HC.out,← show kE p=false from (by unfold kE;rw[HTY.out];rfl)];rfl);have k26:=HCE.out 26 (.bool true) bR;have k25:=HCE.out 25 (.bool true) bP;have k19:=HCE.out 19 (.string lw) cA;have k15:=HCE.out 15 (.string ew) bY
   have k3:=HCE.out 3 (.string ⟨#[]⟩) (by rw[← HC.out,← show kS p=⟨#[]⟩ from (by rw[HG6.out,if_pos (.inr ⟨HN.out,HTY.out⟩)])];rfl);have k13:=HCE.out 13 (.string dir) bV;have k6:=HCE.out 6 (.string la) bU;have k1:=HCE.out 1 (.string la) bT;have k7:=HCE.out 7 (.string (⟨#[105,110,100,101,120]⟩:ByteArray)) (by rw[← HC.out,← show jA p=(⟨#[105,110,100,101,120]⟩:ByteArray) from HQ3.out];rfl);have k8:=HCE.out 8 (.string rd) cB
   obtain ⟨fd,hfd⟩:∃ x,gU dirs.dropLast=x:=⟨_,rfl⟩
   have HFD2:=cH hfd;have t9:(fd.toList==fd.toList)=true:=by simp
   clear hfd;have k2:=HCE.out 2 (.string fd) bO;replace k30:=eH k30 HVF.out;replace k28:=eH k28 HVF.out;replace k27:=eH k27 HVF.out;replace k26:=eH k26 HVF.out;replace k25:=eH k25 HVF.out;replace k19:=eH k19 HVF.out;replace k15:=eH k15 HVF.out;replace k3:=eH k3 HVF.out;replace k13:=eH k13 HVF.out;replace k6:=eH k6 HVF.out;replace k1:=eH k1 HVF.out;replace k7:=eH k7 HVF.out;replace k8:=eH k8 HVF.out;replace k2:=eH k2 HVF.out;have xl:=fun (m:Nat)=>tG (w:=wf.drewN m) ((HDD.out.below HBF.out).below (eW.below ⟨m,rfl⟩)) bS;rw[HLA.out] at xl
   have xr:=fun (m:Nat)=>qJ dir (wf.drewN m);rw[HRD.out] at xr;have hfr:=(HDD.out.below HBF.out).front
   have xf:=fun (m:Nat)=>tU (w:=wf.drewN m) (hfr.1.below (eW.below ⟨m,rfl⟩)) (by
    have h9:=HFL.out;have h8:dirs.dropLast.length≤dirs.length:=by rw[List.length_dropLast];omega
    have h7:wt dirs.dropLast≤wt dirs:=by
     obtain ⟨init,x,e⟩:=List.eq_nil_or_concat dirs |>.resolve_left (fun h=>by have h9:=HN.out;rw[h] at h9;exact absurd h9 bH)
     rw[e]
     simp[wt]
    omega)
   rw[HFD2.out] at xf;have e0:0 < dirs.length:=by have:=HN.out;omega
   have e1:IntKind.i64.wrap ((dirs.length:Int) - 1)=(dirs.length:Int) - 1:=by rw[IntWalk.i64_in _ bS]
   have e2:0≤(dirs.length:Int) - 1:=by omega
   have e3:(dirs.length:Int) - 1≤(cx:Int):=by have:=hfr.2;omega
   have e4:((dirs.length:Int) - 1).toNat=dirs.length - 1:=by omega
   have e5:dirs.length - 1≤cx:=by have:=hfr.2;omega
   clear hfr;go_wp2_with fail
   go_quiet (first | (go_at_call 31;exact Calls.quiet_of (xl _)) | (go_at_call 32;exact Calls.quiet_of (xr _)) | (go_at_call 28;exact Calls.quiet_of (xf _)))
   go_wp2_with fail
   go_ret
   first
   | exact ⟨rfl,eB HBF.out (eW.below ⟨_,rfl⟩)⟩
   | exact ⟨congrArg (fun b=>Ending.returned (Value.bool b)) (by assumption),eB HBF.out (eW.below ⟨_,rfl⟩)⟩
  have HN:=cH hn;have d0:((dirs.length:Int)==0)=false:=by exact beq_eq_false_iff_ne.2 bA
  have d1:((dirs.length:Int)==1)=false:=by exact beq_eq_false_iff_ne.2 bA
  have d0' : (dirs.length==0)=false:=by exact beq_eq_false_iff_ne.2 bA
  have d1' : (dirs.length==1)=false:=by exact beq_eq_false_iff_ne.2 bA
  obtain ⟨la,hla⟩:∃ x,dirs.getLast?.getD ⟨#[]⟩=x:=⟨_,rfl⟩
  obtain ⟨rd,hrd⟩:∃ x:ByteArray,(if dir=⟨#[]⟩ then ⟨#[47]⟩ else dir)=x:=⟨_,rfl⟩
  have HLA:=cH hla;have HRD:=cH hrd
  have hrd2:pK p=rd:=by
   rw[HG4.out,← hrd,← HDIR.out]
   by_cases h:dirs=[]
   ·rw[if_pos h,if_pos (by rw[h];rfl)]
   rw[if_neg h,if_neg (fun e=>h (mP.1 (by rw[← jL,e];rfl)))]
  have HRD2:=cH hrd2;have t1:(lw.toList==lw.toList)=true:=by simp
  have t2:(ew.toList==ew.toList)=true:=by simp
  have t3:(dir.toList==dir.toList)=true:=by simp
  have t4:(fh.toList==fh.toList)=true:=by simp
  have t5:(la.toList==la.toList)=true:=by simp
  have t6:(rd.toList==rd.toList)=true:=by simp
  have t7:((⟨#[105,110,100,101,120]⟩:ByteArray).toList==(⟨#[105,110,100,101,120]⟩:ByteArray).toList)=true:=by simp
  have t8:((⟨#[]⟩:ByteArray).toList==(⟨#[]⟩:ByteArray).toList)=true:=by simp
  clear hn hla hrd hrd2;have k30:=HCE.out 30 (.int .i64 3) (by rw[← HC.out,← show p.typ=3 from HTY.out];rfl);have k28:=HCE.out 28 (.bool true) (by rw[← HC.out,← show lX p=true from (by unfold lX;rw[HTY.out];rfl)];rfl);have k27:=HCE.out 27 (.bool false) (by rw[← HC.out,← show kE p=false from (by unfold kE;rw[HTY.out];rfl)];rfl);have k26:=HCE.out 26 (.bool true) bR;have k25:=HCE.out 25 (.bool true) bP;have k19:=HCE.out 19 (.string lw) cA;have k15:=HCE.out 15 (.string ew) bY
  have k3:=HCE.out 3 (.string fh) (by rw[← HC.out,← show kS p=fh from (by rw[HG6.out,if_neg (by have h9:=HN.out;rintro (h | h);(rw[h] at h9;exact absurd h9 bH);(have h8:=h.1;omega)),HFH.out])];rfl);have k13:=HCE.out 13 (.string dir) bV;have k6:=HCE.out 6 (.string la) bU;have k1:=HCE.out 1 (.string la) bT;have k7:=HCE.out 7 (.string (⟨#[105,110,100,101,120]⟩:ByteArray)) (by rw[← HC.out,← show jA p=(⟨#[105,110,100,101,120]⟩:ByteArray) from HQ3.out];rfl);have k8:=HCE.out 8 (.string rd) cB
  obtain ⟨fd,hfd⟩:∃ x,gU dirs.dropLast=x:=⟨_,rfl⟩
  have HFD2:=cH hfd;have t9:(fd.toList==fd.toList)=true:=by simp
  clear hfd;have k2:=HCE.out 2 (.string fd) bO;replace k30:=eH k30 HVF.out;replace k28:=eH k28 HVF.out;replace k27:=eH k27 HVF.out;replace k26:=eH k26 HVF.out;replace k25:=eH k25 HVF.out;replace k19:=eH k19 HVF.out;replace k15:=eH k15 HVF.out;replace k3:=eH k3 HVF.out;replace k13:=eH k13 HVF.out;replace k6:=eH k6 HVF.out;replace k1:=eH k1 HVF.out;replace k7:=eH k7 HVF.out;replace k8:=eH k8 HVF.out;replace k2:=eH k2 HVF.out;have xl:=fun (m:Nat)=>tG (w:=wf.drewN m) ((HDD.out.below HBF.out).below (eW.below ⟨m,rfl⟩)) bS;rw[HLA.out] at xl
  have xr:=fun (m:Nat)=>qJ dir (wf.drewN m);rw[HRD.out] at xr;have hfr:=(HDD.out.below HBF.out).front
  have xf:=fun (m:Nat)=>tU (w:=wf.drewN m) (hfr.1.below (eW.below ⟨m,rfl⟩)) (by
   have h9:=HFL.out;have h8:dirs.dropLast.length≤dirs.length:=by rw[List.length_dropLast];omega
   have h7:wt dirs.dropLast≤wt dirs:=by
    obtain ⟨init,x,e⟩:=List.eq_nil_or_concat dirs |>.resolve_left (fun h=>by have h9:=HN.out;rw[h] at h9;exact absurd h9 bH)
    rw[e]
    simp[wt]
   omega)
  rw[HFD2.out] at xf;have e0:0 < dirs.length:=by have:=HN.out;omega
  have e1:IntKind.i64.wrap ((dirs.length:Int) - 1)=(dirs.length:Int) - 1:=by rw[IntWalk.i64_in _ bS]
  have e2:0≤(dirs.length:Int) - 1:=by omega
  have e3:(dirs.length:Int) - 1≤(cx:Int):=by have:=hfr.2;omega
  have e4:((dirs.length:Int) - 1).toNat=dirs.length - 1:=by omega
  have e5:dirs.length - 1≤cx:=by have:=hfr.2;omega
  clear hfr;go_wp2_with fail
  go_quiet (first | (go_at_call 31;exact Calls.quiet_of (xl _)) | (go_at_call 32;exact Calls.quiet_of (xr _)) | (go_at_call 28;exact Calls.quiet_of (xf _)))
  go_wp2_with fail
  go_ret
  first
  | exact ⟨rfl,eB HBF.out (eW.below ⟨_,rfl⟩)⟩
  | exact ⟨congrArg (fun b=>Ending.returned (Value.bool b)) (by assumption),eB HBF.out (eW.below ⟨_,rfl⟩)⟩
 have cf:=mV (HDD.out.below HB8.out) bS;rw[HDIR.out] at cf;go_wp2_with fail
 refine (cf).mono ?_;rintro e w9 ⟨rfl,hb⟩;have HB9:=cH (eB HB8.out hb);have HRS9:=cH (HRS8.out.below hb (HRS8.out.lt bJ));clear hb cf
 obtain ⟨bq,hlx⟩:∃ b,(lw.toList==[])=b:=⟨_,rfl⟩
 have HLX:=cH hlx
 obtain ⟨file,hfile⟩:∃ f,(if bq=true then ((⟨#[95,105,110,100,101,120]⟩:ByteArray)++⟨#[46]⟩)++ew else ((((⟨#[95,105,110,100,101,120]⟩:ByteArray)++⟨#[46]⟩)++lw)++⟨#[46]⟩)++ew)=f:=⟨_,rfl⟩
 have HFILE:=cH hfile
 have zfile:file.size≤10000000000:=by
  rw[← hfile];have u1:(⟨#[95,105,110,100,101,120]⟩:ByteArray).size=6:=rfl;have u2:(⟨#[46]⟩:ByteArray).size=1:=rfl;split <;> simp only[size_append] <;> omega
 clear hfile;go_upto_if 57 with fail
 go_cut [16] (fun s16 wx=>s16 = .string file∧w9=wx)
 case first =>
  cases bq
  ·go_wp2_with fail
   go_meet
   case rel=>exact ⟨by rw[← HFILE.out];rfl,rfl⟩
  go_wp2_with fail
  go_meet
  case rel=>exact ⟨by rw[← HFILE.out];rfl,rfl⟩
 obtain ⟨rfl,rfl⟩:=hcut;clear hlx;have r0:=HRS9.out.at 0 _ rfl;have r1:=HRS9.out.at 1 _ rfl;have r2:=HRS9.out.at 2 _ rfl;have r3:=HRS9.out.at 3 _ rfl
 obtain ⟨s,hs⟩:∃ x:ByteArray,(dir++⟨#[47]⟩)++file=x:=⟨_,rfl⟩
 have HS:=cH hs
 have hsz:s.size≤100000000000:=by
  rw[← hs];simp only[size_append];have z0:(⟨#[47]⟩:ByteArray).size=1:=rfl;omega
 obtain ⟨comp,hcomp⟩:∃ c:ByteArray,(⟨#[99,111,110,116,101,110,116]⟩:ByteArray)=c:=⟨_,rfl⟩
 have HCOMP:=cH hcomp;have zcomp:comp.size≤2147483647:=by rw[← hcomp];decide
 have HB2:=HB9;have HBA:=HB9;have HRS2:=HRS9;obtain ⟨ok,HOK,ck⟩:=pD (HSA.out.below HBA.out) HFT.out comp s bA;replace HOK:=cH HOK;go_wp2_with fail
 refine ck.mono ?_;rintro e wq ⟨t,l1,l2,l3,v1,v2,v3,rfl,hsl,ht,hbq⟩;have HSL:=cH hsl;clear hsl hs hcomp;have HT:=cH ht;have HBQ:=cH hbq;obtain ⟨A1,c1,e1,_⟩:=HSL.out.1;obtain ⟨A2,c2,e2,_⟩:=HSL.out.2.1;obtain ⟨A3,c3,e3,_⟩:=HSL.out.2.2;clear ck ht hbq r0 r1 r2 r3
 obtain ⟨C,hC⟩:∃ C:Array Value,oY t v1 v2 v3=C:=⟨_,rfl⟩
 have hval:iB t v1 v2 v3 = .agg C:=by rw[← hC];rfl
 have HCS:=cH (show C.size=31 by rw[← hC];rfl);have HON:=cH (show C.all (·.oneCell')=true by rw[← hC,e1,e2,e3];exact mF _ _ _ _ _ _ _ _ _ _);rw[hval];have HC:=cH hC;clear hval e1 e2 e3 hC;have hRZ:=Row.new wq fY 35;have HCE:=cH (nM hRZ rfl HCS.out);have HBW:=cH (qD wq C)
 go_upto_region 13 with (first | (refine nN rfl _ _ rfl wq.heap.size C rfl rfl hRZ rfl HCS.out HON.out ?_) | fail)
 change Code.wp _ _ _ _ ((wq.alloc (.cells fY.toArray 35)).setCells wq.heap.size 0 C.toList)
 obtain ⟨W,hW⟩:∃ W,(wq.alloc (.cells fY.toArray 35)).setCells wq.heap.size 0 C.toList=W:=⟨_,rfl⟩
 rw[hW] at HCE HBW ⊢
 obtain ⟨bk,hbk⟩:∃ b,wq.heap.size=b:=⟨_,rfl⟩
 have HBK:=cH hbk;rw[hbk] at HCE ⊢;clear hW hbk hRZ;have HBX:=cH (eB (eB HBA.out HBQ.out) HBW.out);have HRS3:=cH ((HRS2.out.below HBQ.out (HRS2.out.lt bJ)).below HBW.out (Nat.lt_of_lt_of_le (HRS2.out.lt bJ) HBQ.out.size));cases ok
 ·go_wp2_with fail
  go_ret;exact ⟨rfl,HBX.out⟩
 have hgo:=trivial;obtain ⟨ht1,rfl,rfl,rfl⟩:=HT.out bL;obtain ⟨OS,HASC,HASCC,hs400,hc2000,hPK⟩:=HOK.out bL;have HPK:=cH hPK;clear hPK
 obtain ⟨p,hp⟩:∃ p,fL (eI st) comp (norm s)=p:=⟨_,rfl⟩
 rw[hp] at ht1 HSL;subst ht1;have HP:=cH hp;have hpo:=nP (eI st) comp (norm s) (by rw[norm_size];omega);rw[hp] at hpo;have HPO:=cH hpo;have HPN:=cH (oL (eI st) comp (norm s));rw[hp] at HPN;have k9:=HCE.out 9 (.string (nrm p.trim p.s)) (by rw[← HC.out];rfl);have hne:=HPN.out;clear hp hpo HT HOK k9 hne
 obtain ⟨ids,dis,PG⟩:∃ ids dis,pS st s p dirs (⟨#[95,105,110,100,101,120]⟩:ByteArray) ew lw ids [] dis:=by
  have hc:iQ comp=true:=by rw[← HCOMP.out];unfold iQ;rw[L_toList];rfl
  cases bq
  ·obtain ⟨h1,h2⟩:=Hlw.out.resolve_left (fun e=>by
    have h9:=HLX.out;rw[e] at h9
    exact Bool.noConfusion (h9.symm.trans (show ((⟨#[]⟩:ByteArray).toList==[])=true by rw[L_toList];rfl)))
   exact ⟨_,_,xT HPK.out HP.out HDP.out (by rw[← HS.out,← HDIR.out,← HFILE.out];simp only[iP,jL,if_neg Bool.false_ne_true];simp[L]) xE h1 Pew.out hc Iew.out (by rw[h2];rfl)⟩
  have e:lw=⟨#[]⟩:=by
   have h9:lw.toList=[]:=by simpa using HLX.out
   rw[L_toList] at h9;exact L_inj (h9.trans rfl)
  rw[e];exact ⟨_,_,aCf HPK.out HP.out HDP.out (by rw[← HS.out,← HDIR.out,← HFILE.out];simp only[iP,jL,if_true];simp[L]) xE Pew.out hc Iew.out⟩
 have ty:p.typ=4:=by rw[PG.typ];rfl
 obtain ⟨g1,g2,g3,g4,g5,g6⟩:=aDw PG (by rw[ty];decide);have q1:=PG.lang;have q2:=PG.ext;have q3:=PG.name;have HG1:=cH g1;have HG2:=cH g2;have HG3:=cH g3;have HG4:=cH g4;have HG5:=cH g5;have HG6:=cH g6;have HQ1:=cH q1;have HQ2:=cH q2;have HQ3:=cH q3;have HTY:=cH ty;clear PG ty g1 g2 g3 g4 g5 g6 q1 q2 q3;have cfo:=uL (HDD.out.below HBX.out) bS
 obtain ⟨fh,hfh⟩:∃ x,dirs.head?.getD ⟨#[]⟩=x:=⟨_,rfl⟩
 rw[hfh] at cfo;have HFH:=cH hfh;clear hfh;go_wp2_with fail
 refine cfo.mono ?_;rintro e wf ⟨rfl,hbf⟩;have HBF:=cH (eB HBX.out hbf);have HVF:=cH hbf;clear cfo hbf;rcases (by omega:dirs.length=0∨dirs.length=1∨2≤dirs.length) with hn | hn | hn
 ·have HN:=cH hn;have d0:((dirs.length:Int)==0)=true:=by rw[hn];rfl
  have d1:((dirs.length:Int)==1)=false:=by rw[hn];rfl
  have d0' : (dirs.length==0)=true:=by rw[hn];rfl
  have d1' : (dirs.length==1)=false:=by rw[hn];rfl
  obtain ⟨la,hla⟩:∃ x,dirs.getLast?.getD ⟨#[]⟩=x:=⟨_,rfl⟩
  obtain ⟨rd,hrd⟩:∃ x:ByteArray,(if dir=⟨#[]⟩ then ⟨#[47]⟩ else dir)=x:=⟨_,rfl⟩
  have HLA:=cH hla;have HRD:=cH hrd
  have hrd2:pK p=rd:=by
   rw[HG4.out,← hrd,← HDIR.out]
   by_cases h:dirs=[]
   ·rw[if_pos h,if_pos (by rw[h];rfl)]
   rw[if_neg h,if_neg (fun e=>h (mP.1 (by rw[← jL,e];rfl)))]
  have HRD2:=cH hrd2;have t1:(lw.toList==lw.toList)=true:=by simp
  have t2:(ew.toList==ew.toList)=true:=by simp
  have t3:(dir.toList==dir.toList)=true:=by simp
  have t4:(fh.toList==fh.toList)=true:=by simp
  have t5:(la.toList==la.toList)=true:=by simp
  have t6:(rd.toList==rd.toList)=true:=by simp
  have t7:((⟨#[95,105,110,100,101,120]⟩:ByteArray).toList==(⟨#[95,105,110,100,101,120]⟩:ByteArray).toList)=true:=by simp
  have t8:((⟨#[]⟩:ByteArray).toList==(⟨#[]⟩:ByteArray).toList)=true:=by simp
  clear hn hla hrd hrd2;have k30:=HCE.out 30 (.int .i64 4) (by rw[← HC.out,← show p.typ=4 from HTY.out];rfl);have k28:=HCE.out 28 (.bool false) (by rw[← HC.out,← show lX p=false from (by unfold lX;rw[HTY.out];rfl)];rfl);have k27:=HCE.out 27 (.bool true) (by rw[← HC.out,← show kE p=true from (by unfold kE;rw[HTY.out];rfl)];rfl);have k26:=HCE.out 26 (.bool true) bR;have k25:=HCE.out 25 (.bool true) bP;have k19:=HCE.out 19 (.string lw) cA;have k15:=HCE.out 15 (.string ew) bY
  have k3:=HCE.out 3 (.string fh) (by rw[← HC.out,← show kS p=fh from (by rw[HG6.out,if_pos (.inl (List.eq_nil_of_length_eq_zero HN.out)),← HFH.out,List.eq_nil_of_length_eq_zero HN.out];rfl)];rfl);have k13:=HCE.out 13 (.string dir) bV;have k6:=HCE.out 6 (.string la) bU;have k1:=HCE.out 1 (.string la) bT;have k7:=HCE.out 7 (.string (⟨#[95,105,110,100,101,120]⟩:ByteArray)) (by rw[← HC.out,← show jA p=(⟨#[95,105,110,100,101,120]⟩:ByteArray) from HQ3.out];rfl);have k8:=HCE.out 8 (.string rd) cB
  replace k30:=eH k30 HVF.out;replace k28:=eH k28 HVF.out;replace k27:=eH k27 HVF.out;replace k26:=eH k26 HVF.out;replace k25:=eH k25 HVF.out;replace k19:=eH k19 HVF.out;replace k15:=eH k15 HVF.out;replace k3:=eH k3 HVF.out;replace k13:=eH k13 HVF.out;replace k6:=eH k6 HVF.out;replace k1:=eH k1 HVF.out;replace k7:=eH k7 HVF.out;replace k8:=eH k8 HVF.out;have xl:=fun (m:Nat)=>tG (w:=wf.drewN m) ((HDD.out.below HBF.out).below (eW.below ⟨m,rfl⟩)) bS;rw[HLA.out] at xl;have xr:=fun (m:Nat)=>qJ dir (wf.drewN m);rw[HRD.out] at xr;go_wp2_with fail
  go_quiet (first | (go_at_call 31;exact Calls.quiet_of (xl _)) | (go_at_call 32;exact Calls.quiet_of (xr _)) )
  go_wp2_with fail
  go_ret
  first
  | exact ⟨rfl,eB HBF.out (eW.below ⟨_,rfl⟩)⟩
  | exact ⟨congrArg (fun b=>Ending.returned (Value.bool b)) (by assumption),eB HBF.out (eW.below ⟨_,rfl⟩)⟩
 ·have HN:=cH hn;have d0:((dirs.length:Int)==0)=false:=by exact beq_eq_false_iff_ne.2 bA
  have d1:((dirs.length:Int)==1)=true:=by rw[hn];rfl
  have d0' : (dirs.length==0)=false:=by exact beq_eq_false_iff_ne.2 bA
  have d1' : (dirs.length==1)=true:=by rw[hn];rfl
  obtain ⟨la,hla⟩:∃ x,dirs.getLast?.getD ⟨#[]⟩=x:=⟨_,rfl⟩
  obtain ⟨rd,hrd⟩:∃ x:ByteArray,(if dir=⟨#[]⟩ then ⟨#[47]⟩ else dir)=x:=⟨_,rfl⟩
  have HLA:=cH hla;have HRD:=cH hrd
  have hrd2:pK p=rd:=by
   rw[HG4.out,← hrd,← HDIR.out]
   by_cases h:dirs=[]
   ·rw[if_pos h,if_pos (by rw[h];rfl)]
   rw[if_neg h,if_neg (fun e=>h (mP.1 (by rw[← jL,e];rfl)))]
  have HRD2:=cH hrd2;have t1:(lw.toList==lw.toList)=true:=by simp
  have t2:(ew.toList==ew.toList)=true:=by simp
  have t3:(dir.toList==dir.toList)=true:=by simp
  have t4:(fh.toList==fh.toList)=true:=by simp
  have t5:(la.toList==la.toList)=true:=by simp
  have t6:(rd.toList==rd.toList)=true:=by simp
  have t7:((⟨#[95,105,110,100,101,120]⟩:ByteArray).toList==(⟨#[95,105,110,100,101,120]⟩:ByteArray).toList)=true:=by simp
  have t8:((⟨#[]⟩:ByteArray).toList==(⟨#[]⟩:ByteArray).toList)=true:=by simp
  clear hn hla hrd hrd2;have k30:=HCE.out 30 (.int .i64 4) (by rw[← HC.out,← show p.typ=4 from HTY.out];rfl);have k28:=HCE.out 28 (.bool false) (by rw[← HC.out,← show lX p=false from (by unfold lX;rw[HTY.out];rfl)];rfl);have k27:=HCE.out 27 (.bool true) (by rw[← HC.out,← show kE p=true from (by unfold kE;rw[HTY.out];rfl)];rfl);have k26:=HCE.out 26 (.bool true) bR;have k25:=HCE.out 25 (.bool true) bP;have k19:=HCE.out 19 (.string lw) cA;have k15:=HCE.out 15 (.string ew) bY
  have k3:=HCE.out 3 (.string fh) (by rw[← HC.out,← show kS p=fh from (by rw[HG6.out,if_neg (by rintro (h | h);(have h9:=HN.out;rw[h] at h9;cases h9);(have h9:=h.2;rw[HTY.out] at h9;cases h9)),HFH.out])];rfl);have k13:=HCE.out 13 (.string dir) bV;have k6:=HCE.out 6 (.string la) bU;have k1:=HCE.out 1 (.string la) bT;have k7:=HCE.out 7 (.string (⟨#[95,105,110,100,101,120]⟩:ByteArray)) (by rw[← HC.out,← show jA p=(⟨#[95,105,110,100,101,120]⟩:ByteArray) from HQ3.out];rfl);have k8:=HCE.out 8 (.string rd) cB
  obtain ⟨fd,hfd⟩:∃ x,gU dirs.dropLast=x:=⟨_,rfl⟩
  have HFD2:=cH hfd;have t9:(fd.toList==fd.toList)=true:=by simp
  clear hfd;have k2:=HCE.out 2 (.string fd) bO;replace k30:=eH k30 HVF.out;replace k28:=eH k28 HVF.out;replace k27:=eH k27 HVF.out;replace k26:=eH k26 HVF.out;replace k25:=eH k25 HVF.out;replace k19:=eH k19 HVF.out;replace k15:=eH k15 HVF.out;replace k3:=eH k3 HVF.out;replace k13:=eH k13 HVF.out;replace k6:=eH k6 HVF.out;replace k1:=eH k1 HVF.out;replace k7:=eH k7 HVF.out;replace k8:=eH k8 HVF.out;replace k2:=eH k2 HVF.out;have xl:=fun (m:Nat)=>tG (w:=wf.drewN m) ((HDD.out.below HBF.out).below (eW.below ⟨m,rfl⟩)) bS;rw[HLA.out] at xl
  have xr:=fun (m:Nat)=>qJ dir (wf.drewN m);rw[HRD.out] at xr;have hfr:=(HDD.out.below HBF.out).front
  have xf:=fun (m:Nat)=>tU (w:=wf.drewN m) (hfr.1.below (eW.below ⟨m,rfl⟩)) (by
   have h9:=HFL.out;have h8:dirs.dropLast.length≤dirs.length:=by rw[List.length_dropLast];omega
   have h7:wt dirs.dropLast≤wt dirs:=by
    obtain ⟨init,x,e⟩:=List.eq_nil_or_concat dirs |>.resolve_left (fun h=>by have h9:=HN.out;rw[h] at h9;exact absurd h9 bH)
    rw[e]
    simp[wt]
   omega)
  rw[HFD2.out] at xf;have e0:0 < dirs.length:=by have:=HN.out;omega
  have e1:IntKind.i64.wrap ((dirs.length:Int) - 1)=(dirs.length:Int) - 1:=by rw[IntWalk.i64_in _ bS]
  have e2:0≤(dirs.length:Int) - 1:=by omega
  have e3:(dirs.length:Int) - 1≤(cx:Int):=by have:=hfr.2;omega
  have e4:((dirs.length:Int) - 1).toNat=dirs.length - 1:=by omega
  have e5:dirs.length - 1≤cx:=by have:=hfr.2;omega
  clear hfr;go_wp2_with fail
  go_quiet (first | (go_at_call 31;exact Calls.quiet_of (xl _)) | (go_at_call 32;exact Calls.quiet_of (xr _)) | (go_at_call 28;exact Calls.quiet_of (xf _)))
  go_wp2_with fail
  go_ret
  first
  | exact ⟨rfl,eB HBF.out (eW.below ⟨_,rfl⟩)⟩
  | exact ⟨congrArg (fun b=>Ending.returned (Value.bool b)) (by assumption),eB HBF.out (eW.below ⟨_,rfl⟩)⟩
 have HN:=cH hn;have d0:((dirs.length:Int)==0)=false:=by exact beq_eq_false_iff_ne.2 bA
 have d1:((dirs.length:Int)==1)=false:=by exact beq_eq_false_iff_ne.2 bA
 have d0' : (dirs.length==0)=false:=by exact beq_eq_false_iff_ne.2 bA
 have d1' : (dirs.length==1)=false:=by exact beq_eq_false_iff_ne.2 bA
 obtain ⟨la,hla⟩:∃ x,dirs.getLast?.getD ⟨#[]⟩=x:=⟨_,rfl⟩
 obtain ⟨rd,hrd⟩:∃ x:ByteArray,(if dir=⟨#[]⟩ then ⟨#[47]⟩ else dir)=x:=⟨_,rfl⟩
 have HLA:=cH hla;have HRD:=cH hrd
 have hrd2:pK p=rd:=by
  rw[HG4.out,← hrd,← HDIR.out]
  by_cases h:dirs=[]
  ·rw[if_pos h,if_pos (by rw[h];rfl)]
  rw[if_neg h,if_neg (fun e=>h (mP.1 (by rw[← jL,e];rfl)))]
 have HRD2:=cH hrd2;have t1:(lw.toList==lw.toList)=true:=by simp
 have t2:(ew.toList==ew.toList)=true:=by simp
 have t3:(dir.toList==dir.toList)=true:=by simp
 have t4:(fh.toList==fh.toList)=true:=by simp
 have t5:(la.toList==la.toList)=true:=by simp
 have t6:(rd.toList==rd.toList)=true:=by simp
 have t7:((⟨#[95,105,110,100,101,120]⟩:ByteArray).toList==(⟨#[95,105,110,100,101,120]⟩:ByteArray).toList)=true:=by simp
 have t8:((⟨#[]⟩:ByteArray).toList==(⟨#[]⟩:ByteArray).toList)=true:=by simp
 clear hn hla hrd hrd2;have k30:=HCE.out 30 (.int .i64 4) (by rw[← HC.out,← show p.typ=4 from HTY.out];rfl);have k28:=HCE.out 28 (.bool false) (by rw[← HC.out,← show lX p=false from (by unfold lX;rw[HTY.out];rfl)];rfl);have k27:=HCE.out 27 (.bool true) (by rw[← HC.out,← show kE p=true from (by unfold kE;rw[HTY.out];rfl)];rfl);have k26:=HCE.out 26 (.bool true) bR;have k25:=HCE.out 25 (.bool true) bP;have k19:=HCE.out 19 (.string lw) cA;have k15:=HCE.out 15 (.string ew) bY
 have k3:=HCE.out 3 (.string fh) (by rw[← HC.out,← show kS p=fh from (by rw[HG6.out,if_neg (by have h9:=HN.out;rintro (h | h);(rw[h] at h9;exact absurd h9 bH);(have h8:=h.1;omega)),HFH.out])];rfl);have k13:=HCE.out 13 (.string dir) bV;have k6:=HCE.out 6 (.string la) bU;have k1:=HCE.out 1 (.string la) bT;have k7:=HCE.out 7 (.string (⟨#[95,105,110,100,101,120]⟩:ByteArray)) (by rw[← HC.out,← show jA p=(⟨#[95,105,110,100,101,120]⟩:ByteArray) from HQ3.out];rfl);have k8:=HCE.out 8 (.string rd) cB
 obtain ⟨fd,hfd⟩:∃ x,gU dirs.dropLast=x:=⟨_,rfl⟩
 have HFD2:=cH hfd;have t9:(fd.toList==fd.toList)=true:=by simp
 clear hfd;have k2:=HCE.out 2 (.string fd) bO;replace k30:=eH k30 HVF.out;replace k28:=eH k28 HVF.out;replace k27:=eH k27 HVF.out;replace k26:=eH k26 HVF.out;replace k25:=eH k25 HVF.out;replace k19:=eH k19 HVF.out;replace k15:=eH k15 HVF.out;replace k3:=eH k3 HVF.out;replace k13:=eH k13 HVF.out;replace k6:=eH k6 HVF.out;replace k1:=eH k1 HVF.out;replace k7:=eH k7 HVF.out;replace k8:=eH k8 HVF.out;replace k2:=eH k2 HVF.out;have xl:=fun (m:Nat)=>tG (w:=wf.drewN m) ((HDD.out.below HBF.out).below (eW.below ⟨m,rfl⟩)) bS;rw[HLA.out] at xl
 have xr:=fun (m:Nat)=>qJ dir (wf.drewN m);rw[HRD.out] at xr;have hfr:=(HDD.out.below HBF.out).front
 have xf:=fun (m:Nat)=>tU (w:=wf.drewN m) (hfr.1.below (eW.below ⟨m,rfl⟩)) (by
  have h9:=HFL.out;have h8:dirs.dropLast.length≤dirs.length:=by rw[List.length_dropLast];omega
  have h7:wt dirs.dropLast≤wt dirs:=by
   obtain ⟨init,x,e⟩:=List.eq_nil_or_concat dirs |>.resolve_left (fun h=>by have h9:=HN.out;rw[h] at h9;exact absurd h9 bH)
   rw[e]
   simp[wt]
  omega)
 rw[HFD2.out] at xf;have e0:0 < dirs.length:=by have:=HN.out;omega
 have e1:IntKind.i64.wrap ((dirs.length:Int) - 1)=(dirs.length:Int) - 1:=by rw[IntWalk.i64_in _ bS]
 have e2:0≤(dirs.length:Int) - 1:=by omega
 have e3:(dirs.length:Int) - 1≤(cx:Int):=by have:=hfr.2;omega
 have e4:((dirs.length:Int) - 1).toNat=dirs.length - 1:=by omega
 have e5:dirs.length - 1≤cx:=by have:=hfr.2;omega
 clear hfr;go_wp2_with fail
 go_quiet (first | (go_at_call 31;exact Calls.quiet_of (xl _)) | (go_at_call 32;exact Calls.quiet_of (xr _)) | (go_at_call 28;exact Calls.quiet_of (xf _)))
 go_wp2_with fail
 go_ret
 first
 | exact ⟨rfl,eB HBF.out (eW.below ⟨_,rfl⟩)⟩
 | exact ⟨congrArg (fun b=>Ending.returned (Value.bool b)) (by assumption),eB HBF.out (eW.below ⟨_,rfl⟩)⟩
end
theorem lifted (os:Os) (started:os.Started) (H:Type) (enc:TypeId×Value→H) :
 ReturnsInHanded {} Tryz.checked os 5 .any (fun w args=>(Rows.fnBuiltBundleSpec.pre enc Tryz.prog Tryz.f5 Rows.fnBuiltBundleRow.domain false w args∧laidMetH Tryz.prog Rows.fnBuiltBundleRow.laid w)∧sizedMet enc Tryz.prog Tryz.f5 (OpenSpec.ofChange Rows.fnBuiltBundleSpec) false w args)
  (Rows.fnBuiltBundleSpec.post enc Tryz.prog Tryz.f5 false true false false):=by
 refine returnsInHanded_of_change_and (C:=Tryz.checked) (X:=fun w _=>laidMetH Tryz.prog Rows.fnBuiltBundleRow.laid w) (fun _ _ _ hh h=>h.of_heap hh) RowKit.own started bB Tryz.func5
  (ChangeSpec.witness_shaped (enc:=enc) (C:=Tryz.checked) (os:=os) (X:=fun w _=>laidMetH Tryz.prog Rows.fnBuiltBundleRow.laid w) false (World.laidAll Tryz.prog os Rows.fnBuiltBundleRow.laid) #[.agg #[.slice none 0 0,.slice none 0 0,.slice none 0 0,.slice none 0 0],.slice none 0 0,.bool false,.int .i64 0,.int .i64 0] 8 (World.laidAll_os _ _ _)
   (World.shaped_of_ZipB bB bB) bB bB bB
   bN) ?_
 intro W base args ds gs before hval0 hW _ _ _ _;have hval:∀ (j:Nat) t v,Tryz.f5.params[j]? = some t→args[j]? = some v→Value.okWide Tryz.prog W .any base t v:=hval0;have hW':=hW;obtain ⟨p,q,hA0,hV,rfl,_,_⟩:=hW;have hA:DataW.TrodAll enc Tryz.prog W 0 (fun _=>true) true Tryz.f5.params.toList args.toList ds p:=hA0;rw[Tryz.params5] at hA hval;obtain ⟨v0,vs0,d0,ds0,p0,q0,hargs,rfl,rfl,h0,r0⟩:=trodAll_cons hA;obtain ⟨v1,vs1,d1,ds1,p1,q1,rfl,rfl,rfl,h1,r1⟩:=trodAll_cons r0;obtain ⟨v2,vs2,d2,ds2,p2,q2,rfl,rfl,rfl,h2,r2⟩:=trodAll_cons r1;obtain ⟨v3,vs3,d3,ds3,p3,q3,rfl,rfl,rfl,h3,r3⟩:=trodAll_cons r2;obtain ⟨v4,vs4,d4,ds4,p4,q4,rfl,rfl,rfl,h4,r4⟩:=trodAll_cons r3;obtain ⟨rfl,rfl,rfl⟩:=trodAll_nil r4;obtain rfl:args = #[v0,v1,v2,v3,v4]:=by cases args;simp_all
 obtain ⟨rfl,rfl⟩:=trodVars_none hV;have k0:=h0;have lt0:∀ x∈p0,x.block < W.heap.size:=by obtain ⟨m,hm⟩:=k0;exact DataW.trod_lt m _ _ _ hm
 obtain ⟨st0,vl0,vd0,vf0,vc0,rfl,S0⟩:=SiteRow.open_site (hval 0 25 v0 rfl rfl) h0;have k1:=h1;have lt1:∀ x∈p1,x.block < W.heap.size:=by obtain ⟨m,hm⟩:=k1;exact DataW.trod_lt m _ _ _ hm
 obtain ⟨l1,S1,z1⟩:∃ l,eT W 0 v1 l∧l.length≤9223372036854775807:=by obtain ⟨a9,n9,c9,rfl⟩:=okWide_slice Tryz.underlying22 (hval 1 22 v1 rfl rfl);obtain ⟨m,hm⟩:=k1;exact SiteRow.open_strs hm
 obtain ⟨a2,rfl,rfl,rfl⟩:=open_bool Tryz.underlying4 (hval 2 4 v2 rfl rfl) h2;obtain ⟨a3,rfl,rfl,rfl,w3⟩:=open_int Tryz.underlying3 (hval 3 3 v3 rfl rfl) h3;obtain ⟨a4,rfl,rfl,rfl,w4⟩:=open_int Tryz.underlying3 (hval 4 3 v4 rfl rfl) h4;clear hA0 hval0;refine (walk (w:=W) S0 S1 z1 a2 a3 a4).mono fun e W' ⟨he,bel⟩=>?_;subst he;exact ⟨_,rfl,_,_,_,[],_,[],hW',trodAll_mk1 (shut_bool Tryz.underlying4 _),(trodAll_cons_mk (Below.trod SiteRow.laidOut bB (of_decide_eq_true bB) k0 bel lt0) (trodAll_cons_mk (Below.trod SiteRow.laidOut bB (of_decide_eq_true bB) k1 bel lt1) (trodAll_cons_mk (shut_bool Tryz.underlying4 _) (trodAll_cons_mk (shut_int Tryz.underlying3 w3) (trodAll_cons_mk (shut_int Tryz.underlying3 w4) trodAll_mk0))))),rfl,bel.frame _,fun h=>by cases h⟩
theorem said:Rows.FnBuiltBundleSaid :=
 OpenClaim.holds_of_wide 5 Tryz.f5 rfl rfl rfl rfl rfl rfl rfl ⟨rfl,rfl,rfl,rfl,rfl⟩ rfl rfl rfl rfl rfl bB Tryz.func5 bB
  (of_decide_eq_true bB) bM
  (fun os started H enc _=>lifted os started H enc)
theorem plain (f:FuncId) (fn:Func) (hf:Tryz.pinned.checked.prog.funcNamed "pub-trackway/laws.FnBuiltBundle" = some f) (hfn:Tryz.pinned.checked.prog.funcs[f]? = some fn) :
 false=Tryz.pinned.checked.prog.looks []∧∀ (j:Nat) t,fn.params[j]? = some t→Tryz.pinned.checked.prog.wantsStandIn t=false:=by
 obtain rfl:f=5:=Option.some.inj ((show Tryz.prog.funcNamed "pub-trackway/laws.FnBuiltBundle" = some 5 by kernel_rfl).symm.trans hf) |>.symm
 obtain rfl:fn=Tryz.f5:=(Option.some.inj (Tryz.func5.symm.trans hfn)).symm;refine ⟨by kernel_rfl,fun j t ht=>?_⟩;rw[Tryz.params5] at ht;have hm:t∈[25,22,4,3,3]:=by simpa using Array.mem_of_getElem? ht
 have hall:([25,22,4,3,3].all fun u=>!Tryz.prog.wantsStandIn u)=true:=by kernel_rfl
 exact (show Tryz.prog.wantsStandIn t=false by simpa using List.all_eq_true.1 hall t hm)
theorem card:Rows.FnBuiltBundleCardSaid :=
 Claim7.holds_tied_plain_at .later [] _ _ _ _ said (fun _ h=>by cases h) bB (fun _ h=>by cases h) fnBuiltBundle_row_tie rfl ⟨rfl,rfl⟩ bB rfl plain bB
end Go.Proofs.YtcdgldnphhidlaaGreatDoor.fnBuiltBundle
namespace Go.Proofs.YtcdgldnphhidlaaGreatDoor
theorem fnBuiltBundle_card:Rows.FnBuiltBundleCardSaid:=fnBuiltBundle.card
#print axioms fnBuiltBundle_card
end Go.Proofs.YtcdgldnphhidlaaGreatDoor
