/- A page whose language stands in a wrapper answers the language, as one of a list, with the word of the wrapper in small and in great letters. Condition: none but the statement's own. -/
import Derived.Deep.QuietTactic
import Derived.BigQuiet
import Derived.Test.YtcdgldnphhidlaaGreatDoorVa
import Derived.Test.YtcdgldnphhidlaaGreatDoorV21
set_option linter.unusedVariables false
set_option linter.unusedSimpArgs false
set_option maxRecDepth 100000
set_option maxHeartbeats 16000000
namespace Go.Proofs.YtcdgldnphhidlaaGreatDoor.fnBuiltWrapped
open Go.ChangeShapes Go.WideShapes Go.ChangeAt Go.RowKit Go.WideMaps Go.ZW.PrintWords Go.Proofs.YtcdgldnphhidlaaGreatDoor.Base Go.Proofs.YtcdgldnphhidlaaGreatDoor.Lower Go.Proofs.YtcdgldnphhidlaaGreatDoor.Total Go.Proofs.YtcdgldnphhidlaaGreatDoor.Path Go.Proofs.YtcdgldnphhidlaaGreatDoor.PCore
open Go.ZW.PrintLast
section
variable {w:World} {st:fD} {vl vd vf vc:Value}
theorem walk (S:lW w st vl vd vf vc) {vx:Value} {dirs:List ByteArray} (D:eT w 0 vx dirs) (zd:dirs.length≤9223372036854775807) (name:ByteArray) (lang:Int) (ext:Int) (great:Bool):Calls Tryz.prog 9 #[.agg #[vl,vd,vf,vc],vx,.string name,.int .i64 lang,.int .i64 ext,.bool great] w fun e w'=>e = .returned (.bool true)∧Below w.heap.size w w':=by
 have HSA:=cH S;obtain ⟨Al,cl,rfl,_,_⟩:=S.l;obtain ⟨Ad,cd,rfl,_,_⟩:=S.d;obtain ⟨Af,cf,rfl,_,_⟩:=S.f;obtain ⟨Ac,cc,rfl,_,_⟩:=S.c;obtain ⟨Ax,cx,ex,hcx,hdx⟩:=id D;subst ex;have HDD:=cH D;have HZD:=cH zd;clear S D hcx hdx zd;have hB1:Below w.heap.size w (w.alloc (.cells #[.slice Al st.langs.length cl,.slice Ad st.dis.length cd,.slice Af st.fmts.length cf,.slice Ac st.cont.length cc] 25)):=(Below.refl _ _).alloc (Nat.le_refl _) _;have hR1:=Row.new w [.slice Al st.langs.length cl,.slice Ad st.dis.length cd,.slice Af st.fmts.length cf,.slice Ac st.cont.length cc] 25;go_enter Tryz.func9,Tryz.ntmps9;go_upto_region 1 with fail
 obtain ⟨w1,hw1⟩:∃ w1,w.alloc (.cells #[.slice Al st.langs.length cl,.slice Ad st.dis.length cd,.slice Af st.fmts.length cf,.slice Ac st.cont.length cc] 25)=w1:=⟨_,rfl⟩
 rw[hw1] at hB1 hR1 ⊢;clear hw1;have HB1:=cH hB1;have HRS1:=cH hR1;have cz:=nX (HSA.out.below hB1)
 obtain ⟨ft,hft⟩:∃ f,pY st=f:=⟨_,rfl⟩
 rw[hft] at cz;have HFT:=cH hft;clear hB1 hR1 hft;have r0:=HRS1.out.at 0 _ rfl;have r1:=HRS1.out.at 1 _ rfl;have r2:=HRS1.out.at 2 _ rfl;have r3:=HRS1.out.at 3 _ rfl;go_wp2_with fail
 refine (cz).mono ?_;rintro e w2 ⟨rfl,hb⟩;have HB2:=cH (eB HB1.out hb);have HRS2:=cH (HRS1.out.below hb (HRS1.out.lt bJ));clear hb cz r0 r1 r2 r3;cases ft
 ·go_wp2_with fail
  go_ret;exact ⟨rfl,HB2.out⟩
 have hgo:=trivial
 obtain ⟨fd,hfd⟩:∃ f,fits2 dirs=f:=⟨_,rfl⟩
 have cd':=oE (HDD.out.below HB2.out) HZD.out;rw[hfd] at cd';have HFD:=cH hfd;clear hfd;go_wp2_with fail
 refine (cd').mono ?_;rintro e w3 ⟨rfl,hb⟩;have HB3:=cH (eB HB2.out hb);have HRS3:=cH (HRS2.out.below hb (HRS2.out.lt bJ));clear hb cd';cases fd
 ·go_wp2_with fail
  go_ret;exact ⟨rfl,HB3.out⟩
 have hgo:=trivial
 obtain ⟨bq,hq⟩:∃ q,decide ((2147483647:Int) < (name.size:Int))=q:=⟨_,rfl⟩
 have hq' : decide (2147483647 < name.size)=bq:=by rw[← hq];by_cases c:2147483647 < name.size <;> simp[c] <;> omega
 have HQname:=cH hq;cases bq;rotate_left
 ·go_wp2_with fail
  go_ret;exact ⟨rfl,HB3.out⟩
 have hgo:=trivial;have zname:name.size≤2147483647:=by have:=of_decide_eq_false HQname.out;omega
 clear hq hq' hgo;obtain ⟨lw,hlw,clw⟩:=vZ (st:=st) ⟨(HSA.out.below HB3.out).l,(HSA.out.below HB3.out).d,(HSA.out.below HB3.out).f,(HSA.out.below HB3.out).c⟩ (jQ HFT.out) lang;have Hlw:=cH hlw;have Clw:=cH clw;clear hlw clw;obtain ⟨ew,hew,cew⟩:=rB (st:=st) ⟨(HSA.out.below HB3.out).l,(HSA.out.below HB3.out).d,(HSA.out.below HB3.out).f,(HSA.out.below HB3.out).c⟩ (jQ HFT.out) ext;have Hew:=cH hew;have Cew:=cH cew;clear hew cew;have r0:=HRS3.out.at 0 _ rfl;have r1:=HRS3.out.at 1 _ rfl;have r2:=HRS3.out.at 2 _ rfl;have r3:=HRS3.out.at 3 _ rfl;go_upto_region 3 with fail
 refine iH (n:=8) (S:=fun w'=>w'.cell? ⟨w.heap.size,0,none⟩=some (.slice Al st.langs.length cl)∧w'.cell? ⟨w.heap.size,1,none⟩=some (.slice Ad st.dis.length cd)∧w'.cell? ⟨w.heap.size,2,none⟩=some (.slice Af st.fmts.length cf)∧w'.cell? ⟨w.heap.size,3,none⟩=some (.slice Ac st.cont.length cc)) (ds:=[]) _ bB rfl rfl ⟨r0,r1,r2,r3⟩ (fun hHeld=>?_);refine sA1 1 (some 33) sB1 ?_
 refine sA1 4 (some 36) sB1 ?_
 refine sC1 0 (some 32) sO1 ?_
 refine sC1 3 (some 35) sO1 ?_
 refine sF1 2 (some 34) sG1 (fun K hK=>?_);refine iK Tryz.func24 bB rfl #[.agg #[.slice Al st.langs.length cl,.slice Ad st.dis.length cd,.slice Af st.fmts.length cf,.slice Ac st.cont.length cc],.int .i64 lang] bK rfl rfl bG ?_
 with_reducible refine ((Clw.out _ ((Below.refl w3.heap.size w3).drew))).mono ?_
 rintro e w4 ⟨rfl,hb4⟩;refine ⟨_,rfl,?_⟩;have r0_4:=eF (w:=w3.drew) r0 hb4;have r1_4:=eF (w:=w3.drew) r1 hb4;have r2_4:=eF (w:=w3.drew) r2 hb4;have r3_4:=eF (w:=w3.drew) r3 hb4;have HB4:=cH (eB HB3.out (eB (Below.refl w3.heap.size w3).drew hb4));have HRS4:=cH (HRS3.out.below (eB (Below.refl w3.heap.size w3).drew hb4) (HRS3.out.lt bJ));have HL4:=cH (eB (Below.refl w3.heap.size w3).drew hb4);refine hK.out _ _ ⟨r0_4,r1_4,r2_4,r3_4⟩ (fun hHeld=>?_);clear hK K;refine eU sJ1 ?_
 refine sF1 5 (some 37) sG1 (fun K hK=>?_);refine iK Tryz.func25 bB rfl #[.agg #[.slice Al st.langs.length cl,.slice Ad st.dis.length cd,.slice Af st.fmts.length cf,.slice Ac st.cont.length cc],.int .i64 ext] bK rfl rfl bG ?_
 with_reducible refine ((Cew.out _ (HL4.out))).mono ?_
 rintro e w5 ⟨rfl,hb5⟩;refine ⟨_,rfl,?_⟩;have r0_5:=eF (w:=w4) r0_4 hb5;have r1_5:=eF (w:=w4) r1_4 hb5;have r2_5:=eF (w:=w4) r2_4 hb5;have r3_5:=eF (w:=w4) r3_4 hb5;have HB5:=cH (eB HB3.out (eB HL4.out hb5));have HRS5:=cH (HRS3.out.below (eB HL4.out hb5) (HRS3.out.lt bJ));have HL5:=cH (eB HL4.out hb5);refine hK.out _ _ ⟨r0_5,r1_5,r2_5,r3_5⟩ (fun hHeld=>?_);clear hK K;refine eU sJ1 ?_
 refine sA1 6 (some 13) sB1 ?_
 refine sA1 7 (some 14) sB1 ?_
 refine iY bB ?_;clear hHeld r0 r1 r2 r3 r0_4 r1_4 r2_4 r3_4 r0_5 r1_5 r2_5 r3_5 hb4 hb5;obtain ⟨pd,hpd,cpd⟩:=oM (HDD.out.below HB5.out) HFD.out (oK HFD.out).2;have HPD:=cH hpd;clear hpd;go_wp2_with fail
 refine (cpd).mono ?_;rintro e w6 ⟨rfl,hb⟩;have HB6:=cH (eB HB5.out hb);have HRS6:=cH (HRS5.out.below hb (HRS5.out.lt bJ));clear hb cpd;cases pd
 ·go_wp2_with fail
  go_ret;exact ⟨rfl,HB6.out⟩
 have hgo:=trivial;obtain ⟨pp,hpp,cpp⟩:=nQ name bA;have HP1:=cH hpp;clear hpp;go_wp2_with fail
 refine (cpp _).mono ?_;rintro e w7 ⟨rfl,hb⟩;have HB7:=cH (eB HB6.out hb);have HRS7:=cH (HRS6.out.below hb (HRS6.out.lt bJ));clear hb cpp;cases pp
 ·go_wp2_with fail
  go_ret;exact ⟨rfl,HB7.out⟩
 have hgo:=trivial
 obtain ⟨bq,hxlw⟩:∃ b,(lw.toList==[])=b:=⟨_,rfl⟩
 cases bq;rotate_left
 ·go_wp2_with fail
  go_ret;exact ⟨rfl,HB7.out⟩
 have hgo:=trivial;obtain ⟨h1,h2⟩:=Hlw.out.resolve_left (fun e=>by rw[e] at hxlw;exact Bool.noConfusion (hxlw.symm.trans (show ((⟨#[]⟩:ByteArray).toList==[])=true by rw[L_toList];rfl)));have Plw:=cH h1;have Ilw:=cH h2;have zlw:lw.size≤4000000000:=(jQ HFT.out).lz _ (qW h2);clear h1 h2 hgo
 obtain ⟨bq,hxew⟩:∃ b,(ew.toList==[])=b:=⟨_,rfl⟩
 cases bq;rotate_left
 ·go_wp2_with fail
  go_ret;exact ⟨rfl,HB7.out⟩
 have hgo:=trivial;obtain ⟨h1,h2⟩:=Hew.out.resolve_left (fun e=>by rw[e] at hxew;exact Bool.noConfusion (hxew.symm.trans (show ((⟨#[]⟩:ByteArray).toList==[])=true by rw[L_toList];rfl)));have Pew:=cH h1;have Iew:=cH h2;have zew:ew.size≤4000000000:=(jQ HFT.out).cz _ (qW h2);clear h1 h2 hgo;have r0:=HRS7.out.at 0 _ rfl;have r1:=HRS7.out.at 1 _ rfl;have r2:=HRS7.out.at 2 _ rfl;have r3:=HRS7.out.at 3 _ rfl;have S9:=HSA.out.below HB7.out;have cl9:=nU S9.l S9.ll name
 obtain ⟨bl,hbl⟩:∃ b,listed st.langs name=b:=⟨_,rfl⟩
 rw[hbl] at cl9;have HN1:=cH hbl;clear hbl S9;go_wp2_with fail
 refine (cl9).mono ?_;rintro e w8 ⟨rfl,hb⟩;have HB8:=cH (eB HB7.out hb);have HRS8:=cH (HRS7.out.below hb (HRS7.out.lt bJ));clear hb cl9 r0 r1 r2 r3;cases bl;rotate_left
 ·go_wp2_with fail
  go_ret;exact ⟨rfl,HB8.out⟩
 have hgo:=trivial;have r0:=HRS8.out.at 0 _ rfl;have r1:=HRS8.out.at 1 _ rfl;have r2:=HRS8.out.at 2 _ rfl;have r3:=HRS8.out.at 3 _ rfl;have S9:=HSA.out.below HB8.out;have cl9:=nU S9.d S9.dl name
 obtain ⟨bl,hbl⟩:∃ b,listed st.dis name=b:=⟨_,rfl⟩
 rw[hbl] at cl9;have HN2:=cH hbl;clear hbl S9;go_wp2_with fail
 refine (cl9).mono ?_;rintro e w9 ⟨rfl,hb⟩;have HB9:=cH (eB HB8.out hb);have HRS9:=cH (HRS8.out.below hb (HRS8.out.lt bJ));clear hb cl9 r0 r1 r2 r3;cases bl;rotate_left
 ·go_wp2_with fail
  go_ret;exact ⟨rfl,HB9.out⟩
 have hgo:=trivial;obtain ⟨hdp,hfew⟩:=HPD.out bL;have hfl:dirs.length+wt dirs≤2000:=by unfold fewB at hfew;exact of_decide_eq_true hfew
 have HDP:=cH hdp;have HFL:=cH hfl;have zdir:(gU dirs).size≤2000:=by rw[nT];exact hfl
 obtain ⟨dir,hdir⟩:∃ d,gU dirs=d:=⟨_,rfl⟩
 rw[hdir] at zdir;have HDIR:=cH hdir;clear hdir hdp hfew hfl;cases great
 ·have cf:=mV (HDD.out.below HB9.out) bS;rw[HDIR.out] at cf;go_wp2_with fail
  refine (cf).mono ?_;rintro e w10 ⟨rfl,hb⟩;have HB10:=cH (eB HB9.out hb);have HRS10:=cH (HRS9.out.below hb (HRS9.out.lt bJ));clear hb cf;have r0:=HRS10.out.at 0 _ rfl;have r1:=HRS10.out.at 1 _ rfl;have r2:=HRS10.out.at 2 _ rfl;have r3:=HRS10.out.at 3 _ rfl
  obtain ⟨s,hs⟩:∃ x:ByteArray,(((dir++⟨#[47]⟩)++name)++((⟨#[46,95,108,97,110,103,117,97,103,101,95]⟩++lw)++⟨#[95,46]⟩))++ew=x:=⟨_,rfl⟩
  have HS:=cH hs
  have hsz:s.size≤100000000000:=by
   rw[← hs];simp only[size_append];have z0:(⟨#[47]⟩:ByteArray).size=1:=rfl;have z1:(⟨#[95,46]⟩:ByteArray).size=2:=rfl;have z2:(⟨#[46,95,108,97,110,103,117,97,103,101,95]⟩:ByteArray).size=11:=rfl;omega
  obtain ⟨comp,hcomp⟩:∃ c:ByteArray,(⟨#[99,111,110,116,101,110,116]⟩:ByteArray)=c:=⟨_,rfl⟩
  have HCOMP:=cH hcomp;have zcomp:comp.size≤2147483647:=by rw[← hcomp];decide
  have HB2:=HB10;have HBA:=HB10;have HRS2:=HRS10;obtain ⟨ok,HOK,ck⟩:=pD (HSA.out.below HBA.out) HFT.out comp s bA;replace HOK:=cH HOK;go_wp2_with fail
  refine ck.mono ?_;rintro e wq ⟨t,l1,l2,l3,v1,v2,v3,rfl,hsl,ht,hbq⟩;have HSL:=cH hsl;clear hsl hs hcomp;have HT:=cH ht;have HBQ:=cH hbq;obtain ⟨A1,c1,e1,_⟩:=HSL.out.1;obtain ⟨A2,c2,e2,_⟩:=HSL.out.2.1;obtain ⟨A3,c3,e3,_⟩:=HSL.out.2.2;clear ck ht hbq r0 r1 r2 r3
  obtain ⟨C,hC⟩:∃ C:Array Value,oY t v1 v2 v3=C:=⟨_,rfl⟩
  have hval:iB t v1 v2 v3 = .agg C:=by rw[← hC];rfl
  have HCS:=cH (show C.size=31 by rw[← hC];rfl);have HON:=cH (show C.all (·.oneCell')=true by rw[← hC,e1,e2,e3];exact mF _ _ _ _ _ _ _ _ _ _);rw[hval];have HC:=cH hC;clear hval e1 e2 e3 hC;have hRZ:=Row.new wq fY 35;have HCE:=cH (nM hRZ rfl HCS.out);have HBW:=cH (qD wq C)
  go_upto_region 11 with (first | (refine nN rfl _ _ rfl wq.heap.size C rfl rfl hRZ rfl HCS.out HON.out ?_) | fail)
  change Code.wp _ _ _ _ ((wq.alloc (.cells fY.toArray 35)).setCells wq.heap.size 0 C.toList)
  obtain ⟨W,hW⟩:∃ W,(wq.alloc (.cells fY.toArray 35)).setCells wq.heap.size 0 C.toList=W:=⟨_,rfl⟩
  rw[hW] at HCE HBW ⊢
  obtain ⟨bk,hbk⟩:∃ b,wq.heap.size=b:=⟨_,rfl⟩
  have HBK:=cH hbk;rw[hbk] at HCE ⊢;clear hW hbk hRZ;have HBX:=cH (eB (eB HBA.out HBQ.out) HBW.out);have HRS3:=cH ((HRS2.out.below HBQ.out (HRS2.out.lt bJ)).below HBW.out (Nat.lt_of_lt_of_le (HRS2.out.lt bJ) HBQ.out.size));cases ok
  ·go_wp2_with fail
   go_ret;exact ⟨rfl,HBX.out⟩
  have hgo:=trivial;obtain ⟨ht1,rfl,rfl,rfl⟩:=HT.out bL;obtain ⟨OS,HASC,HASCC,hs400,hc2000,hPK⟩:=HOK.out bL;have HPK:=cH hPK;clear hPK
  obtain ⟨p,hp⟩:∃ p,fL (eI st) comp (norm s)=p:=⟨_,rfl⟩
  rw[hp] at ht1 HSL;subst ht1;have HP:=cH hp;have hpo:=nP (eI st) comp (norm s) (by rw[norm_size];omega);rw[hp] at hpo;have HPO:=cH hpo;have HPN:=cH (oL (eI st) comp (norm s));rw[hp] at HPN;have k9:=HCE.out 9 (.string (nrm p.trim p.s)) (by rw[← HC.out];rfl);have hne:=HPN.out;clear hp hpo HT HOK k9 hne
  have PG:=uM HPK.out HP.out HDP.out (nm:=name) (l:=lw) (e:=ew) (by
   rw[← HS.out,← HDIR.out]
   exact vN HDP.out (HP1.out bL) Plw.out Pew.out ⟨#[46,95,108,97,110,103,117,97,103,101,95]⟩ (by rw[kV];rfl)) (HP1.out bL) Plw.out Pew.out (by rw[← HCOMP.out];unfold iQ;rw[L_toList];rfl) Iew.out Ilw.out (by rw[HN1.out,HN2.out];rfl)
  have ty:p.typ=2:=by rw[PG.typ,if_neg (HP1.out bL).notIndex,if_neg (uD (HP1.out bL))]
  obtain ⟨fn,hfn⟩:∃ x,gU dirs++⟨#[47]⟩++name=x:=⟨_,rfl⟩
  have bs:nH p=fn:=by rw[PG.base,if_neg (by rw[ty];decide),if_pos ty,hfn]
  have t1:(name.toList==name.toList)=true:=by simp
  have t2:(lw.toList==lw.toList)=true:=by simp
  have t3:(fn.toList==fn.toList)=true:=by simp
  rw[HDIR.out] at hfn;have k30:=HCE.out 30 (.int .i64 2) (by rw[← HC.out,← show p.typ=2 from ty];rfl);have k19:=HCE.out 19 (.string lw) (by rw[← HC.out,← show pE p=lw from PG.lang];rfl);have k7:=HCE.out 7 (.string name) (by rw[← HC.out,← show jA p=name from PG.name];rfl);have k13:=HCE.out 13 (.string fn) (by rw[← HC.out,← show nH p=fn from bs];rfl);have k24:=HCE.out 24 (.bool false) (by rw[← HC.out,← show p.dis=false from PG.dis];rfl);have k20:=HCE.out 20 (.string ⟨#[]⟩) (by rw[← HC.out,← show oG p=⟨#[]⟩ from PG.cust];rfl);have hr1:=(HSL.out.1.below HBW.out).mono (Nat.zero_le _);rw[show iT p=[lw] from PG.langs] at hr1;obtain ⟨A1,c1,e1,hc1,hd1⟩:=id hr1;have HR1:=cH (show eT W 0 (.slice A1 1 c1) [lw] from e1▸hr1)
  have k21:=HCE.out 21 (.slice A1 1 c1) (by rw[← HC.out,show (Value.slice A1 1 c1)=v1 from e1.symm];rfl);clear e1 hr1 hc1 hd1;have hr2:=(HSL.out.2.1.below HBW.out).mono (Nat.zero_le _);rw[show iV p=[ew,lw] from PG.ids] at hr2;obtain ⟨A2,c2,e2,hc2,hd2⟩:=id hr2;have HR2:=cH (show eT W 0 (.slice A2 2 c2) [ew,lw] from e2▸hr2);have k22:=HCE.out 22 (.slice A2 2 c2) (by rw[← HC.out,show (Value.slice A2 2 c2)=v2 from e2.symm];rfl);clear e2 hr2 hc2 hd2;clear PG ty bs;have hal:Below W.heap.size W (W.alloc (.cells #[.string lw] 9)):=(Below.refl _ _).alloc (Nat.le_refl _) _;have ct:=lK (w:=W.alloc (.cells #[.string lw] 9)) (HR1.out.below hal) ((eT.of_row (l:=[lw]) (Row.new W [.string lw] 9) 1 bJ).mono (Nat.zero_le _)) bJ;go_wp2_with fail
  refine ct.mono ?_;rintro e wt1 ⟨rfl,hbt⟩;have hbx:=eB hal hbt;have HBt1:=cH (eB HBX.out hbx);have HVt1:=cH (hbx);replace k30:=eH k30 hbx;replace k19:=eH k19 hbx;replace k7:=eH k7 hbx;replace k13:=eH k13 hbx;replace k24:=eH k24 hbx;replace k20:=eH k20 hbx;replace k21:=eH k21 hbx;replace k22:=eH k22 hbx;clear hal ct hbt hbx;have hal:Below wt1.heap.size wt1 (wt1.alloc (.cells #[.string ew,.string lw] 9)):=(Below.refl _ _).alloc (Nat.le_refl _) _;have ct:=lK (w:=wt1.alloc (.cells #[.string ew,.string lw] 9)) (HR2.out.below (eB HVt1.out hal)) ((eT.of_row (l:=[ew,lw]) (Row.new wt1 [.string ew,.string lw] 9) 2 bJ).mono (Nat.zero_le _)) bJ;go_wp2_with fail
  refine ct.mono ?_;rintro e wt2 ⟨rfl,hbt⟩;have hbx:=eB hal hbt;have HBt2:=cH (eB HBt1.out hbx);have HVt2:=cH (eB HVt1.out hbx);replace k30:=eH k30 hbx;replace k19:=eH k19 hbx;replace k7:=eH k7 hbx;replace k13:=eH k13 hbx;replace k24:=eH k24 hbx;replace k20:=eH k20 hbx;replace k21:=eH k21 hbx;replace k22:=eH k22 hbx;clear hal ct hbt hbx;go_wp2_with fail
  go_ret
  first
  | exact ⟨rfl,HBt2.out⟩
  | exact ⟨congrArg (fun b=>Ending.returned (Value.bool b)) (by assumption),HBt2.out⟩
 have cf:=mV (HDD.out.below HB9.out) bS;rw[HDIR.out] at cf;go_wp2_with fail
 refine (cf).mono ?_;rintro e w10 ⟨rfl,hb⟩;have HB10:=cH (eB HB9.out hb);have HRS10:=cH (HRS9.out.below hb (HRS9.out.lt bJ));clear hb cf;have r0:=HRS10.out.at 0 _ rfl;have r1:=HRS10.out.at 1 _ rfl;have r2:=HRS10.out.at 2 _ rfl;have r3:=HRS10.out.at 3 _ rfl
 obtain ⟨s,hs⟩:∃ x:ByteArray,(((dir++⟨#[47]⟩)++name)++((⟨#[46,95,76,65,78,71,85,65,71,69,95]⟩++lw)++⟨#[95,46]⟩))++ew=x:=⟨_,rfl⟩
 have HS:=cH hs
 have hsz:s.size≤100000000000:=by
  rw[← hs];simp only[size_append];have z0:(⟨#[47]⟩:ByteArray).size=1:=rfl;have z1:(⟨#[95,46]⟩:ByteArray).size=2:=rfl;have z2:(⟨#[46,95,76,65,78,71,85,65,71,69,95]⟩:ByteArray).size=11:=rfl;omega
 obtain ⟨comp,hcomp⟩:∃ c:ByteArray,(⟨#[99,111,110,116,101,110,116]⟩:ByteArray)=c:=⟨_,rfl⟩
 have HCOMP:=cH hcomp;have zcomp:comp.size≤2147483647:=by rw[← hcomp];decide
 have HB2:=HB10;have HBA:=HB10;have HRS2:=HRS10;obtain ⟨ok,HOK,ck⟩:=pD (HSA.out.below HBA.out) HFT.out comp s bA;replace HOK:=cH HOK;go_wp2_with fail
 refine ck.mono ?_;rintro e wq ⟨t,l1,l2,l3,v1,v2,v3,rfl,hsl,ht,hbq⟩;have HSL:=cH hsl;clear hsl hs hcomp;have HT:=cH ht;have HBQ:=cH hbq;obtain ⟨A1,c1,e1,_⟩:=HSL.out.1;obtain ⟨A2,c2,e2,_⟩:=HSL.out.2.1;obtain ⟨A3,c3,e3,_⟩:=HSL.out.2.2;clear ck ht hbq r0 r1 r2 r3
 obtain ⟨C,hC⟩:∃ C:Array Value,oY t v1 v2 v3=C:=⟨_,rfl⟩
 have hval:iB t v1 v2 v3 = .agg C:=by rw[← hC];rfl
 have HCS:=cH (show C.size=31 by rw[← hC];rfl);have HON:=cH (show C.all (·.oneCell')=true by rw[← hC,e1,e2,e3];exact mF _ _ _ _ _ _ _ _ _ _);rw[hval];have HC:=cH hC;clear hval e1 e2 e3 hC;have hRZ:=Row.new wq fY 35;have HCE:=cH (nM hRZ rfl HCS.out);have HBW:=cH (qD wq C)
 go_upto_region 11 with (first | (refine nN rfl _ _ rfl wq.heap.size C rfl rfl hRZ rfl HCS.out HON.out ?_) | fail)
 change Code.wp _ _ _ _ ((wq.alloc (.cells fY.toArray 35)).setCells wq.heap.size 0 C.toList)
 obtain ⟨W,hW⟩:∃ W,(wq.alloc (.cells fY.toArray 35)).setCells wq.heap.size 0 C.toList=W:=⟨_,rfl⟩
 rw[hW] at HCE HBW ⊢
 obtain ⟨bk,hbk⟩:∃ b,wq.heap.size=b:=⟨_,rfl⟩
 have HBK:=cH hbk;rw[hbk] at HCE ⊢;clear hW hbk hRZ;have HBX:=cH (eB (eB HBA.out HBQ.out) HBW.out);have HRS3:=cH ((HRS2.out.below HBQ.out (HRS2.out.lt bJ)).below HBW.out (Nat.lt_of_lt_of_le (HRS2.out.lt bJ) HBQ.out.size));cases ok
 ·go_wp2_with fail
  go_ret;exact ⟨rfl,HBX.out⟩
 have hgo:=trivial;obtain ⟨ht1,rfl,rfl,rfl⟩:=HT.out bL;obtain ⟨OS,HASC,HASCC,hs400,hc2000,hPK⟩:=HOK.out bL;have HPK:=cH hPK;clear hPK
 obtain ⟨p,hp⟩:∃ p,fL (eI st) comp (norm s)=p:=⟨_,rfl⟩
 rw[hp] at ht1 HSL;subst ht1;have HP:=cH hp;have hpo:=nP (eI st) comp (norm s) (by rw[norm_size];omega);rw[hp] at hpo;have HPO:=cH hpo;have HPN:=cH (oL (eI st) comp (norm s));rw[hp] at HPN;have k9:=HCE.out 9 (.string (nrm p.trim p.s)) (by rw[← HC.out];rfl);have hne:=HPN.out;clear hp hpo HT HOK k9 hne
 have PG:=uM HPK.out HP.out HDP.out (nm:=name) (l:=lw) (e:=ew) (by
  rw[← HS.out,← HDIR.out]
  exact vN HDP.out (HP1.out bL) Plw.out Pew.out ⟨#[46,95,76,65,78,71,85,65,71,69,95]⟩ (by rw[kV];rfl)) (HP1.out bL) Plw.out Pew.out (by rw[← HCOMP.out];unfold iQ;rw[L_toList];rfl) Iew.out Ilw.out (by rw[HN1.out,HN2.out];rfl)
 have ty:p.typ=2:=by rw[PG.typ,if_neg (HP1.out bL).notIndex,if_neg (uD (HP1.out bL))]
 obtain ⟨fn,hfn⟩:∃ x,gU dirs++⟨#[47]⟩++name=x:=⟨_,rfl⟩
 have bs:nH p=fn:=by rw[PG.base,if_neg (by rw[ty];decide),if_pos ty,hfn]
 have t1:(name.toList==name.toList)=true:=by simp
 have t2:(lw.toList==lw.toList)=true:=by simp
 have t3:(fn.toList==fn.toList)=true:=by simp
 rw[HDIR.out] at hfn;have k30:=HCE.out 30 (.int .i64 2) (by rw[← HC.out,← show p.typ=2 from ty];rfl);have k19:=HCE.out 19 (.string lw) (by rw[← HC.out,← show pE p=lw from PG.lang];rfl);have k7:=HCE.out 7 (.string name) (by rw[← HC.out,← show jA p=name from PG.name];rfl);have k13:=HCE.out 13 (.string fn) (by rw[← HC.out,← show nH p=fn from bs];rfl);have k24:=HCE.out 24 (.bool false) (by rw[← HC.out,← show p.dis=false from PG.dis];rfl);have k20:=HCE.out 20 (.string ⟨#[]⟩) (by rw[← HC.out,← show oG p=⟨#[]⟩ from PG.cust];rfl);have hr1:=(HSL.out.1.below HBW.out).mono (Nat.zero_le _);rw[show iT p=[lw] from PG.langs] at hr1;obtain ⟨A1,c1,e1,hc1,hd1⟩:=id hr1;have HR1:=cH (show eT W 0 (.slice A1 1 c1) [lw] from e1▸hr1)
 have k21:=HCE.out 21 (.slice A1 1 c1) (by rw[← HC.out,show (Value.slice A1 1 c1)=v1 from e1.symm];rfl);clear e1 hr1 hc1 hd1;have hr2:=(HSL.out.2.1.below HBW.out).mono (Nat.zero_le _);rw[show iV p=[ew,lw] from PG.ids] at hr2;obtain ⟨A2,c2,e2,hc2,hd2⟩:=id hr2;have HR2:=cH (show eT W 0 (.slice A2 2 c2) [ew,lw] from e2▸hr2);have k22:=HCE.out 22 (.slice A2 2 c2) (by rw[← HC.out,show (Value.slice A2 2 c2)=v2 from e2.symm];rfl);clear e2 hr2 hc2 hd2;clear PG ty bs;have hal:Below W.heap.size W (W.alloc (.cells #[.string lw] 9)):=(Below.refl _ _).alloc (Nat.le_refl _) _;have ct:=lK (w:=W.alloc (.cells #[.string lw] 9)) (HR1.out.below hal) ((eT.of_row (l:=[lw]) (Row.new W [.string lw] 9) 1 bJ).mono (Nat.zero_le _)) bJ;go_wp2_with fail
 refine ct.mono ?_;rintro e wt1 ⟨rfl,hbt⟩;have hbx:=eB hal hbt;have HBt1:=cH (eB HBX.out hbx);have HVt1:=cH (hbx);replace k30:=eH k30 hbx;replace k19:=eH k19 hbx;replace k7:=eH k7 hbx;replace k13:=eH k13 hbx;replace k24:=eH k24 hbx;replace k20:=eH k20 hbx;replace k21:=eH k21 hbx;replace k22:=eH k22 hbx;clear hal ct hbt hbx;have hal:Below wt1.heap.size wt1 (wt1.alloc (.cells #[.string ew,.string lw] 9)):=(Below.refl _ _).alloc (Nat.le_refl _) _;have ct:=lK (w:=wt1.alloc (.cells #[.string ew,.string lw] 9)) (HR2.out.below (eB HVt1.out hal)) ((eT.of_row (l:=[ew,lw]) (Row.new wt1 [.string ew,.string lw] 9) 2 bJ).mono (Nat.zero_le _)) bJ;go_wp2_with fail
 refine ct.mono ?_;rintro e wt2 ⟨rfl,hbt⟩;have hbx:=eB hal hbt;have HBt2:=cH (eB HBt1.out hbx);have HVt2:=cH (eB HVt1.out hbx);replace k30:=eH k30 hbx;replace k19:=eH k19 hbx;replace k7:=eH k7 hbx;replace k13:=eH k13 hbx;replace k24:=eH k24 hbx;replace k20:=eH k20 hbx;replace k21:=eH k21 hbx;replace k22:=eH k22 hbx;clear hal ct hbt hbx;go_wp2_with fail
 go_ret
 first
 | exact ⟨rfl,HBt2.out⟩
 | exact ⟨congrArg (fun b=>Ending.returned (Value.bool b)) (by assumption),HBt2.out⟩
end
theorem lifted (os:Os) (started:os.Started) (H:Type) (enc:TypeId×Value→H) :
 ReturnsInHanded {} Tryz.checked os 9 .any (fun w args=>(Rows.fnBuiltWrappedSpec.pre enc Tryz.prog Tryz.f9 Rows.fnBuiltWrappedRow.domain false w args∧laidMetH Tryz.prog Rows.fnBuiltWrappedRow.laid w)∧sizedMet enc Tryz.prog Tryz.f9 (OpenSpec.ofChange Rows.fnBuiltWrappedSpec) false w args)
  (Rows.fnBuiltWrappedSpec.post enc Tryz.prog Tryz.f9 false true false false):=by
 refine returnsInHanded_of_change_and (C:=Tryz.checked) (X:=fun w _=>laidMetH Tryz.prog Rows.fnBuiltWrappedRow.laid w) (fun _ _ _ hh h=>h.of_heap hh) RowKit.own started bB Tryz.func9
  (ChangeSpec.witness_shaped (enc:=enc) (C:=Tryz.checked) (os:=os) (X:=fun w _=>laidMetH Tryz.prog Rows.fnBuiltWrappedRow.laid w) false (World.laidAll Tryz.prog os Rows.fnBuiltWrappedRow.laid) #[.agg #[.slice none 0 0,.slice none 0 0,.slice none 0 0,.slice none 0 0],.slice none 0 0,.string ByteArray.empty,.int .i64 0,.int .i64 0,.bool false] 8 (World.laidAll_os _ _ _)
   (World.shaped_of_ZipB bB bB) bB bB bB
   bN) ?_
 intro W base args ds gs before hval0 hW _ _ _ _;have hval:∀ (j:Nat) t v,Tryz.f9.params[j]? = some t→args[j]? = some v→Value.okWide Tryz.prog W .any base t v:=hval0;have hW':=hW;obtain ⟨p,q,hA0,hV,rfl,_,_⟩:=hW;have hA:DataW.TrodAll enc Tryz.prog W 0 (fun _=>true) true Tryz.f9.params.toList args.toList ds p:=hA0;rw[Tryz.params9] at hA hval;obtain ⟨v0,vs0,d0,ds0,p0,q0,hargs,rfl,rfl,h0,r0⟩:=trodAll_cons hA;obtain ⟨v1,vs1,d1,ds1,p1,q1,rfl,rfl,rfl,h1,r1⟩:=trodAll_cons r0;obtain ⟨v2,vs2,d2,ds2,p2,q2,rfl,rfl,rfl,h2,r2⟩:=trodAll_cons r1;obtain ⟨v3,vs3,d3,ds3,p3,q3,rfl,rfl,rfl,h3,r3⟩:=trodAll_cons r2;obtain ⟨v4,vs4,d4,ds4,p4,q4,rfl,rfl,rfl,h4,r4⟩:=trodAll_cons r3;obtain ⟨v5,vs5,d5,ds5,p5,q5,rfl,rfl,rfl,h5,r5⟩:=trodAll_cons r4
 obtain ⟨rfl,rfl,rfl⟩:=trodAll_nil r5;obtain rfl:args = #[v0,v1,v2,v3,v4,v5]:=by cases args;simp_all
 obtain ⟨rfl,rfl⟩:=trodVars_none hV;have k0:=h0;have lt0:∀ x∈p0,x.block < W.heap.size:=by obtain ⟨m,hm⟩:=k0;exact DataW.trod_lt m _ _ _ hm
 obtain ⟨st0,vl0,vd0,vf0,vc0,rfl,S0⟩:=SiteRow.open_site (hval 0 25 v0 rfl rfl) h0;have k1:=h1;have lt1:∀ x∈p1,x.block < W.heap.size:=by obtain ⟨m,hm⟩:=k1;exact DataW.trod_lt m _ _ _ hm
 obtain ⟨l1,S1,z1⟩:∃ l,eT W 0 v1 l∧l.length≤9223372036854775807:=by obtain ⟨a9,n9,c9,rfl⟩:=okWide_slice Tryz.underlying22 (hval 1 22 v1 rfl rfl);obtain ⟨m,hm⟩:=k1;exact SiteRow.open_strs hm
 obtain ⟨a2,rfl,rfl,rfl,y2⟩:=Go.ChangeMaps.open_string Tryz.underlying9 (hval 2 9 v2 rfl rfl) h2;obtain ⟨a3,rfl,rfl,rfl,w3⟩:=open_int Tryz.underlying3 (hval 3 3 v3 rfl rfl) h3;obtain ⟨a4,rfl,rfl,rfl,w4⟩:=open_int Tryz.underlying3 (hval 4 3 v4 rfl rfl) h4;obtain ⟨a5,rfl,rfl,rfl⟩:=open_bool Tryz.underlying4 (hval 5 4 v5 rfl rfl) h5;clear hA0 hval0;refine (walk (w:=W) S0 S1 z1 a2 a3 a4 a5).mono fun e W' ⟨he,bel⟩=>?_;subst he
 exact ⟨_,rfl,_,_,_,[],_,[],hW',trodAll_mk1 (shut_bool Tryz.underlying4 _),(trodAll_cons_mk (Below.trod SiteRow.laidOut bB (of_decide_eq_true bB) k0 bel lt0) (trodAll_cons_mk (Below.trod SiteRow.laidOut bB (of_decide_eq_true bB) k1 bel lt1) (trodAll_cons_mk (Go.ChangeMaps.shut_string Tryz.underlying9 y2) (trodAll_cons_mk (shut_int Tryz.underlying3 w3) (trodAll_cons_mk (shut_int Tryz.underlying3 w4) (trodAll_cons_mk (shut_bool Tryz.underlying4 _) trodAll_mk0)))))),rfl,bel.frame _,fun h=>by cases h⟩
theorem said:Rows.FnBuiltWrappedSaid :=
 OpenClaim.holds_of_wide 9 Tryz.f9 rfl rfl rfl rfl rfl rfl rfl ⟨rfl,rfl,rfl,rfl,rfl⟩ rfl rfl rfl rfl rfl bB Tryz.func9 bB
  (of_decide_eq_true bB) bM
  (fun os started H enc _=>lifted os started H enc)
theorem plain (f:FuncId) (fn:Func) (hf:Tryz.pinned.checked.prog.funcNamed "pub-trackway/laws.FnBuiltWrapped" = some f) (hfn:Tryz.pinned.checked.prog.funcs[f]? = some fn) :
 false=Tryz.pinned.checked.prog.looks []∧∀ (j:Nat) t,fn.params[j]? = some t→Tryz.pinned.checked.prog.wantsStandIn t=false:=by
 obtain rfl:f=9:=Option.some.inj ((show Tryz.prog.funcNamed "pub-trackway/laws.FnBuiltWrapped" = some 9 by kernel_rfl).symm.trans hf) |>.symm
 obtain rfl:fn=Tryz.f9:=(Option.some.inj (Tryz.func9.symm.trans hfn)).symm;refine ⟨by kernel_rfl,fun j t ht=>?_⟩;rw[Tryz.params9] at ht;have hm:t∈[25,22,9,3,3,4]:=by simpa using Array.mem_of_getElem? ht
 have hall:([25,22,9,3,3,4].all fun u=>!Tryz.prog.wantsStandIn u)=true:=by kernel_rfl
 exact (show Tryz.prog.wantsStandIn t=false by simpa using List.all_eq_true.1 hall t hm)
theorem card:Rows.FnBuiltWrappedCardSaid :=
 Claim7.holds_tied_plain_at .later [] _ _ _ _ said (fun _ h=>by cases h) bB (fun _ h=>by cases h) fnBuiltWrapped_row_tie rfl ⟨rfl,rfl⟩ bB rfl plain bB
end Go.Proofs.YtcdgldnphhidlaaGreatDoor.fnBuiltWrapped
namespace Go.Proofs.YtcdgldnphhidlaaGreatDoor
theorem fnBuiltWrapped_card:Rows.FnBuiltWrappedCardSaid:=fnBuiltWrapped.card
#print axioms fnBuiltWrapped_card
end Go.Proofs.YtcdgldnphhidlaaGreatDoor
