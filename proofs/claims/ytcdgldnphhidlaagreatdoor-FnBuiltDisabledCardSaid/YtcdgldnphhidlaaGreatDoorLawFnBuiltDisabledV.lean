/- A page in a language that is disabled tells so. Condition: none but the statement's own. -/
import Derived.Deep.QuietTactic
import Derived.BigQuiet
import Derived.Test.YtcdgldnphhidlaaGreatDoorVa
import Derived.Test.YtcdgldnphhidlaaGreatDoorV21
set_option linter.unusedVariables false
set_option linter.unusedSimpArgs false
set_option maxRecDepth 100000
set_option maxHeartbeats 16000000
namespace Go.Proofs.YtcdgldnphhidlaaGreatDoor.fnBuiltDisabled
open Go.ChangeShapes Go.WideShapes Go.ChangeAt Go.RowKit Go.WideMaps Go.ZW.PrintWords Go.Proofs.YtcdgldnphhidlaaGreatDoor.Base Go.Proofs.YtcdgldnphhidlaaGreatDoor.Lower Go.Proofs.YtcdgldnphhidlaaGreatDoor.Total Go.Proofs.YtcdgldnphhidlaaGreatDoor.Path Go.Proofs.YtcdgldnphhidlaaGreatDoor.PCore
open Go.ZW.PrintLast
section
variable {w:World} {st:fD} {vl vd vf vc:Value}
theorem walk (S:lW w st vl vd vf vc) {vx:Value} {dirs:List ByteArray} (D:eT w 0 vx dirs) (zd:dirs.length≤9223372036854775807) (name:ByteArray) (lang:Int) (ext:Int):Calls Tryz.prog 6 #[.agg #[vl,vd,vf,vc],vx,.string name,.int .i64 lang,.int .i64 ext] w fun e w'=>e = .returned (.bool true)∧Below w.heap.size w w':=by
 have HSA:=cH S;obtain ⟨Al,cl,rfl,_,_⟩:=S.l;obtain ⟨Ad,cd,rfl,_,_⟩:=S.d;obtain ⟨Af,cf,rfl,_,_⟩:=S.f;obtain ⟨Ac,cc,rfl,_,_⟩:=S.c;obtain ⟨Ax,cx,ex,hcx,hdx⟩:=id D;subst ex;have HDD:=cH D;have HZD:=cH zd;clear S D hcx hdx zd;have hB1:Below w.heap.size w (w.alloc (.cells #[.slice Al st.langs.length cl,.slice Ad st.dis.length cd,.slice Af st.fmts.length cf,.slice Ac st.cont.length cc] 25)):=(Below.refl _ _).alloc (Nat.le_refl _) _;have hR1:=Row.new w [.slice Al st.langs.length cl,.slice Ad st.dis.length cd,.slice Af st.fmts.length cf,.slice Ac st.cont.length cc] 25;go_enter Tryz.func6,Tryz.ntmps6;go_upto_region 1 with fail
 obtain ⟨w1,hw1⟩:∃ w1,w.alloc (.cells #[.slice Al st.langs.length cl,.slice Ad st.dis.length cd,.slice Af st.fmts.length cf,.slice Ac st.cont.length cc] 25)=w1:=⟨_,rfl⟩
 rw[hw1] at hB1 hR1 ⊢;clear hw1;have HB1:=cH hB1;have HRS1:=cH hR1;have cz:=nX (HSA.out.below hB1)
 obtain ⟨ft,hft⟩:∃ f,pY st=f:=⟨_,rfl⟩
 rw[hft] at cz;have HFT:=cH hft;clear hB1 hR1 hft;have r0:=HRS1.out.at 0 _ rfl;have r1:=HRS1.out.at 1 _ rfl;have r2:=HRS1.out.at 2 _ rfl;have r3:=HRS1.out.at 3 _ rfl;go_wp2_with fail
 refine (cz).mono ?_;rintro e w2 ⟨rfl,hb⟩;have HB2:=cH (eB HB1.out hb);have HRS2:=cH (HRS1.out.below hb (HRS1.out.lt bJ));clear hb cz r0 r1 r2 r3;cases ft
 ·go_wp2_with fail
  go_ret;exact ⟨rfl,HB2.out⟩
 have hgo:=trivial
 obtain ⟨fd,hfd⟩:∃ f,fits2 dirs=f:=⟨_,rfl⟩
 have cd':=oE (HDD.out.below HB2.out) HZD.out;rw[hfd] at cd';have HFD:=cH hfd;clear hfd;go_wp2_with fail
 refine (cd').mono ?_;rintro e w3 ⟨rfl,hb⟩;have HB3:=cH (eB HB2.out hb);have HRS3:=cH (HRS2.out.below hb (HRS2.out.lt bJ));clear hb cd';cases fd
 ·go_wp2_with fail
  go_ret;exact ⟨rfl,HB3.out⟩
 have hgo:=trivial
 obtain ⟨bq,hq⟩:∃ q,decide ((2147483647:Int) < (name.size:Int))=q:=⟨_,rfl⟩
 have hq' : decide (2147483647 < name.size)=bq:=by rw[← hq];by_cases c:2147483647 < name.size <;> simp[c] <;> omega
 have HQname:=cH hq;cases bq;rotate_left
 ·go_wp2_with fail
  go_ret;exact ⟨rfl,HB3.out⟩
 have hgo:=trivial;have zname:name.size≤2147483647:=by have:=of_decide_eq_false HQname.out;omega
 clear hq hq' hgo;obtain ⟨ew,hew,cew⟩:=rB (st:=st) ⟨(HSA.out.below HB3.out).l,(HSA.out.below HB3.out).d,(HSA.out.below HB3.out).f,(HSA.out.below HB3.out).c⟩ (jQ HFT.out) ext;have Hew:=cH hew;have Cew:=cH cew;clear hew cew;have r0:=HRS3.out.at 0 _ rfl;have r1:=HRS3.out.at 1 _ rfl;have r2:=HRS3.out.at 2 _ rfl;have r3:=HRS3.out.at 3 _ rfl;go_wp2_with fail
 refine (Cew.out _ (Below.refl _ _)).mono ?_;rintro e w4 ⟨rfl,hb⟩;have HB4:=cH (eB HB3.out hb);have HRS4:=cH (HRS3.out.below hb (HRS3.out.lt bJ));clear hb r0 r1 r2 r3
 have zew:ew.size≤4000000000:=by
  rcases Hew.out with h | h
  ·rw[h];exact Nat.zero_le _
  exact (jQ HFT.out).cz _ (qW h.2)
 obtain ⟨pd,hpd,cpd⟩:=oM (w:=w4.drew) ((HDD.out.below HB4.out).below (Below.refl _ _).drew) HFD.out (oK HFD.out).2;obtain ⟨pp,hpp,cpp⟩:=nQ name bA;have HPD:=cH hpd;have HP1:=cH hpp;have CPD:=cH cpd;have CPP:=cH cpp;clear hpd hpp cpd cpp;have r0:=HRS4.out.at 0 _ rfl;have r1:=HRS4.out.at 1 _ rfl;have r2:=HRS4.out.at 2 _ rfl;have r3:=HRS4.out.at 3 _ rfl;cases pd
 ·go_upto_region 4 with fail
  refine iH (n:=42) (S:=fun w'=>w'.cell? ⟨w.heap.size,0,none⟩=some (.slice Al st.langs.length cl)∧w'.cell? ⟨w.heap.size,1,none⟩=some (.slice Ad st.dis.length cd)∧w'.cell? ⟨w.heap.size,2,none⟩=some (.slice Af st.fmts.length cf)∧w'.cell? ⟨w.heap.size,3,none⟩=some (.slice Ac st.cont.length cc)) (ds:=[]) _ bB rfl rfl ⟨r0,r1,r2,r3⟩ (fun hHeld=>?_)
  refine sA1 0 (some 31) sB1 ?_
  refine sF1 1 (some 32) sG1 (fun K hK=>?_);refine iK Tryz.func26 bB rfl #[.slice Ax dirs.length cx] bK rfl rfl bG ?_
  with_reducible refine (CPD.out).mono ?_
  rintro e y1 ⟨rfl,hby1⟩;refine ⟨_,rfl,?_⟩;have r0_y1:=eF (w:=w4.drew) r0 hby1;have r1_y1:=eF (w:=w4.drew) r1 hby1;have r2_y1:=eF (w:=w4.drew) r2 hby1;have r3_y1:=eF (w:=w4.drew) r3 hby1;have HLy1:=cH (eB (Below.refl w4.heap.size w4).drew hby1);have HBy1:=cH (eB HB4.out HLy1.out);refine hK.out _ _ ⟨r0_y1,r1_y1,r2_y1,r3_y1⟩ (fun hHeld=>?_);clear hK K;refine eU sJ1 ?_
  refine sA1 2 (some 33) sB1 ?_
  refine sA1 3 (some 34) sB1 ?_
  refine sM1 4 (some 35) sN1 ?_
  refine sM1 5 (some 36) sN1 ?_
  refine sM1 6 (some 37) sN1 ?_
  refine sA1 7 (some 38) sB1 ?_
  refine sA1 8 (some 39) sB1 ?_
  refine sM1 9 (some 40) sN1 ?_
  refine sM1 10 (some 41) sN1 ?_
  refine sA1 11 (some 42) sB1 ?_
  refine sA1 12 (some 43) sB1 ?_
  refine sM1 13 (some 44) sN1 ?_
  refine sM1 14 (some 45) sN1 ?_
  refine sA1 15 (some 46) sB1 ?_
  refine sA1 16 (some 47) sB1 ?_
  refine sM1 17 (some 48) sN1 ?_
  refine sM1 18 (some 49) sN1 ?_
  refine sM1 19 (some 50) sN1 ?_
  refine sM1 20 (some 51) sN1 ?_
  refine sM1 21 (some 52) sN1 ?_
  refine sA1 22 (some 53) sB1 ?_
  refine sA1 23 (some 54) sB1 ?_
  refine sM1 24 (some 55) sN1 ?_
  refine sM1 25 (some 56) sN1 ?_
  refine sM1 26 (some 57) sN1 ?_
  refine sM1 27 (some 58) sN1 ?_
  refine sM1 28 (some 59) sN1 ?_
  refine sM1 29 (some 60) sN1 ?_
  refine sM1 30 (some 61) sN1 ?_
  refine sA1 31 (some 62) sB1 ?_
  refine sA1 32 (some 63) sB1 ?_
  refine sM1 33 (some 64) sN1 ?_
  refine sM1 34 (some 65) sN1 ?_
  refine sM1 35 (some 66) sN1 ?_
  refine sM1 36 (some 67) sN1 ?_
  refine sM1 37 (some 68) sN1 ?_
  refine sM1 38 (some 69) sN1 ?_
  refine sM1 39 (some 70) sN1 ?_
  refine sM1 40 (some 71) sN1 ?_
  refine sA1 41 (some 72) sB1 ?_
  refine iY bB ?_;clear hHeld r0 r1 r2 r3 r0_y1 r1_y1 r2_y1 r3_y1 hby1;go_wp2_with fail
  go_ret;exact ⟨rfl,HBy1.out⟩
 have hgo:=trivial;cases pp
 ·go_upto_region 4 with fail
  refine iH (n:=42) (S:=fun w'=>w'.cell? ⟨w.heap.size,0,none⟩=some (.slice Al st.langs.length cl)∧w'.cell? ⟨w.heap.size,1,none⟩=some (.slice Ad st.dis.length cd)∧w'.cell? ⟨w.heap.size,2,none⟩=some (.slice Af st.fmts.length cf)∧w'.cell? ⟨w.heap.size,3,none⟩=some (.slice Ac st.cont.length cc)) (ds:=[]) _ bB rfl rfl ⟨r0,r1,r2,r3⟩ (fun hHeld=>?_)
  refine sA1 0 (some 31) sB1 ?_
  refine sF1 1 (some 32) sG1 (fun K hK=>?_);refine iK Tryz.func26 bB rfl #[.slice Ax dirs.length cx] bK rfl rfl bG ?_
  with_reducible refine (CPD.out).mono ?_
  rintro e y1 ⟨rfl,hby1⟩;refine ⟨_,rfl,?_⟩;have r0_y1:=eF (w:=w4.drew) r0 hby1;have r1_y1:=eF (w:=w4.drew) r1 hby1;have r2_y1:=eF (w:=w4.drew) r2 hby1;have r3_y1:=eF (w:=w4.drew) r3 hby1;have HLy1:=cH (eB (Below.refl w4.heap.size w4).drew hby1);have HBy1:=cH (eB HB4.out HLy1.out);refine hK.out _ _ ⟨r0_y1,r1_y1,r2_y1,r3_y1⟩ (fun hHeld=>?_);clear hK K;refine eU sJ1 ?_
  refine sA1 2 (some 33) sB1 ?_
  refine sA1 3 (some 34) sB1 ?_
  refine sA1 4 (some 35) sB1 ?_
  refine sF1 5 (some 36) sG1 (fun K hK=>?_);refine iK Tryz.func33 bB rfl #[.string name] bK rfl rfl bG ?_
  with_reducible refine ((CPP.out _)).mono ?_
  rintro e y2 ⟨rfl,hby2⟩;refine ⟨_,rfl,?_⟩;have r0_y2:=eF (w:=y1) r0_y1 hby2;have r1_y2:=eF (w:=y1) r1_y1 hby2;have r2_y2:=eF (w:=y1) r2_y1 hby2;have r3_y2:=eF (w:=y1) r3_y1 hby2;have HLy2:=cH (eB HLy1.out hby2);have HBy2:=cH (eB HB4.out HLy2.out);refine hK.out _ _ ⟨r0_y2,r1_y2,r2_y2,r3_y2⟩ (fun hHeld=>?_);clear hK K;refine eU sJ1 ?_
  refine sA1 6 (some 37) sB1 ?_
  refine sA1 7 (some 38) sB1 ?_
  refine sA1 8 (some 39) sB1 ?_
  refine sM1 9 (some 40) sN1 ?_
  refine sM1 10 (some 41) sN1 ?_
  refine sA1 11 (some 42) sB1 ?_
  refine sA1 12 (some 43) sB1 ?_
  refine sM1 13 (some 44) sN1 ?_
  refine sM1 14 (some 45) sN1 ?_
  refine sA1 15 (some 46) sB1 ?_
  refine sA1 16 (some 47) sB1 ?_
  refine sM1 17 (some 48) sN1 ?_
  refine sM1 18 (some 49) sN1 ?_
  refine sM1 19 (some 50) sN1 ?_
  refine sM1 20 (some 51) sN1 ?_
  refine sM1 21 (some 52) sN1 ?_
  refine sA1 22 (some 53) sB1 ?_
  refine sA1 23 (some 54) sB1 ?_
  refine sM1 24 (some 55) sN1 ?_
  refine sM1 25 (some 56) sN1 ?_
  refine sM1 26 (some 57) sN1 ?_
  refine sM1 27 (some 58) sN1 ?_
  refine sM1 28 (some 59) sN1 ?_
  refine sM1 29 (some 60) sN1 ?_
  refine sM1 30 (some 61) sN1 ?_
  refine sA1 31 (some 62) sB1 ?_
  refine sA1 32 (some 63) sB1 ?_
  refine sM1 33 (some 64) sN1 ?_
  refine sM1 34 (some 65) sN1 ?_
  refine sM1 35 (some 66) sN1 ?_
  refine sM1 36 (some 67) sN1 ?_
  refine sM1 37 (some 68) sN1 ?_
  refine sM1 38 (some 69) sN1 ?_
  refine sM1 39 (some 70) sN1 ?_
  refine sM1 40 (some 71) sN1 ?_
  refine sA1 41 (some 72) sB1 ?_
  refine iY bB ?_;clear hHeld r0 r1 r2 r3 r0_y1 r1_y1 r2_y1 r3_y1 hby1 r0_y2 r1_y2 r2_y2 r3_y2 hby2;go_wp2_with fail
  go_ret;exact ⟨rfl,HBy2.out⟩
 have hgo:=trivial
 obtain ⟨be,hbe⟩:∃ b,(ew.toList==[])=b:=⟨_,rfl⟩
 cases be;rotate_left
 ·go_upto_region 4 with fail
  refine iH (n:=42) (S:=fun w'=>w'.cell? ⟨w.heap.size,0,none⟩=some (.slice Al st.langs.length cl)∧w'.cell? ⟨w.heap.size,1,none⟩=some (.slice Ad st.dis.length cd)∧w'.cell? ⟨w.heap.size,2,none⟩=some (.slice Af st.fmts.length cf)∧w'.cell? ⟨w.heap.size,3,none⟩=some (.slice Ac st.cont.length cc)) (ds:=[]) _ bB rfl rfl ⟨r0,r1,r2,r3⟩ (fun hHeld=>?_)
  refine sA1 0 (some 31) sB1 ?_
  refine sF1 1 (some 32) sG1 (fun K hK=>?_);refine iK Tryz.func26 bB rfl #[.slice Ax dirs.length cx] bK rfl rfl bG ?_
  with_reducible refine (CPD.out).mono ?_
  rintro e y1 ⟨rfl,hby1⟩;refine ⟨_,rfl,?_⟩;have r0_y1:=eF (w:=w4.drew) r0 hby1;have r1_y1:=eF (w:=w4.drew) r1 hby1;have r2_y1:=eF (w:=w4.drew) r2 hby1;have r3_y1:=eF (w:=w4.drew) r3 hby1;have HLy1:=cH (eB (Below.refl w4.heap.size w4).drew hby1);have HBy1:=cH (eB HB4.out HLy1.out);refine hK.out _ _ ⟨r0_y1,r1_y1,r2_y1,r3_y1⟩ (fun hHeld=>?_);clear hK K;refine eU sJ1 ?_
  refine sA1 2 (some 33) sB1 ?_
  refine sA1 3 (some 34) sB1 ?_
  refine sA1 4 (some 35) sB1 ?_
  refine sF1 5 (some 36) sG1 (fun K hK=>?_);refine iK Tryz.func33 bB rfl #[.string name] bK rfl rfl bG ?_
  with_reducible refine ((CPP.out _)).mono ?_
  rintro e y2 ⟨rfl,hby2⟩;refine ⟨_,rfl,?_⟩;have r0_y2:=eF (w:=y1) r0_y1 hby2;have r1_y2:=eF (w:=y1) r1_y1 hby2;have r2_y2:=eF (w:=y1) r2_y1 hby2;have r3_y2:=eF (w:=y1) r3_y1 hby2;have HLy2:=cH (eB HLy1.out hby2);have HBy2:=cH (eB HB4.out HLy2.out);refine hK.out _ _ ⟨r0_y2,r1_y2,r2_y2,r3_y2⟩ (fun hHeld=>?_);clear hK K;refine eU sJ1 ?_
  refine sA1 6 (some 37) sB1 ?_
  refine sA1 7 (some 38) sB1 ?_
  refine sA1 8 (some 39) sB1 ?_
  refine sA1 9 (some 40) sB1 ?_
  refine sA1 10 (some 41) sB1 ?_
  refine sA1 11 (some 42) sB1 ?_
  refine sA1 12 (some 43) sB1 ?_
  refine sM1 13 (some 44) sN1 ?_
  refine sM1 14 (some 45) sN1 ?_
  refine sA1 15 (some 46) sB1 ?_
  refine sA1 16 (some 47) sB1 ?_
  refine sM1 17 (some 48) sN1 ?_
  refine sM1 18 (some 49) sN1 ?_
  refine sM1 19 (some 50) sN1 ?_
  refine sM1 20 (some 51) sN1 ?_
  refine sM1 21 (some 52) sN1 ?_
  refine sA1 22 (some 53) sB1 ?_
  refine sA1 23 (some 54) sB1 ?_
  refine sM1 24 (some 55) sN1 ?_
  refine sM1 25 (some 56) sN1 ?_
  refine sM1 26 (some 57) sN1 ?_
  refine sM1 27 (some 58) sN1 ?_
  refine sM1 28 (some 59) sN1 ?_
  refine sM1 29 (some 60) sN1 ?_
  refine sM1 30 (some 61) sN1 ?_
  refine sA1 31 (some 62) sB1 ?_
  refine sA1 32 (some 63) sB1 ?_
  refine sM1 33 (some 64) sN1 ?_
  refine sM1 34 (some 65) sN1 ?_
  refine sM1 35 (some 66) sN1 ?_
  refine sM1 36 (some 67) sN1 ?_
  refine sM1 37 (some 68) sN1 ?_
  refine sM1 38 (some 69) sN1 ?_
  refine sM1 39 (some 70) sN1 ?_
  refine sM1 40 (some 71) sN1 ?_
  refine sA1 41 (some 72) sB1 ?_
  refine iY bB ?_;clear hHeld r0 r1 r2 r3 r0_y1 r1_y1 r2_y1 r3_y1 hby1 r0_y2 r1_y2 r2_y2 r3_y2 hby2;go_wp2_with fail
  go_ret;exact ⟨rfl,HBy2.out⟩
 have hgo:=trivial
 obtain ⟨bl0,hl0⟩:∃ b,decide (lang < 0)=b:=⟨_,rfl⟩
 cases bl0;rotate_left
 ·go_upto_region 4 with fail
  refine iH (n:=42) (S:=fun w'=>w'.cell? ⟨w.heap.size,0,none⟩=some (.slice Al st.langs.length cl)∧w'.cell? ⟨w.heap.size,1,none⟩=some (.slice Ad st.dis.length cd)∧w'.cell? ⟨w.heap.size,2,none⟩=some (.slice Af st.fmts.length cf)∧w'.cell? ⟨w.heap.size,3,none⟩=some (.slice Ac st.cont.length cc)) (ds:=[]) _ bB rfl rfl ⟨r0,r1,r2,r3⟩ (fun hHeld=>?_)
  refine sA1 0 (some 31) sB1 ?_
  refine sF1 1 (some 32) sG1 (fun K hK=>?_);refine iK Tryz.func26 bB rfl #[.slice Ax dirs.length cx] bK rfl rfl bG ?_
  with_reducible refine (CPD.out).mono ?_
  rintro e y1 ⟨rfl,hby1⟩;refine ⟨_,rfl,?_⟩;have r0_y1:=eF (w:=w4.drew) r0 hby1;have r1_y1:=eF (w:=w4.drew) r1 hby1;have r2_y1:=eF (w:=w4.drew) r2 hby1;have r3_y1:=eF (w:=w4.drew) r3 hby1;have HLy1:=cH (eB (Below.refl w4.heap.size w4).drew hby1);have HBy1:=cH (eB HB4.out HLy1.out);refine hK.out _ _ ⟨r0_y1,r1_y1,r2_y1,r3_y1⟩ (fun hHeld=>?_);clear hK K;refine eU sJ1 ?_
  refine sA1 2 (some 33) sB1 ?_
  refine sA1 3 (some 34) sB1 ?_
  refine sA1 4 (some 35) sB1 ?_
  refine sF1 5 (some 36) sG1 (fun K hK=>?_);refine iK Tryz.func33 bB rfl #[.string name] bK rfl rfl bG ?_
  with_reducible refine ((CPP.out _)).mono ?_
  rintro e y2 ⟨rfl,hby2⟩;refine ⟨_,rfl,?_⟩;have r0_y2:=eF (w:=y1) r0_y1 hby2;have r1_y2:=eF (w:=y1) r1_y1 hby2;have r2_y2:=eF (w:=y1) r2_y1 hby2;have r3_y2:=eF (w:=y1) r3_y1 hby2;have HLy2:=cH (eB HLy1.out hby2);have HBy2:=cH (eB HB4.out HLy2.out);refine hK.out _ _ ⟨r0_y2,r1_y2,r2_y2,r3_y2⟩ (fun hHeld=>?_);clear hK K;refine eU sJ1 ?_
  refine sA1 6 (some 37) sB1 ?_
  refine sA1 7 (some 38) sB1 ?_
  refine sA1 8 (some 39) sB1 ?_
  refine sA1 9 (some 40) sB1 ?_
  refine sA1 10 (some 41) sB1 ?_
  refine sA1 11 (some 42) sB1 ?_
  refine sA1 12 (some 43) sB1 ?_
  refine sA1 13 (some 44) sB1 ?_
  refine sA1 14 (some 45) sB1 ?_
  refine sA1 15 (some 46) sB1 ?_
  refine sA1 16 (some 47) sB1 ?_
  refine sM1 17 (some 48) sN1 ?_
  refine sM1 18 (some 49) sN1 ?_
  refine sM1 19 (some 50) sN1 ?_
  refine sM1 20 (some 51) sN1 ?_
  refine sM1 21 (some 52) sN1 ?_
  refine sA1 22 (some 53) sB1 ?_
  refine sA1 23 (some 54) sB1 ?_
  refine sM1 24 (some 55) sN1 ?_
  refine sM1 25 (some 56) sN1 ?_
  refine sM1 26 (some 57) sN1 ?_
  refine sM1 27 (some 58) sN1 ?_
  refine sM1 28 (some 59) sN1 ?_
  refine sM1 29 (some 60) sN1 ?_
  refine sM1 30 (some 61) sN1 ?_
  refine sA1 31 (some 62) sB1 ?_
  refine sA1 32 (some 63) sB1 ?_
  refine sM1 33 (some 64) sN1 ?_
  refine sM1 34 (some 65) sN1 ?_
  refine sM1 35 (some 66) sN1 ?_
  refine sM1 36 (some 67) sN1 ?_
  refine sM1 37 (some 68) sN1 ?_
  refine sM1 38 (some 69) sN1 ?_
  refine sM1 39 (some 70) sN1 ?_
  refine sM1 40 (some 71) sN1 ?_
  refine sA1 41 (some 72) sB1 ?_
  refine iY bB ?_;clear hHeld r0 r1 r2 r3 r0_y1 r1_y1 r2_y1 r3_y1 hby1 r0_y2 r1_y2 r2_y2 r3_y2 hby2;go_wp2_with fail
  go_ret;exact ⟨rfl,HBy2.out⟩
 have hgo:=trivial;have hl0' : ¬ lang < 0:=of_decide_eq_false hl0
 obtain ⟨bl1,hl1⟩:∃ b,decide ((st.dis.length:Int)≤lang)=b:=⟨_,rfl⟩
 cases bl1;rotate_left
 ·go_upto_region 4 with fail
  refine iH (n:=42) (S:=fun w'=>w'.cell? ⟨w.heap.size,0,none⟩=some (.slice Al st.langs.length cl)∧w'.cell? ⟨w.heap.size,1,none⟩=some (.slice Ad st.dis.length cd)∧w'.cell? ⟨w.heap.size,2,none⟩=some (.slice Af st.fmts.length cf)∧w'.cell? ⟨w.heap.size,3,none⟩=some (.slice Ac st.cont.length cc)) (ds:=[]) _ bB rfl rfl ⟨r0,r1,r2,r3⟩ (fun hHeld=>?_)
  refine sA1 0 (some 31) sB1 ?_
  refine sF1 1 (some 32) sG1 (fun K hK=>?_);refine iK Tryz.func26 bB rfl #[.slice Ax dirs.length cx] bK rfl rfl bG ?_
  with_reducible refine (CPD.out).mono ?_
  rintro e y1 ⟨rfl,hby1⟩;refine ⟨_,rfl,?_⟩;have r0_y1:=eF (w:=w4.drew) r0 hby1;have r1_y1:=eF (w:=w4.drew) r1 hby1;have r2_y1:=eF (w:=w4.drew) r2 hby1;have r3_y1:=eF (w:=w4.drew) r3 hby1;have HLy1:=cH (eB (Below.refl w4.heap.size w4).drew hby1);have HBy1:=cH (eB HB4.out HLy1.out);refine hK.out _ _ ⟨r0_y1,r1_y1,r2_y1,r3_y1⟩ (fun hHeld=>?_);clear hK K;refine eU sJ1 ?_
  refine sA1 2 (some 33) sB1 ?_
  refine sA1 3 (some 34) sB1 ?_
  refine sA1 4 (some 35) sB1 ?_
  refine sF1 5 (some 36) sG1 (fun K hK=>?_);refine iK Tryz.func33 bB rfl #[.string name] bK rfl rfl bG ?_
  with_reducible refine ((CPP.out _)).mono ?_
  rintro e y2 ⟨rfl,hby2⟩;refine ⟨_,rfl,?_⟩;have r0_y2:=eF (w:=y1) r0_y1 hby2;have r1_y2:=eF (w:=y1) r1_y1 hby2;have r2_y2:=eF (w:=y1) r2_y1 hby2;have r3_y2:=eF (w:=y1) r3_y1 hby2;have HLy2:=cH (eB HLy1.out hby2);have HBy2:=cH (eB HB4.out HLy2.out);refine hK.out _ _ ⟨r0_y2,r1_y2,r2_y2,r3_y2⟩ (fun hHeld=>?_);clear hK K;refine eU sJ1 ?_
  refine sA1 6 (some 37) sB1 ?_
  refine sA1 7 (some 38) sB1 ?_
  refine sA1 8 (some 39) sB1 ?_
  refine sA1 9 (some 40) sB1 ?_
  refine sA1 10 (some 41) sB1 ?_
  refine sA1 11 (some 42) sB1 ?_
  refine sA1 12 (some 43) sB1 ?_
  refine sA1 13 (some 44) sB1 ?_
  refine sA1 14 (some 45) sB1 ?_
  refine sA1 15 (some 46) sB1 ?_
  refine sA1 16 (some 47) sB1 ?_
  refine sA1 17 (some 48) sB1 ?_
  refine sA1 18 (some 49) sB1 ?_
  refine sC1 19 (some 50) sO1 ?_
  refine sA1 20 (some 51) sB1 ?_
  refine sA1 21 (some 52) sB1 ?_
  refine sA1 22 (some 53) sB1 ?_
  refine sA1 23 (some 54) sB1 ?_
  refine sM1 24 (some 55) sN1 ?_
  refine sM1 25 (some 56) sN1 ?_
  refine sM1 26 (some 57) sN1 ?_
  refine sM1 27 (some 58) sN1 ?_
  refine sM1 28 (some 59) sN1 ?_
  refine sM1 29 (some 60) sN1 ?_
  refine sM1 30 (some 61) sN1 ?_
  refine sA1 31 (some 62) sB1 ?_
  refine sA1 32 (some 63) sB1 ?_
  refine sM1 33 (some 64) sN1 ?_
  refine sM1 34 (some 65) sN1 ?_
  refine sM1 35 (some 66) sN1 ?_
  refine sM1 36 (some 67) sN1 ?_
  refine sM1 37 (some 68) sN1 ?_
  refine sM1 38 (some 69) sN1 ?_
  refine sM1 39 (some 70) sN1 ?_
  refine sM1 40 (some 71) sN1 ?_
  refine sA1 41 (some 72) sB1 ?_
  refine iY bB ?_;clear hHeld r0 r1 r2 r3 r0_y1 r1_y1 r2_y1 r3_y1 hby1 r0_y2 r1_y2 r2_y2 r3_y2 hby2;go_wp2_with fail
  go_ret;exact ⟨rfl,HBy2.out⟩
 have hgo:=trivial
 obtain ⟨i,rfl⟩:∃ i:Nat,lang=(i:Int):=⟨lang.toNat,aQ⟩
 have hi:i < st.dis.length:=by have:=of_decide_eq_false hl1;omega
 obtain ⟨A9,c9,e9,hc9,hp9⟩:=(HSA.out.below HB4.out).d;injection e9 with e91 e92 e93
 obtain ⟨g9,o9,ea9,_,hh9⟩:=hp9 bA;have hx:=hh9 i hi
 obtain ⟨dl,hdl⟩:∃ x,st.dis[i]'hi=x:=⟨_,rfl⟩
 have zdl:dl.size≤4000000000:=hdl▸(jQ HFT.out).dz _ (List.getElem_mem hi);have HIN:=cH (show dl∈st.dis by rw[← hdl];exact List.getElem_mem hi);rw[hdl] at hx;obtain rfl:Ad=some ⟨g9,o9,none⟩:=by rw[← ea9];exact e91
 have yi1:(0:Int)≤(i:Int):=by omega
 have yi2:(i:Int) < (st.dis.length:Int):=by omega
 have yi3:((i:Int)).toNat=i:=Int.toNat_natCast i;have HX:=cH hx;have hl2:decide (st.dis.length≤i)=false:=decide_eq_false bA;have hl3:decide ((i:Int) < 0)=false:=decide_eq_false bA;obtain ⟨pl,hpl,cpl⟩:=nQ dl bA;have HP2:=cH hpl;have CPL:=cH cpl
 obtain ⟨bl,hbl⟩:∃ b,listed st.langs dl=b:=⟨_,rfl⟩
 have HBL:=cH hbl;clear hdl e91 e92 e93 ea9 hh9 hp9 hpl cpl hbl;cases pl
 ·go_upto_region 4 with fail
  refine iH (n:=42) (S:=fun w'=>w'.cell? ⟨w.heap.size,0,none⟩=some (.slice Al st.langs.length cl)∧w'.cell? ⟨w.heap.size,1,none⟩=some (.slice (some ⟨g9,o9,none⟩) st.dis.length cd)∧w'.cell? ⟨w.heap.size,2,none⟩=some (.slice Af st.fmts.length cf)∧w'.cell? ⟨w.heap.size,3,none⟩=some (.slice Ac st.cont.length cc)∧w'.cell? ⟨g9,o9+i,none⟩=some (.string dl)) (ds:=[]) _ bB rfl rfl ⟨r0,r1,r2,r3,hx⟩ (fun hHeld=>?_)
  refine sA1 0 (some 31) sB1 ?_
  refine sF1 1 (some 32) sG1 (fun K hK=>?_);refine iK Tryz.func26 bB rfl #[.slice Ax dirs.length cx] bK rfl rfl bG ?_
  with_reducible refine (CPD.out).mono ?_
  rintro e y1 ⟨rfl,hby1⟩;refine ⟨_,rfl,?_⟩;have r0_y1:=eF (w:=w4.drew) r0 hby1;have r1_y1:=eF (w:=w4.drew) r1 hby1;have r2_y1:=eF (w:=w4.drew) r2 hby1;have r3_y1:=eF (w:=w4.drew) r3 hby1;have hx_y1:=eF (w:=w4.drew) hx hby1;have HLy1:=cH (eB (Below.refl w4.heap.size w4).drew hby1);have HBy1:=cH (eB HB4.out HLy1.out);refine hK.out _ _ ⟨r0_y1,r1_y1,r2_y1,r3_y1,hx_y1⟩ (fun hHeld=>?_);clear hK K;refine eU sJ1 ?_
  refine sA1 2 (some 33) sB1 ?_
  refine sA1 3 (some 34) sB1 ?_
  refine sA1 4 (some 35) sB1 ?_
  refine sF1 5 (some 36) sG1 (fun K hK=>?_);refine iK Tryz.func33 bB rfl #[.string name] bK rfl rfl bG ?_
  with_reducible refine ((CPP.out _)).mono ?_
  rintro e y2 ⟨rfl,hby2⟩;refine ⟨_,rfl,?_⟩;have r0_y2:=eF (w:=y1) r0_y1 hby2;have r1_y2:=eF (w:=y1) r1_y1 hby2;have r2_y2:=eF (w:=y1) r2_y1 hby2;have r3_y2:=eF (w:=y1) r3_y1 hby2;have hx_y2:=eF (w:=y1) hx_y1 hby2;have HLy2:=cH (eB HLy1.out hby2);have HBy2:=cH (eB HB4.out HLy2.out);refine hK.out _ _ ⟨r0_y2,r1_y2,r2_y2,r3_y2,hx_y2⟩ (fun hHeld=>?_);clear hK K;refine eU sJ1 ?_
  refine sA1 6 (some 37) sB1 ?_
  refine sA1 7 (some 38) sB1 ?_
  refine sA1 8 (some 39) sB1 ?_
  refine sA1 9 (some 40) sB1 ?_
  refine sA1 10 (some 41) sB1 ?_
  refine sA1 11 (some 42) sB1 ?_
  refine sA1 12 (some 43) sB1 ?_
  refine sA1 13 (some 44) sB1 ?_
  refine sA1 14 (some 45) sB1 ?_
  refine sA1 15 (some 46) sB1 ?_
  refine sA1 16 (some 47) sB1 ?_
  refine sA1 17 (some 48) sB1 ?_
  refine sA1 18 (some 49) sB1 ?_
  refine sC1 19 (some 50) sL1 ?_
  refine sA1 20 (some 51) sB1 ?_
  refine sA1 21 (some 52) sB1 ?_
  refine sA1 22 (some 53) sB1 ?_
  refine sA1 23 (some 54) sB1 ?_
  refine sA1 24 (some 55) sB1 ?_
  refine sA1 26 (some 57) sB1 ?_
  refine sC1 25 (some 56) sL1 ?_
  refine sA1 27 (some 58) sB1 ?_
  refine sC1 28 (some 59) sL1 ?_
  refine sF1 29 (some 60) sG1 (fun K hK=>?_);refine iK Tryz.func33 bB rfl #[.string dl] bK rfl rfl bG ?_
  with_reducible refine ((CPL.out _)).mono ?_
  rintro e y3 ⟨rfl,hby3⟩;refine ⟨_,rfl,?_⟩;have r0_y3:=eF (w:=y2) r0_y2 hby3;have r1_y3:=eF (w:=y2) r1_y2 hby3;have r2_y3:=eF (w:=y2) r2_y2 hby3;have r3_y3:=eF (w:=y2) r3_y2 hby3;have hx_y3:=eF (w:=y2) hx_y2 hby3;have HLy3:=cH (eB HLy2.out hby3);have HBy3:=cH (eB HB4.out HLy3.out);refine hK.out _ _ ⟨r0_y3,r1_y3,r2_y3,r3_y3,hx_y3⟩ (fun hHeld=>?_);clear hK K;refine eU sJ1 ?_
  refine sA1 30 (some 61) sB1 ?_
  refine sA1 31 (some 62) sB1 ?_
  refine sA1 32 (some 63) sB1 ?_
  refine sM1 33 (some 64) sN1 ?_
  refine sM1 34 (some 65) sN1 ?_
  refine sM1 35 (some 66) sN1 ?_
  refine sM1 36 (some 67) sN1 ?_
  refine sM1 37 (some 68) sN1 ?_
  refine sM1 38 (some 69) sN1 ?_
  refine sM1 39 (some 70) sN1 ?_
  refine sM1 40 (some 71) sN1 ?_
  refine sA1 41 (some 72) sB1 ?_
  refine iY bB ?_;clear hHeld r0 r1 r2 r3 hx r0_y1 r1_y1 r2_y1 r3_y1 hx_y1 hby1 r0_y2 r1_y2 r2_y2 r3_y2 hx_y2 hby2 r0_y3 r1_y3 r2_y3 r3_y3 hx_y3 hby3;go_wp2_with fail
  go_ret;exact ⟨rfl,HBy3.out⟩
 have hgo:=trivial;cases bl;rotate_left
 ·go_upto_region 4 with fail
  refine iH (n:=42) (S:=fun w'=>w'.cell? ⟨w.heap.size,0,none⟩=some (.slice Al st.langs.length cl)∧w'.cell? ⟨w.heap.size,1,none⟩=some (.slice (some ⟨g9,o9,none⟩) st.dis.length cd)∧w'.cell? ⟨w.heap.size,2,none⟩=some (.slice Af st.fmts.length cf)∧w'.cell? ⟨w.heap.size,3,none⟩=some (.slice Ac st.cont.length cc)∧w'.cell? ⟨g9,o9+i,none⟩=some (.string dl)) (ds:=[]) _ bB rfl rfl ⟨r0,r1,r2,r3,hx⟩ (fun hHeld=>?_)
  refine sA1 0 (some 31) sB1 ?_
  refine sF1 1 (some 32) sG1 (fun K hK=>?_);refine iK Tryz.func26 bB rfl #[.slice Ax dirs.length cx] bK rfl rfl bG ?_
  with_reducible refine (CPD.out).mono ?_
  rintro e y1 ⟨rfl,hby1⟩;refine ⟨_,rfl,?_⟩;have r0_y1:=eF (w:=w4.drew) r0 hby1;have r1_y1:=eF (w:=w4.drew) r1 hby1;have r2_y1:=eF (w:=w4.drew) r2 hby1;have r3_y1:=eF (w:=w4.drew) r3 hby1;have hx_y1:=eF (w:=w4.drew) hx hby1;have HLy1:=cH (eB (Below.refl w4.heap.size w4).drew hby1);have HBy1:=cH (eB HB4.out HLy1.out);refine hK.out _ _ ⟨r0_y1,r1_y1,r2_y1,r3_y1,hx_y1⟩ (fun hHeld=>?_);clear hK K;refine eU sJ1 ?_
  refine sA1 2 (some 33) sB1 ?_
  refine sA1 3 (some 34) sB1 ?_
  refine sA1 4 (some 35) sB1 ?_
  refine sF1 5 (some 36) sG1 (fun K hK=>?_);refine iK Tryz.func33 bB rfl #[.string name] bK rfl rfl bG ?_
  with_reducible refine ((CPP.out _)).mono ?_
  rintro e y2 ⟨rfl,hby2⟩;refine ⟨_,rfl,?_⟩;have r0_y2:=eF (w:=y1) r0_y1 hby2;have r1_y2:=eF (w:=y1) r1_y1 hby2;have r2_y2:=eF (w:=y1) r2_y1 hby2;have r3_y2:=eF (w:=y1) r3_y1 hby2;have hx_y2:=eF (w:=y1) hx_y1 hby2;have HLy2:=cH (eB HLy1.out hby2);have HBy2:=cH (eB HB4.out HLy2.out);refine hK.out _ _ ⟨r0_y2,r1_y2,r2_y2,r3_y2,hx_y2⟩ (fun hHeld=>?_);clear hK K;refine eU sJ1 ?_
  refine sA1 6 (some 37) sB1 ?_
  refine sA1 7 (some 38) sB1 ?_
  refine sA1 8 (some 39) sB1 ?_
  refine sA1 9 (some 40) sB1 ?_
  refine sA1 10 (some 41) sB1 ?_
  refine sA1 11 (some 42) sB1 ?_
  refine sA1 12 (some 43) sB1 ?_
  refine sA1 13 (some 44) sB1 ?_
  refine sA1 14 (some 45) sB1 ?_
  refine sA1 15 (some 46) sB1 ?_
  refine sA1 16 (some 47) sB1 ?_
  refine sA1 17 (some 48) sB1 ?_
  refine sA1 18 (some 49) sB1 ?_
  refine sC1 19 (some 50) sL1 ?_
  refine sA1 20 (some 51) sB1 ?_
  refine sA1 21 (some 52) sB1 ?_
  refine sA1 22 (some 53) sB1 ?_
  refine sA1 23 (some 54) sB1 ?_
  refine sA1 24 (some 55) sB1 ?_
  refine sA1 26 (some 57) sB1 ?_
  refine sC1 25 (some 56) sL1 ?_
  refine sA1 27 (some 58) sB1 ?_
  refine sC1 28 (some 59) sL1 ?_
  refine sF1 29 (some 60) sG1 (fun K hK=>?_);refine iK Tryz.func33 bB rfl #[.string dl] bK rfl rfl bG ?_
  with_reducible refine ((CPL.out _)).mono ?_
  rintro e y3 ⟨rfl,hby3⟩;refine ⟨_,rfl,?_⟩;have r0_y3:=eF (w:=y2) r0_y2 hby3;have r1_y3:=eF (w:=y2) r1_y2 hby3;have r2_y3:=eF (w:=y2) r2_y2 hby3;have r3_y3:=eF (w:=y2) r3_y2 hby3;have hx_y3:=eF (w:=y2) hx_y2 hby3;have HLy3:=cH (eB HLy2.out hby3);have HBy3:=cH (eB HB4.out HLy3.out);have cl9:=HBL.out▸nU (HSA.out.below HBy3.out).l (HSA.out.below HBy3.out).ll dl;refine hK.out _ _ ⟨r0_y3,r1_y3,r2_y3,r3_y3,hx_y3⟩ (fun hHeld=>?_);clear hK K;refine eU sJ1 ?_
  refine sA1 30 (some 61) sB1 ?_
  refine sA1 31 (some 62) sB1 ?_
  refine sA1 32 (some 63) sB1 ?_
  refine sA1 33 (some 64) sB1 ?_
  refine sA1 35 (some 66) sB1 ?_
  refine sA1 37 (some 68) sB1 ?_
  refine sC1 34 (some 65) sL1 ?_
  refine sC1 36 (some 67) sL1 ?_
  refine sA1 38 (some 69) sB1 ?_
  refine sC1 39 (some 70) sL1 ?_
  refine sF1 40 (some 71) sG1 (fun K hK=>?_);refine iK Tryz.func34 bB rfl #[.slice Al st.langs.length cl,.string dl] bK rfl rfl bG ?_
  with_reducible refine (cl9).mono ?_
  rintro e y4 ⟨rfl,hby4⟩;refine ⟨_,rfl,?_⟩;have r0_y4:=eF (w:=y3) r0_y3 hby4;have r1_y4:=eF (w:=y3) r1_y3 hby4;have r2_y4:=eF (w:=y3) r2_y3 hby4;have r3_y4:=eF (w:=y3) r3_y3 hby4;have hx_y4:=eF (w:=y3) hx_y3 hby4;have HLy4:=cH (eB HLy3.out hby4);have HBy4:=cH (eB HB4.out HLy4.out);refine hK.out _ _ ⟨r0_y4,r1_y4,r2_y4,r3_y4,hx_y4⟩ (fun hHeld=>?_);clear hK K;refine eU sJ1 ?_
  refine sA1 41 (some 72) sB1 ?_
  refine iY bB ?_;clear hHeld r0 r1 r2 r3 hx r0_y1 r1_y1 r2_y1 r3_y1 hx_y1 hby1 r0_y2 r1_y2 r2_y2 r3_y2 hx_y2 hby2 r0_y3 r1_y3 r2_y3 r3_y3 hx_y3 hby3 r0_y4 r1_y4 r2_y4 r3_y4 hx_y4 hby4 cl9;go_wp2_with fail
  go_ret;exact ⟨rfl,HBy4.out⟩
 have hgo:=trivial;go_upto_region 4 with fail
 refine iH (n:=42) (S:=fun w'=>w'.cell? ⟨w.heap.size,0,none⟩=some (.slice Al st.langs.length cl)∧w'.cell? ⟨w.heap.size,1,none⟩=some (.slice (some ⟨g9,o9,none⟩) st.dis.length cd)∧w'.cell? ⟨w.heap.size,2,none⟩=some (.slice Af st.fmts.length cf)∧w'.cell? ⟨w.heap.size,3,none⟩=some (.slice Ac st.cont.length cc)∧w'.cell? ⟨g9,o9+i,none⟩=some (.string dl)) (ds:=[]) _ bB rfl rfl ⟨r0,r1,r2,r3,hx⟩ (fun hHeld=>?_)
 refine sA1 0 (some 31) sB1 ?_
 refine sF1 1 (some 32) sG1 (fun K hK=>?_);refine iK Tryz.func26 bB rfl #[.slice Ax dirs.length cx] bK rfl rfl bG ?_
 with_reducible refine (CPD.out).mono ?_
 rintro e y1 ⟨rfl,hby1⟩;refine ⟨_,rfl,?_⟩;have r0_y1:=eF (w:=w4.drew) r0 hby1;have r1_y1:=eF (w:=w4.drew) r1 hby1;have r2_y1:=eF (w:=w4.drew) r2 hby1;have r3_y1:=eF (w:=w4.drew) r3 hby1;have hx_y1:=eF (w:=w4.drew) hx hby1;have HLy1:=cH (eB (Below.refl w4.heap.size w4).drew hby1);have HBy1:=cH (eB HB4.out HLy1.out);refine hK.out _ _ ⟨r0_y1,r1_y1,r2_y1,r3_y1,hx_y1⟩ (fun hHeld=>?_);clear hK K;refine eU sJ1 ?_
 refine sA1 2 (some 33) sB1 ?_
 refine sA1 3 (some 34) sB1 ?_
 refine sA1 4 (some 35) sB1 ?_
 refine sF1 5 (some 36) sG1 (fun K hK=>?_);refine iK Tryz.func33 bB rfl #[.string name] bK rfl rfl bG ?_
 with_reducible refine ((CPP.out _)).mono ?_
 rintro e y2 ⟨rfl,hby2⟩;refine ⟨_,rfl,?_⟩;have r0_y2:=eF (w:=y1) r0_y1 hby2;have r1_y2:=eF (w:=y1) r1_y1 hby2;have r2_y2:=eF (w:=y1) r2_y1 hby2;have r3_y2:=eF (w:=y1) r3_y1 hby2;have hx_y2:=eF (w:=y1) hx_y1 hby2;have HLy2:=cH (eB HLy1.out hby2);have HBy2:=cH (eB HB4.out HLy2.out);refine hK.out _ _ ⟨r0_y2,r1_y2,r2_y2,r3_y2,hx_y2⟩ (fun hHeld=>?_);clear hK K;refine eU sJ1 ?_
 refine sA1 6 (some 37) sB1 ?_
 refine sA1 7 (some 38) sB1 ?_
 refine sA1 8 (some 39) sB1 ?_
 refine sA1 9 (some 40) sB1 ?_
 refine sA1 10 (some 41) sB1 ?_
 refine sA1 11 (some 42) sB1 ?_
 refine sA1 12 (some 43) sB1 ?_
 refine sA1 13 (some 44) sB1 ?_
 refine sA1 14 (some 45) sB1 ?_
 refine sA1 15 (some 46) sB1 ?_
 refine sA1 16 (some 47) sB1 ?_
 refine sA1 17 (some 48) sB1 ?_
 refine sA1 18 (some 49) sB1 ?_
 refine sC1 19 (some 50) sL1 ?_
 refine sA1 20 (some 51) sB1 ?_
 refine sA1 21 (some 52) sB1 ?_
 refine sA1 22 (some 53) sB1 ?_
 refine sA1 23 (some 54) sB1 ?_
 refine sA1 24 (some 55) sB1 ?_
 refine sA1 26 (some 57) sB1 ?_
 refine sC1 25 (some 56) sL1 ?_
 refine sA1 27 (some 58) sB1 ?_
 refine sC1 28 (some 59) sL1 ?_
 refine sF1 29 (some 60) sG1 (fun K hK=>?_);refine iK Tryz.func33 bB rfl #[.string dl] bK rfl rfl bG ?_
 with_reducible refine ((CPL.out _)).mono ?_
 rintro e y3 ⟨rfl,hby3⟩;refine ⟨_,rfl,?_⟩;have r0_y3:=eF (w:=y2) r0_y2 hby3;have r1_y3:=eF (w:=y2) r1_y2 hby3;have r2_y3:=eF (w:=y2) r2_y2 hby3;have r3_y3:=eF (w:=y2) r3_y2 hby3;have hx_y3:=eF (w:=y2) hx_y2 hby3;have HLy3:=cH (eB HLy2.out hby3);have HBy3:=cH (eB HB4.out HLy3.out);have cl9:=HBL.out▸nU (HSA.out.below HBy3.out).l (HSA.out.below HBy3.out).ll dl;refine hK.out _ _ ⟨r0_y3,r1_y3,r2_y3,r3_y3,hx_y3⟩ (fun hHeld=>?_);clear hK K;refine eU sJ1 ?_
 refine sA1 30 (some 61) sB1 ?_
 refine sA1 31 (some 62) sB1 ?_
 refine sA1 32 (some 63) sB1 ?_
 refine sA1 33 (some 64) sB1 ?_
 refine sA1 35 (some 66) sB1 ?_
 refine sA1 37 (some 68) sB1 ?_
 refine sC1 34 (some 65) sL1 ?_
 refine sC1 36 (some 67) sL1 ?_
 refine sA1 38 (some 69) sB1 ?_
 refine sC1 39 (some 70) sL1 ?_
 refine sF1 40 (some 71) sG1 (fun K hK=>?_);refine iK Tryz.func34 bB rfl #[.slice Al st.langs.length cl,.string dl] bK rfl rfl bG ?_
 with_reducible refine (cl9).mono ?_
 rintro e y4 ⟨rfl,hby4⟩;refine ⟨_,rfl,?_⟩;have r0_y4:=eF (w:=y3) r0_y3 hby4;have r1_y4:=eF (w:=y3) r1_y3 hby4;have r2_y4:=eF (w:=y3) r2_y3 hby4;have r3_y4:=eF (w:=y3) r3_y3 hby4;have hx_y4:=eF (w:=y3) hx_y3 hby4;have HLy4:=cH (eB HLy3.out hby4);have HBy4:=cH (eB HB4.out HLy4.out);refine hK.out _ _ ⟨r0_y4,r1_y4,r2_y4,r3_y4,hx_y4⟩ (fun hHeld=>?_);clear hK K;refine eU sJ1 ?_
 refine sA1 41 (some 72) sB1 ?_
 refine iY bB ?_;clear hHeld r0 r1 r2 r3 hx r0_y1 r1_y1 r2_y1 r3_y1 hx_y1 hby1 r0_y2 r1_y2 r2_y2 r3_y2 hx_y2 hby2 r0_y3 r1_y3 r2_y3 r3_y3 hx_y3 hby3 r0_y4 r1_y4 r2_y4 r3_y4 hx_y4 hby4 cl9;have HBz:=HBy4;have HRS13:=cH (HRS4.out.below HLy4.out (HRS4.out.lt bJ));have HX9:=cH (eF HX.out HLy4.out)
 obtain ⟨w13,hw9⟩:∃ x,x=y4:=⟨_,rfl⟩
 subst hw9;have HB13:=HBz;obtain ⟨pew,iew⟩:=Hew.out.resolve_left (fun e=>by rw[e] at hbe;exact Bool.noConfusion (hbe.symm.trans (show ((⟨#[]⟩:ByteArray).toList==[])=true by rw[L_toList];rfl)));have Pew:=cH pew;have Iew:=cH iew;clear pew iew;obtain ⟨hdp,hfew⟩:=HPD.out bL;have hfl:dirs.length+wt dirs≤2000:=by unfold fewB at hfew;exact of_decide_eq_true hfew
 have HDP:=cH hdp;have HFL:=cH hfl;have zdir:(gU dirs).size≤2000:=by rw[nT];exact hfl
 obtain ⟨dir,hdir⟩:∃ d,gU dirs=d:=⟨_,rfl⟩
 rw[hdir] at zdir;have HDIR:=cH hdir;clear hdir hdp hfew hfl;have r0:=HRS13.out.at 0 _ rfl;have r1:=HRS13.out.at 1 _ rfl;have r2:=HRS13.out.at 2 _ rfl;have r3:=HRS13.out.at 3 _ rfl;have hx9:=HX9.out
 obtain ⟨s,hs⟩:∃ x:ByteArray,(((((dir++⟨#[47]⟩)++name)++⟨#[46]⟩)++dl)++⟨#[46]⟩)++ew=x:=⟨_,rfl⟩
 have HS:=cH hs;have u1:(⟨#[47]⟩:ByteArray).size=1:=rfl;have u2:(⟨#[46]⟩:ByteArray).size=1:=rfl;have hsz:s.size≤100000000000:=by rw[← hs];simp only[size_append,u1,u2];omega
 have m1:dir.size+1≤9223372036854775807:=by omega
 have m2:(dir++⟨#[47]⟩).size+name.size≤9223372036854775807:=by rw[size_append,u1];omega
 have m3:(dir++⟨#[47]⟩++name).size+1≤9223372036854775807:=by rw[size_append,size_append,u1];omega
 have m4:(dir++⟨#[47]⟩++name++⟨#[46]⟩).size+dl.size≤9223372036854775807:=by rw[size_append,size_append,size_append,u1,u2];omega
 have m5:(dir++⟨#[47]⟩++name++⟨#[46]⟩++dl).size+1≤9223372036854775807:=by rw[size_append,size_append,size_append,size_append,u1,u2];omega
 have m6:(dir++⟨#[47]⟩++name++⟨#[46]⟩++dl++⟨#[46]⟩).size+ew.size≤9223372036854775807:=by rw[size_append,size_append,size_append,size_append,size_append,u1,u2];omega
 have z1:(dir++⟨#[47]⟩).size=dir.size+1:=by rw[size_append,u1]
 have n1:=eq_false (Nat.not_lt.2 m1);have n2:=eq_false (Nat.not_lt.2 m2);have n3:=eq_false (Nat.not_lt.2 m3);have n4:=eq_false (Nat.not_lt.2 m4);have n5:=eq_false (Nat.not_lt.2 m5);have n6:=eq_false (Nat.not_lt.2 m6);have n7:=n2;have n8:=n3;have n9:=n4;have n10:=n5;have n11:=n6;simp only[size_append,u1,u2] at n7 n8 n9 n10 n11;clear u1 u2 z1 m1 m2 m3 m4 m5 m6;have CF:Aside0 (∀ W,Below w13.heap.size w13 W→Calls Tryz.prog 28 #[.slice Ax dirs.length cx] W fun e w'=>e = .returned (.string dir)∧Below W.heap.size W w'):=cH (fun W hW=>HDIR.out▸mV (HDD.out.below (eB HB13.out hW)) bS)
 obtain ⟨comp,hcomp⟩:∃ c:ByteArray,(⟨#[99,111,110,116,101,110,116]⟩:ByteArray)=c:=⟨_,rfl⟩
 have HCOMP:=cH hcomp;have zcomp:comp.size≤2147483647:=by rw[← hcomp];decide
 obtain ⟨ok,HOK,ck⟩:=tW (HSA.out.below HB13.out) HFT.out comp s bA;replace HOK:=cH HOK
 obtain ⟨G,hG⟩:∃ G:ToldV→List ByteArray→List ByteArray→List ByteArray→Prop,(fun t l1 l2 l3=>ok=true→t=gQ (fL (eI st) comp (norm s))∧l1=iT (fL (eI st) comp (norm s))∧l2=iV (fL (eI st) comp (norm s))∧l3=kB (fL (eI st) comp (norm s)))=G:=⟨_,rfl⟩
 have HG:=cH hG
 have CK:Aside0 (∀ W,Below w13.heap.size w13 W→Calls Tryz.prog 29 #[.agg #[.slice Al st.langs.length cl,.slice (some ⟨g9,o9,none⟩) st.dis.length cd,.slice Af st.fmts.length cf,.slice Ac st.cont.length cc],.string comp,.string s] W fun e w'=>∃ t l1 l2 l3 v1 v2 v3,e = .returned (.tuple #[iB t v1 v2 v3,.bool ok])∧rI w' W.heap.size v1 v2 v3 l1 l2 l3∧G t l1 l2 l3∧Below W.heap.size W w'):=cH (fun W hW=>(ck W hW).mono (by
  rintro e w' ⟨t,l1,l2,l3,v1,v2,v3,e1,h1,h2,h3⟩
  exact ⟨t,l1,l2,l3,v1,v2,v3,e1,h1,hG▸h2,h3⟩))
 clear ck hG;rw[← hcomp] at CK;clear hcomp
 obtain ⟨x1,p,hx1,hp'⟩:∃ (x1:Value) (p:Nat),x1=x1∧p=p:=⟨undef,0,rfl,rfl⟩
 clear hx1 hp';have HN:Aside0 (KN w13 G false false (x1,p) w13.drew):=cH (KN.start (Below.refl _ _).drew _);go_upto_region 7 with fail
 refine iH (n:=19) (S:=fun w'=>w'.cell? ⟨w.heap.size,0,none⟩=some (.slice Al st.langs.length cl)∧w'.cell? ⟨w.heap.size,1,none⟩=some (.slice (some ⟨g9,o9,none⟩) st.dis.length cd)∧w'.cell? ⟨w.heap.size,2,none⟩=some (.slice Af st.fmts.length cf)∧w'.cell? ⟨w.heap.size,3,none⟩=some (.slice Ac st.cont.length cc)) (ds:=[17]) _ bB rfl rfl ⟨r0,r1,r2,r3⟩ (fun hHeld=>?_);refine sA1 1 (some 80) sB1 ?_
 refine sA1 4 (some 83) sB1 ?_
 refine sA1 7 (some 86) sB1 ?_
 refine sA1 10 (some 89) sB1 ?_
 refine sC1 0 (some 79) sO1 ?_
 refine nY (σ:=Value×Nat) 2 #[true,true,true,true,true,true,true,true,true,true,true,true,true,true,true,true,true,false,false] (fun s_=>[(81,.string dir),(82,.string (dir++⟨#[47]⟩)),(84,.string (dir++⟨#[47]⟩++name)),(85,.string (dir++⟨#[47]⟩++name++⟨#[46]⟩)),(87,.string (dir++⟨#[47]⟩++name++⟨#[46]⟩++dl)),(88,.string (dir++⟨#[47]⟩++name++⟨#[46]⟩++dl++⟨#[46]⟩)),(90,.string s),(91,.tuple #[s_.1,.bool ok]),(78,.tuple #[s_.1,.bool ok]),(92,s_.1),(93,.bool ok),(13,.pointer (some ⟨s_.2,0,none⟩))]) (fun s_ w'=>(w'.cell? ⟨w.heap.size,0,none⟩=some (.slice Al st.langs.length cl)∧w'.cell? ⟨w.heap.size,1,none⟩=some (.slice (some ⟨g9,o9,none⟩) st.dis.length cd)∧w'.cell? ⟨w.heap.size,2,none⟩=some (.slice Af st.fmts.length cf)∧w'.cell? ⟨w.heap.size,3,none⟩=some (.slice Ac st.cont.length cc))∧KN w13 G true true s_ w') ?_ ?_
 rotate_left
 ·intro hJ2_12_16
  refine nY (σ:=Value×Nat) 3 #[true,true,true,true,true,true,true,true,true,true,true,true,true,true,true,true,false,false,false] (fun s_=>[(81,.string dir),(82,.string (dir++⟨#[47]⟩)),(84,.string (dir++⟨#[47]⟩++name)),(85,.string (dir++⟨#[47]⟩++name++⟨#[46]⟩)),(87,.string (dir++⟨#[47]⟩++name++⟨#[46]⟩++dl)),(88,.string (dir++⟨#[47]⟩++name++⟨#[46]⟩++dl++⟨#[46]⟩)),(90,.string s),(91,.tuple #[s_.1,.bool ok]),(78,.tuple #[s_.1,.bool ok]),(92,s_.1),(93,.bool ok)]) (fun s_ w'=>(w'.cell? ⟨w.heap.size,0,none⟩=some (.slice Al st.langs.length cl)∧w'.cell? ⟨w.heap.size,1,none⟩=some (.slice (some ⟨g9,o9,none⟩) st.dis.length cd)∧w'.cell? ⟨w.heap.size,2,none⟩=some (.slice Af st.fmts.length cf)∧w'.cell? ⟨w.heap.size,3,none⟩=some (.slice Ac st.cont.length cc))∧KN w13 G true false s_ w') ?_ ?_
  rotate_left
  ·intro hJ2_12
   refine nY (σ:=Value×Nat) 6 #[true,true,true,true,true,true,true,true,true,true,true,true,false,false,false,false,true,false,false] (fun s_=>[(81,.string dir),(82,.string (dir++⟨#[47]⟩)),(84,.string (dir++⟨#[47]⟩++name)),(85,.string (dir++⟨#[47]⟩++name++⟨#[46]⟩)),(87,.string (dir++⟨#[47]⟩++name++⟨#[46]⟩++dl)),(88,.string (dir++⟨#[47]⟩++name++⟨#[46]⟩++dl++⟨#[46]⟩)),(90,.string s),(13,.pointer (some ⟨s_.2,0,none⟩))]) (fun s_ w'=>(w'.cell? ⟨w.heap.size,0,none⟩=some (.slice Al st.langs.length cl)∧w'.cell? ⟨w.heap.size,1,none⟩=some (.slice (some ⟨g9,o9,none⟩) st.dis.length cd)∧w'.cell? ⟨w.heap.size,2,none⟩=some (.slice Af st.fmts.length cf)∧w'.cell? ⟨w.heap.size,3,none⟩=some (.slice Ac st.cont.length cc))∧KN w13 G false true s_ w') ?_ ?_
   rotate_left
   ·intro hJ2_16;refine nY (σ:=Value×Nat) 7 #[true,true,true,true,true,true,true,true,true,true,true,true,false,false,false,false,false,false,false] (fun s_=>[(81,.string dir),(82,.string (dir++⟨#[47]⟩)),(84,.string (dir++⟨#[47]⟩++name)),(85,.string (dir++⟨#[47]⟩++name++⟨#[46]⟩)),(87,.string (dir++⟨#[47]⟩++name++⟨#[46]⟩++dl)),(88,.string (dir++⟨#[47]⟩++name++⟨#[46]⟩++dl++⟨#[46]⟩)),(90,.string s)]) (fun s_ w'=>(w'.cell? ⟨w.heap.size,0,none⟩=some (.slice Al st.langs.length cl)∧w'.cell? ⟨w.heap.size,1,none⟩=some (.slice (some ⟨g9,o9,none⟩) st.dis.length cd)∧w'.cell? ⟨w.heap.size,2,none⟩=some (.slice Af st.fmts.length cf)∧w'.cell? ⟨w.heap.size,3,none⟩=some (.slice Ac st.cont.length cc))∧KN w13 G false false s_ w') ?_ ?_;rotate_left
    ·intro hJ2;refine nY (σ:=Value×Nat) 13 #[true,true,false,false,true,false,false,true,false,false,true,false,false,false,false,false,true,false,false] (fun s_=>[(13,.pointer (some ⟨s_.2,0,none⟩))]) (fun s_ w'=>(w'.cell? ⟨w.heap.size,0,none⟩=some (.slice Al st.langs.length cl)∧w'.cell? ⟨w.heap.size,1,none⟩=some (.slice (some ⟨g9,o9,none⟩) st.dis.length cd)∧w'.cell? ⟨w.heap.size,2,none⟩=some (.slice Af st.fmts.length cf)∧w'.cell? ⟨w.heap.size,3,none⟩=some (.slice Ac st.cont.length cc))∧KN w13 G false true s_ w') ?_ ?_;rotate_left
     ·intro hJ16;refine zZ (i:=2) (j:=16) (Ni:=some 81) (Nj:=some 13) #[true,true,true,false,true,false,false,true,false,false,true,false,false,false,false,false,false,false,false] #[true,true,false,false,true,false,false,true,false,false,true,false,false,false,false,false,true,false,false] rfl rfl rfl rfl bB bH bH (fun K hK=>?_) (fun K hK=>?_)
      ·skip
       refine iK Tryz.func28 bB rfl #[.slice Ax dirs.length cx] bK rfl rfl bG ?_
       with_reducible refine ((CF.out _ HN.out.below)).mono ?_
       rintro e wm ⟨rfl,hb⟩;refine ⟨_,rfl,?_⟩;replace HN:=cH (HN.out.grow hb);refine hK.out _ _ ⟨(eF (w:=w13.drew) hHeld.1 hb),(eF (w:=w13.drew) hHeld.2.1 hb),(eF (w:=w13.drew) hHeld.2.2.1 hb),(eF (w:=w13.drew) hHeld.2.2.2 hb)⟩ (fun hHeld=>?_);clear hK K;refine eU sJ1 ?_
       refine sA1 3 (some 82) sB1 ?_
       refine sA1 5 (some 84) sB1 ?_
       refine sA1 6 (some 85) sB1 ?_
       refine sA1 8 (some 87) sB1 ?_
       refine sA1 9 (some 88) sB1 ?_
       refine sA1 11 (some 90) sB1 ?_
       exact eU bF (hJ2 (x1,p) _ ⟨hHeld,HN.out⟩)
      skip
      refine jP (w1:=?_) (v:=?_) bK rfl ?_ ?_;rotate_left 2
      ·go_simp;constructor
       ·rfl
       rfl
      have hb:Below w13.drew.heap.size w13.drew (w13.drew.alloc (.cells fY.toArray 35)):=(Below.refl _ _).alloc (Nat.le_refl _) _;replace HN:=cH HN.out.cell;refine hK.out _ _ ⟨(eF (w:=w13.drew) hHeld.1 hb),(eF (w:=w13.drew) hHeld.2.1 hb),(eF (w:=w13.drew) hHeld.2.2.1 hb),(eF (w:=w13.drew) hHeld.2.2.2 hb)⟩ (fun hHeld=>?_);clear hK K;refine eU sJ1 ?_
      exact eU bF (hJ16 (x1,w13.drew.heap.size) _ ⟨hHeld,HN.out⟩)
     skip
     rintro ⟨x1,p⟩ wn ⟨hHeld,hN⟩;replace HN:=cH hN;clear hN;refine eU (a':=?_) ?_ ?_;rotate_left
     ·simp only[lV,Act.put,List.setIfInBounds_toArray,List.set_cons_zero,List.set_cons_succ];rfl
     refine sF1 2 (some 81) sG1 (fun K hK=>?_);refine iK Tryz.func28 bB rfl #[.slice Ax dirs.length cx] bK rfl rfl bG ?_
     with_reducible refine ((CF.out _ HN.out.below)).mono ?_
     rintro e wm ⟨rfl,hb⟩;refine ⟨_,rfl,?_⟩;replace HN:=cH (HN.out.grow hb);refine hK.out _ _ ⟨(eF (w:=wn) hHeld.1 hb),(eF (w:=wn) hHeld.2.1 hb),(eF (w:=wn) hHeld.2.2.1 hb),(eF (w:=wn) hHeld.2.2.2 hb)⟩ (fun hHeld=>?_);clear hK K;refine eU sJ1 ?_
     refine sA1 3 (some 82) sB1 ?_
     refine sA1 5 (some 84) sB1 ?_
     refine sA1 6 (some 85) sB1 ?_
     refine sA1 8 (some 87) sB1 ?_
     refine sA1 9 (some 88) sB1 ?_
     refine sA1 11 (some 90) sB1 ?_
     exact eU bF (hJ2_16 (x1,p) _ ⟨hHeld,HN.out⟩)
    skip
    rintro ⟨x1,p⟩ wn ⟨hHeld,hN⟩;replace HN:=cH hN;clear hN;refine eU (a':=?_) ?_ ?_;rotate_left
    ·simp only[lV,Act.put,List.setIfInBounds_toArray,List.set_cons_zero,List.set_cons_succ];rfl
    refine zZ (i:=12) (j:=16) (Ni:=some 91) (Nj:=some 13) #[true,true,true,true,true,true,true,true,true,true,true,true,true,false,false,false,false,false,false] #[true,true,true,true,true,true,true,true,true,true,true,true,false,false,false,false,true,false,false] rfl rfl rfl rfl bB bH bH (fun K hK=>?_) (fun K hK=>?_)
    ·skip
     refine iK Tryz.func29 bB rfl #[.agg #[.slice Al st.langs.length cl,.slice (some ⟨g9,o9,none⟩) st.dis.length cd,.slice Af st.fmts.length cf,.slice Ac st.cont.length cc],.string ⟨#[99,111,110,116,101,110,116]⟩,.string s] bK rfl rfl bG ?_
     with_reducible refine ((CK.out _ HN.out.below)).mono ?_
     rintro e wm ⟨t,l1,l2,l3,v1,v2,v3,rfl,hs9,hg9,hb⟩;refine ⟨_,rfl,?_⟩;replace HN:=cH (HN.out.know hb hs9 hg9);clear hs9 hg9;refine hK.out _ _ ⟨(eF (w:=wn) hHeld.1 hb),(eF (w:=wn) hHeld.2.1 hb),(eF (w:=wn) hHeld.2.2.1 hb),(eF (w:=wn) hHeld.2.2.2 hb)⟩ (fun hHeld=>?_);clear hK K;refine eU sJ1 ?_
     refine sA1 13 (some 78) sB1 ?_
     refine sA1 14 (some 92) sB1 ?_
     refine sA1 15 (some 93) sB1 ?_
     exact eU bF (hJ2_12 (iB t v1 v2 v3,p) _ ⟨hHeld,HN.out⟩)
    skip
    refine jP (w1:=?_) (v:=?_) bK rfl ?_ ?_;rotate_left 2
    ·go_simp;constructor
     ·rfl
     rfl
    have hb:Below wn.heap.size wn (wn.alloc (.cells fY.toArray 35)):=(Below.refl _ _).alloc (Nat.le_refl _) _;replace HN:=cH HN.out.cell;refine hK.out _ _ ⟨(eF (w:=wn) hHeld.1 hb),(eF (w:=wn) hHeld.2.1 hb),(eF (w:=wn) hHeld.2.2.1 hb),(eF (w:=wn) hHeld.2.2.2 hb)⟩ (fun hHeld=>?_);clear hK K;refine eU sJ1 ?_
    exact eU bF (hJ2_16 (x1,wn.heap.size) _ ⟨hHeld,HN.out⟩)
   skip
   rintro ⟨x1,p⟩ wn ⟨hHeld,hN⟩;replace HN:=cH hN;clear hN;refine eU (a':=?_) ?_ ?_;rotate_left
   ·simp only[lV,Act.put,List.setIfInBounds_toArray,List.set_cons_zero,List.set_cons_succ];rfl
   refine sF1 12 (some 91) sG1 (fun K hK=>?_);refine iK Tryz.func29 bB rfl #[.agg #[.slice Al st.langs.length cl,.slice (some ⟨g9,o9,none⟩) st.dis.length cd,.slice Af st.fmts.length cf,.slice Ac st.cont.length cc],.string ⟨#[99,111,110,116,101,110,116]⟩,.string s] bK rfl rfl bG ?_
   with_reducible refine ((CK.out _ HN.out.below)).mono ?_
   rintro e wm ⟨t,l1,l2,l3,v1,v2,v3,rfl,hs9,hg9,hb⟩;refine ⟨_,rfl,?_⟩;replace HN:=cH (HN.out.know hb hs9 hg9);clear hs9 hg9;refine hK.out _ _ ⟨(eF (w:=wn) hHeld.1 hb),(eF (w:=wn) hHeld.2.1 hb),(eF (w:=wn) hHeld.2.2.1 hb),(eF (w:=wn) hHeld.2.2.2 hb)⟩ (fun hHeld=>?_);clear hK K;refine eU sJ1 ?_
   refine sA1 13 (some 78) sB1 ?_
   refine sA1 14 (some 92) sB1 ?_
   refine sA1 15 (some 93) sB1 ?_
   exact eU bF (hJ2_12_16 (iB t v1 v2 v3,p) _ ⟨hHeld,HN.out⟩)
  skip
  rintro ⟨x1,p⟩ wn ⟨hHeld,hN⟩;replace HN:=cH hN;clear hN;refine eU (a':=?_) ?_ ?_;rotate_left
  ·simp only[lV,Act.put,List.setIfInBounds_toArray,List.set_cons_zero,List.set_cons_succ];rfl
  refine sF1 16 (some 13) sG1 (fun K hK=>?_);refine jP (w1:=?_) (v:=?_) bK rfl ?_ ?_;rotate_left 2
  ·go_simp;constructor
   ·rfl
   rfl
  have hb:Below wn.heap.size wn (wn.alloc (.cells fY.toArray 35)):=(Below.refl _ _).alloc (Nat.le_refl _) _;replace HN:=cH HN.out.cell;refine hK.out _ _ ⟨(eF (w:=wn) hHeld.1 hb),(eF (w:=wn) hHeld.2.1 hb),(eF (w:=wn) hHeld.2.2.1 hb),(eF (w:=wn) hHeld.2.2.2 hb)⟩ (fun hHeld=>?_);clear hK K;refine eU sJ1 ?_
  exact eU bF (hJ2_12_16 (x1,wn.heap.size) _ ⟨hHeld,HN.out⟩)
 rintro ⟨x1,p⟩ wn ⟨hHeld,hN⟩;replace HN:=cH hN;clear hN;refine eU (a':=?_) ?_ ?_;rotate_left
 ·simp only[lV,Act.put,List.setIfInBounds_toArray,List.set_cons_zero,List.set_cons_succ];rfl
 refine sH1 17 none sI1 (fun K hK=>?_);obtain ⟨t,l1,l2,l3,v1,v2,v3,e1,hr,hg,hfar⟩:=HN.out.res rfl;change x1=_ at e1;subst e1;obtain ⟨hP,hp0⟩:=HN.out.pa rfl;have HPR:=cH hP;have HB6:=cH HN.out.below;have HGG:=cH hg;have HFAR:=cH (hfar rfl);have HP0:=cH hp0
 obtain ⟨C,hC⟩:∃ C:Array Value,oY t v1 v2 v3=C:=⟨_,rfl⟩
 have HCS:=cH (show C.size=31 by rw[← hC];rfl);have HON:=cH (show C.all (·.oneCell')=true by obtain ⟨A1,c1,e1,_⟩:=hr.1;obtain ⟨A2,c2,e2,_⟩:=hr.2.1;obtain ⟨A3,c3,e3,_⟩:=hr.2.2;rw[← hC,e1,e2,e3];exact mF _ _ _ _ _ _ _ _ _ _);have hval:iB t v1 v2 v3 = .agg C:=by rw[← hC];rfl
 rw[hval];have HC:=cH hC;clear hP hp0 hg hfar hr hval hC;refine zY bK rfl (.tmp 13) (.tmp 92) rfl rfl rfl HPR.out rfl HCS.out HON.out ?_;refine hK.out _ _ ?_;clear hK K;refine sA1 18 (some 14) sB1 ?_
 refine iY bB ?_
 obtain ⟨W,hW⟩:∃ W,wn.setCells p 0 C.toList=W:=⟨_,rfl⟩
 have hce:=nM HPR.out rfl HCS.out;have hbw:Below w13.heap.size w13 W:=hW▸below_setCells HP0.out _ _ _ HB6.out;have hsl:=HFAR.out C.toList;rw[hW] at hce hsl ⊢;have HCE:=cH hce;have HSL:Aside0 (eT W w13.heap.size v1 l1∧eT W w13.heap.size v2 l2∧eT W w13.heap.size v3 l3):=cH hsl;have HBX:=cH (eB HB13.out hbw);have HVX:=cH hbw;have HBW:=cH (Below.refl W.heap.size W);have HRS3:=cH (HRS13.out.below hbw (HRS13.out.lt bJ));have HT:Aside0 (ok=true→t=gQ (fL (eI st) comp (norm s))∧l1=iT (fL (eI st) comp (norm s))∧l2=iV (fL (eI st) comp (norm s))∧l3=kB (fL (eI st) comp (norm s))):=cH (by have h9:=HGG.out;rw[← HG.out] at h9;exact h9)
 obtain ⟨bk,hbk⟩:∃ x,p=x:=⟨_,rfl⟩
 rw[hbk] at HCE ⊢;clear hW hce hbw hsl hHeld hbk r0 r1 r2 r3;clear hs n1 n2 n3 n4 n5 n6 n7 n8 n9 n10 n11 hx9 yi1 yi2 yi3;cases ok
 ·go_wp2_with fail
  go_ret;exact ⟨rfl,HBX.out⟩
 have hgo:=trivial;obtain ⟨ht1,rfl,rfl,rfl⟩:=HT.out bL;obtain ⟨OS,HASC,HASCC,hs400,hc2000,hPK⟩:=HOK.out bL;have HPK:=cH hPK;clear hPK
 obtain ⟨p,hp⟩:∃ p,fL (eI st) comp (norm s)=p:=⟨_,rfl⟩
 rw[hp] at ht1 HSL;subst ht1;have HP:=cH hp;have hpo:=nP (eI st) comp (norm s) (by rw[norm_size];omega);rw[hp] at hpo;have HPO:=cH hpo;have HPN:=cH (oL (eI st) comp (norm s));rw[hp] at HPN;have k9:=HCE.out 9 (.string (nrm p.trim p.s)) (by rw[← HC.out];rfl);have hne:=HPN.out;clear hp hpo HT HOK k9 hne
 have hdd:listed st.dis dl=true:=by
  unfold listed;exact List.any_eq_true.2 ⟨dl,HIN.out,dY⟩
 have PG:=xT HPK.out HP.out HDP.out (nm:=name) (l:=dl) (e:=ew) (by
  rw[← HS.out,← HDIR.out];simp only[iP,jL]
  simp[L]) (HP1.out bL).name (HP2.out bL) Pew.out (by rw[← HCOMP.out];unfold iQ;rw[L_toList];rfl) Iew.out (by rw[hdd];simp)
 have ty:p.typ=2:=by rw[PG.typ,if_neg (HP1.out bL).notIndex,if_neg (uD (HP1.out bL))]
 have t1:(name.toList==name.toList)=true:=by simp
 have t2:(dl.toList==dl.toList)=true:=by simp
 have k30:=HCE.out 30 (.int .i64 2) (by rw[← HC.out,← show p.typ=2 from ty];rfl);have k19:=HCE.out 19 (.string dl) (by rw[← HC.out,← show pE p=dl from PG.lang];rfl);have k7:=HCE.out 7 (.string name) (by rw[← HC.out,← show jA p=name from PG.name];rfl);have k24:=HCE.out 24 (.bool true) (by rw[← HC.out,← show p.dis=true from (by rw[PG.dis,HBL.out];rfl)];rfl);have hr1:=(HSL.out.1.below HBW.out).mono (Nat.zero_le _);rw[show iT p=[] from PG.langs] at hr1;obtain ⟨A1,c1,e1,hc1,hd1⟩:=id hr1;have HR1:=cH (show eT W 0 (.slice A1 0 c1) [] from e1▸hr1);have k21:=HCE.out 21 (.slice A1 0 c1) (by rw[← HC.out,show (Value.slice A1 0 c1)=v1 from e1.symm];rfl);clear e1 hr1 hc1 hd1;clear PG ty hdd;go_wp2_with fail
 go_ret
 first
 | exact ⟨rfl,HBX.out⟩
 | exact ⟨congrArg (fun b=>Ending.returned (Value.bool b)) (by assumption),HBX.out⟩
end
theorem lifted (os:Os) (started:os.Started) (H:Type) (enc:TypeId×Value→H) :
 ReturnsInHanded {} Tryz.checked os 6 .any (fun w args=>(Rows.fnBuiltDisabledSpec.pre enc Tryz.prog Tryz.f6 Rows.fnBuiltDisabledRow.domain false w args∧laidMetH Tryz.prog Rows.fnBuiltDisabledRow.laid w)∧sizedMet enc Tryz.prog Tryz.f6 (OpenSpec.ofChange Rows.fnBuiltDisabledSpec) false w args)
  (Rows.fnBuiltDisabledSpec.post enc Tryz.prog Tryz.f6 false true false false):=by
 refine returnsInHanded_of_change_and (C:=Tryz.checked) (X:=fun w _=>laidMetH Tryz.prog Rows.fnBuiltDisabledRow.laid w) (fun _ _ _ hh h=>h.of_heap hh) RowKit.own started bB Tryz.func6
  (ChangeSpec.witness_shaped (enc:=enc) (C:=Tryz.checked) (os:=os) (X:=fun w _=>laidMetH Tryz.prog Rows.fnBuiltDisabledRow.laid w) false (World.laidAll Tryz.prog os Rows.fnBuiltDisabledRow.laid) #[.agg #[.slice none 0 0,.slice none 0 0,.slice none 0 0,.slice none 0 0],.slice none 0 0,.string ByteArray.empty,.int .i64 0,.int .i64 0] 8 (World.laidAll_os _ _ _)
   (World.shaped_of_ZipB bB bB) bB bB bB
   bN) ?_
 intro W base args ds gs before hval0 hW _ _ _ _;have hval:∀ (j:Nat) t v,Tryz.f6.params[j]? = some t→args[j]? = some v→Value.okWide Tryz.prog W .any base t v:=hval0;have hW':=hW;obtain ⟨p,q,hA0,hV,rfl,_,_⟩:=hW;have hA:DataW.TrodAll enc Tryz.prog W 0 (fun _=>true) true Tryz.f6.params.toList args.toList ds p:=hA0;rw[Tryz.params6] at hA hval;obtain ⟨v0,vs0,d0,ds0,p0,q0,hargs,rfl,rfl,h0,r0⟩:=trodAll_cons hA;obtain ⟨v1,vs1,d1,ds1,p1,q1,rfl,rfl,rfl,h1,r1⟩:=trodAll_cons r0;obtain ⟨v2,vs2,d2,ds2,p2,q2,rfl,rfl,rfl,h2,r2⟩:=trodAll_cons r1;obtain ⟨v3,vs3,d3,ds3,p3,q3,rfl,rfl,rfl,h3,r3⟩:=trodAll_cons r2;obtain ⟨v4,vs4,d4,ds4,p4,q4,rfl,rfl,rfl,h4,r4⟩:=trodAll_cons r3;obtain ⟨rfl,rfl,rfl⟩:=trodAll_nil r4;obtain rfl:args = #[v0,v1,v2,v3,v4]:=by cases args;simp_all
 obtain ⟨rfl,rfl⟩:=trodVars_none hV;have k0:=h0;have lt0:∀ x∈p0,x.block < W.heap.size:=by obtain ⟨m,hm⟩:=k0;exact DataW.trod_lt m _ _ _ hm
 obtain ⟨st0,vl0,vd0,vf0,vc0,rfl,S0⟩:=SiteRow.open_site (hval 0 25 v0 rfl rfl) h0;have k1:=h1;have lt1:∀ x∈p1,x.block < W.heap.size:=by obtain ⟨m,hm⟩:=k1;exact DataW.trod_lt m _ _ _ hm
 obtain ⟨l1,S1,z1⟩:∃ l,eT W 0 v1 l∧l.length≤9223372036854775807:=by obtain ⟨a9,n9,c9,rfl⟩:=okWide_slice Tryz.underlying22 (hval 1 22 v1 rfl rfl);obtain ⟨m,hm⟩:=k1;exact SiteRow.open_strs hm
 obtain ⟨a2,rfl,rfl,rfl,y2⟩:=Go.ChangeMaps.open_string Tryz.underlying9 (hval 2 9 v2 rfl rfl) h2;obtain ⟨a3,rfl,rfl,rfl,w3⟩:=open_int Tryz.underlying3 (hval 3 3 v3 rfl rfl) h3;obtain ⟨a4,rfl,rfl,rfl,w4⟩:=open_int Tryz.underlying3 (hval 4 3 v4 rfl rfl) h4;clear hA0 hval0;refine (walk (w:=W) S0 S1 z1 a2 a3 a4).mono fun e W' ⟨he,bel⟩=>?_;subst he
 exact ⟨_,rfl,_,_,_,[],_,[],hW',trodAll_mk1 (shut_bool Tryz.underlying4 _),(trodAll_cons_mk (Below.trod SiteRow.laidOut bB (of_decide_eq_true bB) k0 bel lt0) (trodAll_cons_mk (Below.trod SiteRow.laidOut bB (of_decide_eq_true bB) k1 bel lt1) (trodAll_cons_mk (Go.ChangeMaps.shut_string Tryz.underlying9 y2) (trodAll_cons_mk (shut_int Tryz.underlying3 w3) (trodAll_cons_mk (shut_int Tryz.underlying3 w4) trodAll_mk0))))),rfl,bel.frame _,fun h=>by cases h⟩
theorem said:Rows.FnBuiltDisabledSaid :=
 OpenClaim.holds_of_wide 6 Tryz.f6 rfl rfl rfl rfl rfl rfl rfl ⟨rfl,rfl,rfl,rfl,rfl⟩ rfl rfl rfl rfl rfl bB Tryz.func6 bB
  (of_decide_eq_true bB) bM
  (fun os started H enc _=>lifted os started H enc)
theorem plain (f:FuncId) (fn:Func) (hf:Tryz.pinned.checked.prog.funcNamed "pub-trackway/laws.FnBuiltDisabled" = some f) (hfn:Tryz.pinned.checked.prog.funcs[f]? = some fn) :
 false=Tryz.pinned.checked.prog.looks []∧∀ (j:Nat) t,fn.params[j]? = some t→Tryz.pinned.checked.prog.wantsStandIn t=false:=by
 obtain rfl:f=6:=Option.some.inj ((show Tryz.prog.funcNamed "pub-trackway/laws.FnBuiltDisabled" = some 6 by kernel_rfl).symm.trans hf) |>.symm
 obtain rfl:fn=Tryz.f6:=(Option.some.inj (Tryz.func6.symm.trans hfn)).symm;refine ⟨by kernel_rfl,fun j t ht=>?_⟩;rw[Tryz.params6] at ht;have hm:t∈[25,22,9,3,3]:=by simpa using Array.mem_of_getElem? ht
 have hall:([25,22,9,3,3].all fun u=>!Tryz.prog.wantsStandIn u)=true:=by kernel_rfl
 exact (show Tryz.prog.wantsStandIn t=false by simpa using List.all_eq_true.1 hall t hm)
theorem card:Rows.FnBuiltDisabledCardSaid :=
 Claim7.holds_tied_plain_at .later [] _ _ _ _ said (fun _ h=>by cases h) bB (fun _ h=>by cases h) fnBuiltDisabled_row_tie rfl ⟨rfl,rfl⟩ bB rfl plain bB
end Go.Proofs.YtcdgldnphhidlaaGreatDoor.fnBuiltDisabled
namespace Go.Proofs.YtcdgldnphhidlaaGreatDoor
theorem fnBuiltDisabled_card:Rows.FnBuiltDisabledCardSaid:=fnBuiltDisabled.card
#print axioms fnBuiltDisabled_card
end Go.Proofs.YtcdgldnphhidlaaGreatDoor
