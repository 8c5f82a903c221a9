/- Texts that the law leans on: Plain, TypeOf. Condition: as told at each. -/
import Derived.Test.YtlkoeeccebmjmaaGreatDoorXa
import Derived.Test.YtlkoeeccebmjmaaGreatDoorX19
set_option linter.unusedVariables false
set_option linter.unusedSimpArgs false
set_option maxRecDepth 100000
set_option maxHeartbeats 16000000
namespace Go.Proofs.YtlkoeeccebmjmaaGreatDoor.Path
open Go.RowKit Go.WideMaps Go.ZW.PrintWords Go.Proofs.YtlkoeeccebmjmaaGreatDoor.Base Go.Proofs.YtlkoeeccebmjmaaGreatDoor.Lower Go.Proofs.YtlkoeeccebmjmaaGreatDoor.PCore
open Go.ZW.PrintLast
section
variable {w0 w:World} {b:Nat} {G:RdK} {r:RV} {V:Fin 4→Value} {st:fF}
theorem aCu (S:lZ w0 st G.s0 G.s1 G.s2 G.s3) (O:sU st) (hB:Below w0.heap.size w0 w) (H:hE w w0.heap.size b G r V) (word:ByteArray) (k:Int) (hx:word.size≤1000000) (n1:r.ids.length≤1000000) (n2:r.marks.length≤1000000) (n4:r.unk.length≤1000000) (hlay:G.lay=eO G.comp) (pts:Nat) (hpts:G.pts=(pts:Int)) (hla:r.layAt < (r.ids.length:Int)) :
 Calls Tryz.prog 114 #[.pointer (some ⟨b,0,none⟩),.string word,.int .i64 k] w fun e w'=>e = .returned (.tuple #[])∧∃ V',hE w' w0.heap.size b G (jK st G.comp G.short pts r word k) V'∧gZ w w' b V V':=by
 replace H:=bW H;replace hB:=bW hB;have HW0:=bW (Below.refl w.heap.size w)
 obtain ⟨qc,hqc⟩:∃ q,jS G.comp=q:=⟨_,rfl⟩
 obtain ⟨ql,hql⟩:∃ q,G.lay=q:=⟨_,rfl⟩
 obtain ⟨qp,hqp⟩:∃ q,decide (G.pts≥(2:Int))=q:=⟨_,rfl⟩
 have hqp2:decide ((2:Int)≤G.pts)=qp:=hqp
 obtain ⟨qh,hqh⟩:∃ q,r.hasLang=q:=⟨_,rfl⟩
 obtain ⟨a,ha⟩:∃ q,listed st.langs word=q:=⟨_,rfl⟩
 obtain ⟨d,hd⟩:∃ q,listed st.dis word=q:=⟨_,rfl⟩
 have Q1:((((qc || ql) && qp) && !qh) && (a || d))=true↔(((jS G.comp || eO G.comp)=true∧2≤pts∧r.hasLang=false)∧(listed st.langs word || listed st.dis word)=true):=by
  rw[ha,hd,hqc,← hlay,hql,hqh];have:qp=decide (2≤pts):=by rw[← hqp,hpts];exact decide_eq_decide.2 bA
  rw[this]
  simp[and_assoc]
 go_enter Tryz.func114,Tryz.ntmps114;have rc0:=H.out.row.at 0 _ rfl;have hcomp:(G.comp.toList==[99,111,110,116,101,110,116])=qc:=hqc;go_upto_region 1 with fail
 try rw[hcomp]
 clear rc0 hcomp;have rc19:=H.out.row.at 19 _ rfl;have rc21:=H.out.row.at 21 _ rfl;have rc27:=H.out.row.at 27 _ rfl;rw[hql] at rc19;rw[hqh] at rc27
 go_cut [7] from 14 to 34 (fun sx wx=>sx = .bool (((qc || ql) && qp) && !qh)∧wx=w)
 case first =>
  cases qp
  ·have hp:=of_decide_eq_false hqp2;cases qc <;> cases ql <;> cases qh
   all_goals
    go_wp2_with fail
    go_meet
    case rel=>exact ⟨rfl,rfl⟩
  have hp:=of_decide_eq_true hqp2;cases qc <;> cases ql <;> cases qh
  all_goals
   go_wp2_with fail
   go_meet
   case rel=>exact ⟨rfl,rfl⟩
 obtain ⟨rfl,hwc⟩:=hcut;obtain rfl:w=wc:=hwc.symm;clear hwc;clear rc19 rc21 rc27
 obtain ⟨q1,hq1⟩:∃ q,(((qc || ql) && qp) && !qh)=q:=⟨_,rfl⟩
 rw[hq1] at Q1 ⊢;have rc15:=H.out.row.at 15 _ rfl;have rc16:=H.out.row.at 16 _ rfl;have ca:=nT (S.below hB.out).l O.l word;rw[ha] at ca;go_upto_region 3 with fail
 go_cut [47] from 48 to 66 (fun sx wx=>sx = .bool (q1 && (a || d))∧Aside0 (Below w.heap.size w wx))
 case first =>
  cases q1
  ·go_wp2_with fail
   go_meet
   case rel=>exact ⟨rfl,HW0⟩
  go_wp2_with fail
  refine ca.mono ?_;rintro e w1 ⟨rfl,hb1⟩;have HW1:=bW hb1;have rc16:=cell_far rc16 hb1;have cd:=nT ((S.below hB.out).below hb1).d O.d word;rw[hd] at cd;clear hb1 ca rc15;cases a
  ·go_wp2_with fail
   refine cd.mono ?_;rintro e w2 ⟨rfl,hb2⟩;have HW2:=bW (eA HW1.out hb2);clear hb2 cd;go_wp2_with fail
   go_meet
   case rel=>exact ⟨rfl,HW2⟩
  go_wp2_with fail
  go_meet
  case rel=>exact ⟨rfl,HW1⟩
 obtain ⟨rfl,HW2⟩:=hcut
 obtain ⟨w2,rfl⟩:∃ x,x=wc:=⟨_,rfl⟩
 clear rc15 rc16 ca
 obtain ⟨qq,hll⟩:∃ q,(q1 && (a || d))=q:=⟨_,rfl⟩
 rw[hll]
 cases qq with
 | true =>
  have hres0:jK st G.comp G.short pts r word k = { r.id word k with lang1:=word,hasLang:=true,dis:=r.dis || !a }:=by unfold jK;rw[if_pos (Q1.1 hll),ha]
  have HR2:=bW (H.out.below HW2.out);have HM2:=bW (gZ.of_below (b:=b) (V:=V) HW2.out);have HB2:=bW (eA hB.out HW2.out);have ci:=jH HR2.out word k (by exact n1) (by exact n2);go_wp2_with fail
  refine ci.mono ?_;rintro e w3 ⟨rfl,V3,hR3,hM3⟩;have HR3:=bW hR3;have HM3:=bW (HM2.out.trans hM3);have HB3:=bW (HB2.out.trans (HR2.out.moved hM3));clear ci hR3 hM3;have rc23:=HR3.out.row.at 23 _ rfl;have rc27:=HR3.out.row.at 27 _ rfl;have rf23:=HR3.out.row.free 23 bN;have rf27:=HR3.out.row.free 27 bN;go_upto_region 6 with fail
  obtain ⟨hR,hM⟩:=HR3.out.put 23 (.string word) G { r.id word k with lang1:=word } rfl rfl bA;obtain ⟨hR',hM'⟩:=hR.put 27 (.bool true) G { r.id word k with lang1:=word,hasLang:=true } rfl rfl bA
  obtain ⟨w4,hw4⟩:∃ w4,(w3.setCell ⟨b,23,none⟩ (.string word)).setCell ⟨b,27,none⟩ (.bool true)=w4:=⟨_,rfl⟩
  rw[hw4] at hR' hM' ⊢;have HR4:=bW hR';have HM4:=bW ((HM3.out.trans hM).trans hM');have HB4:=bW (HB3.out.trans (HR3.out.moved (hM.trans hM')));clear hR hM hR' hM' hw4 rc23 rc27 rf23 rf27;have rc13:=HR4.out.row.at 13 _ rfl;have rc15:=HR4.out.row.at 15 _ rfl;have rf13:=HR4.out.row.free 13 bN;have ca:=nT (S.below HB4.out).l O.l word;rw[ha] at ca
  cases hdis:r.dis with
  | true =>
   rw[show (({r.id word k with lang1:=word,hasLang:=true}):RV).dis=true from hdis] at rc13;have hres:jK st G.comp G.short pts r word k = { r.id word k with lang1:=word,hasLang:=true,dis:=true }:=by rw[hres0,hdis];rfl
   go_wp2_with fail
   obtain ⟨hR,hM⟩:=HR4.out.put 13 (.bool true) G { r.id word k with lang1:=word,hasLang:=true,dis:=true } rfl rfl bA;have HR6:=bW hR;have HM6:=bW (HM4.out.trans hM);clear hR hM;exact bodyPost_end (v:=.tuple #[]) bU rfl ⟨rfl,_,(hres.symm▸HR6.out),HM6.out⟩
  | false =>
   rw[show (({r.id word k with lang1:=word,hasLang:=true}):RV).dis=false from hdis] at rc13;have hres:jK st G.comp G.short pts r word k = { r.id word k with lang1:=word,hasLang:=true,dis:=!a }:=by rw[hres0,hdis];rfl
   go_wp2_with fail
   refine ca.mono ?_;rintro e w5 ⟨rfl,hb5⟩;clear ca rc13 rc15 rf13;have HR5:=bW (HR4.out.below hb5);have HM5:=bW (HM4.out.trans (.of_below hb5));have HB5:=bW (eA HB4.out hb5);clear hb5;have rc13:=HR5.out.row.at 13 _ rfl;have rf13:=HR5.out.row.free 13 bN;go_wp2_with fail
   obtain ⟨hR,hM⟩:=HR5.out.put 13 (.bool (!a)) G { r.id word k with lang1:=word,hasLang:=true,dis:=!a } rfl rfl bA;have HR6:=bW hR;have HM6:=bW (HM5.out.trans hM);clear hR hM;exact bodyPost_end (v:=.tuple #[]) bU rfl ⟨rfl,_,(hres.symm▸HR6.out),HM6.out⟩
 | false =>
  have N1:=bW (show ¬ (((jS G.comp || eO G.comp)=true∧2≤pts∧r.hasLang=false)∧(listed st.langs word || listed st.dis word)=true) from fun h=>by rw[Q1.2 h] at hll;cases hll);clear Q1 hll hq1 hqp hqp2 hqh
  obtain ⟨fb,hfb⟩:∃ q,jP st word r.ext=q:=⟨_,rfl⟩
  have Q2:(ql && fb)=true↔(eO G.comp=true∧jP st word r.ext=true):=by rw[← hlay,hql,hfb];simp
  have HR2:=bW (H.out.below HW2.out);have HM2:=bW (gZ.of_below (b:=b) (V:=V) HW2.out);have HB2:=bW (eA hB.out HW2.out);have rc19:=HR2.out.row.at 19 _ rfl;rw[hql] at rc19;go_upto_region 7 with fail
  go_cut [97] from 98 to 115 (fun sx wx=>sx = .bool (ql && fb)∧Aside0 (Below w2.heap.size w2 wx))
  case first =>
   cases ql
   ·go_wp2_with fail
    go_quiet (fail)
    go_wp2_with fail
    go_meet
    case rel=>exact ⟨rfl,⟨eV.below ⟨_,rfl⟩⟩⟩
   have SB:=(S.below HB2.out).below (w':=w2.drew) ((Below.refl _ _).drew);have rc17:w2.cell? ⟨b,17,none⟩=some G.s2:=HR2.out.row.at 17 _ rfl;have rc7:w2.cell? ⟨b,7,none⟩=some (.string r.ext):=HR2.out.row.at 7 _ rfl;refine hY (n:=19) (S:=fun w'=>w'.cell? ⟨b,19,none⟩=some (.bool true)∧w'.cell? ⟨b,17,none⟩=some G.s2∧w'.cell? ⟨b,7,none⟩=some (.string r.ext)) (ds:=[]) _ bB rfl rfl ⟨rc19,rc17,rc7⟩ (fun hHeld=>?_);refine sA1 0 (some 98) sB1 ?_
   refine sA1 1 (some 99) sB1 ?_
   refine sA1 2 (some 100) sB1 ?_
   refine sC1 3 (some 101) sD1 ?_
   refine sA1 4 (some 102) sB1 ?_
   refine sA1 5 (some 103) sB1 ?_
   refine sA1 6 (some 104) sB1 ?_
   refine sA1 7 (some 105) sB1 ?_
   refine sA1 8 (some 106) sB1 ?_
   refine sA1 10 (some 108) sB1 ?_
   refine sA1 11 (some 109) sB1 ?_
   refine sA1 12 (some 110) sB1 ?_
   refine sA1 13 (some 111) sB1 ?_
   refine sA1 14 (some 112) sB1 ?_
   refine sC1 9 (some 107) sD1 ?_
   refine sC1 15 (some 113) sD1 ?_
   refine sF1 16 (some 114) sG1 (fun K hK=>?_);refine lA Tryz.func140 bB rfl #[G.s2,.string word,.string r.ext] bH rfl rfl bI ?_
   with_reducible refine ((aBx SB.f O.f word r.ext)).mono ?_
   rintro e wa ⟨rfl,hba⟩;refine ⟨_,rfl,?_⟩;have rc19a:=cell_far (w:=w2.drew) rc19 hba;have rc17a:=cell_far (w:=w2.drew) rc17 hba;have rc7a:=cell_far (w:=w2.drew) rc7 hba;refine hK.out _ _ ⟨rc19a,rc17a,rc7a⟩ (fun hHeld=>?_);clear hK K;refine gJ sJ1 ?_
   refine sA1 17 (some 115) sB1 ?_
   refine sA1 18 (some 97) sB1 ?_
   refine iK bB ?_;rw[hfb];have HB3:=bW (eA ((Below.refl w2.heap.size w2).drew) hba);go_wp2_with fail
   go_meet
   case rel=>exact ⟨rfl,HB3⟩
  obtain ⟨rfl,HB3⟩:=hcut
  obtain ⟨w3,rfl⟩:∃ x,x=wc:=⟨_,rfl⟩
  have HW3:=bW (eA HW2.out HB3.out);clear rc19 HB3 HR2 HM2 HB2 HW2
  obtain ⟨w2,rfl⟩:∃ x,x=w3:=⟨_,rfl⟩
  have HW2:=HW3;clear HW3
  obtain ⟨f,hf⟩:∃ q,(ql && fb)=q:=⟨_,rfl⟩
  rw[hf] at Q2 ⊢;clear hf hfb;go_upto_if 97 with fail
  cases f with
  | true =>
   have hres:jK st G.comp G.short pts r word k = { r.id word k with fmt1:=word }:=by unfold jK;rw[if_neg N1.out,if_pos (Q2.1 rfl)]
   clear Q2;have HR2:=bW (H.out.below HW2.out);have HM2:=bW (gZ.of_below (b:=b) (V:=V) HW2.out);have HB2:=bW (eA hB.out HW2.out);have ci:=jH HR2.out word k (by exact n1) (by exact n2);go_wp2_with fail
   refine ci.mono ?_;rintro e w3 ⟨rfl,V3,hR3,hM3⟩;have HR3:=bW hR3;have HM3:=bW (HM2.out.trans hM3);have HB3:=bW (HB2.out.trans (HR2.out.moved hM3));clear ci hR3 hM3;have rc24:=HR3.out.row.at 24 _ rfl;have rf24:=HR3.out.row.free 24 bN;go_wp2_with fail
   obtain ⟨hR,hM⟩:=HR3.out.put 24 (.string word) G { r.id word k with fmt1:=word } rfl rfl bA;have HR4:=bW hR;have HM4:=bW (HM3.out.trans hM);clear hR hM;exact bodyPost_end (v:=.tuple #[]) bU rfl ⟨rfl,_,(hres.symm▸HR4.out),HM4.out⟩
  | false =>
   have N2:=bW (show ¬ (eO G.comp=true∧jP st word r.ext=true) from fun h=>by have:=Q2.2 h;cases this);clear Q2
   obtain ⟨qk,hqk⟩:∃ q,r.hasKind=q:=⟨_,rfl⟩
   obtain ⟨ik,hik⟩:∃ q,isKind word=q:=⟨_,rfl⟩
   have Q3:((ql && !qk) && ik)=true↔(eO G.comp=true∧r.hasKind=false∧isKind word=true):=by
    rw[← hlay,hql,hqk,hik];simp[and_assoc]
   have HR2:=bW (H.out.below HW2.out);have HM2:=bW (gZ.of_below (b:=b) (V:=V) HW2.out);have HB2:=bW (eA hB.out HW2.out);have rc19:=HR2.out.row.at 19 _ rfl;have rc28:=HR2.out.row.at 28 _ rfl;rw[hql] at rc19;rw[hqk] at rc28;have ck:=uT word hx w2;rw[hik] at ck;go_upto_region 10 with fail
   go_cut [124] from 125 to 139 (fun sx wx=>sx = .bool ((ql && !qk) && ik)∧Aside0 (Below w2.heap.size w2 wx))
   case first =>
    cases hqq:(ql && !qk)
    ·cases ql <;> cases qk
     all_goals first | (cases hqq;done) | skip
     all_goals
      go_wp2_with fail
      go_meet
      case rel=>exact ⟨rfl,⟨Below.refl _ _⟩⟩
    obtain ⟨rfl,rfl⟩:ql=true∧qk=false:=by revert hqq;cases ql <;> cases qk <;> simp
    go_wp2_with fail
    refine ck.mono ?_;rintro e w3 ⟨rfl,hb3⟩;have HB3:=bW hb3;clear hb3 ck;go_wp2_with fail
    go_meet
    case rel=>exact ⟨rfl,HB3⟩
   obtain ⟨rfl,HB3⟩:=hcut
   obtain ⟨w3,rfl⟩:∃ x,x=wc:=⟨_,rfl⟩
   have HW3:=bW (eA HW2.out HB3.out);clear rc19 rc28 ck HB3 HR2 HM2 HB2
   obtain ⟨qq,hqq⟩:∃ q,((ql && !qk) && ik)=q:=⟨_,rfl⟩
   rw[hqq] at Q3 ⊢
   cases qq with
   | true =>
    have hres:jK st G.comp G.short pts r word k = { r.id word k with kind1:=word,hasKind:=true }:=by unfold jK;rw[if_neg N1.out,if_neg N2.out,if_pos (Q3.1 rfl)]
    clear Q3 hqq;have HR3:=bW (H.out.below HW3.out);have HM3:=bW (gZ.of_below (b:=b) (V:=V) HW3.out);have HB3:=bW (eA hB.out HW3.out);have ci:=jH HR3.out word k (by exact n1) (by exact n2);go_wp2_with fail
    refine ci.mono ?_;rintro e w4 ⟨rfl,V4,hR4,hM4⟩;have HR4:=bW hR4;have HM4:=bW (HM3.out.trans hM4);have HB4:=bW (HB3.out.trans (HR3.out.moved hM4));clear ci hR4 hM4;have rc25:=HR4.out.row.at 25 _ rfl;have rc28:=HR4.out.row.at 28 _ rfl;have rf25:=HR4.out.row.free 25 bN;have rf28:=HR4.out.row.free 28 bN;go_wp2_with fail
    obtain ⟨hR,hM⟩:=HR4.out.put 25 (.string word) G { r.id word k with kind1:=word } rfl rfl bA;have HR5:=bW hR;have HM5:=bW (HM4.out.trans hM);clear hR hM;obtain ⟨hR,hM⟩:=HR5.out.put 28 (.bool true) G { r.id word k with kind1:=word,hasKind:=true } rfl rfl bA;have HR6:=bW hR;have HM6:=bW (HM5.out.trans hM);clear hR hM;exact bodyPost_end (v:=.tuple #[]) bU rfl ⟨rfl,_,(hres.symm▸HR6.out),HM6.out⟩
   | false =>
    have N3:=bW (show ¬ (eO G.comp=true∧r.hasKind=false∧isKind word=true) from fun h=>by have:=Q3.2 h;cases this);clear Q3 hqq
    obtain ⟨w2,rfl⟩:∃ x,x=w3:=⟨_,rfl⟩
    replace HW2:=HW3;clear HW3
    cases c4:(word.toList==[98,97,115,101,111,102]) with
    | true =>
     have hres:jK st G.comp G.short pts r word k = { r.id word k with baseof:=true }:=by unfold jK;rw[if_neg N1.out,if_neg N2.out,if_neg N3.out,if_pos (show word.toList=vX from beq_iff_eq.1 c4)]
     have HR2:=bW (H.out.below HW2.out);have HM2:=bW (gZ.of_below (b:=b) (V:=V) HW2.out);have HB2:=bW (eA hB.out HW2.out);have ci:=jH HR2.out word k (by exact n1) (by exact n2);go_wp2_with fail
     refine ci.mono ?_;rintro e w3 ⟨rfl,V3,hR3,hM3⟩;have HR3:=bW hR3;have HM3:=bW (HM2.out.trans hM3);have HB3:=bW (HB2.out.trans (HR2.out.moved hM3));clear ci hR3 hM3;have rc29:=HR3.out.row.at 29 _ rfl;have rf29:=HR3.out.row.free 29 bN;go_wp2_with fail
     obtain ⟨hR,hM⟩:=HR3.out.put 29 (.bool true) G { r.id word k with baseof:=true } rfl rfl bA;have HR4:=bW hR;have HM4:=bW (HM3.out.trans hM);clear hR hM;exact bodyPost_end (v:=.tuple #[]) bU rfl ⟨rfl,_,(hres.symm▸HR4.out),HM4.out⟩
    | false =>
     have N4:=bW (show ¬ (word.toList=vX) from fun h=>by rw[h] at c4;cases c4)
     obtain ⟨qs,hqs⟩:∃ q,G.short=q:=⟨_,rfl⟩
     obtain ⟨qn,hqn⟩:∃ q,decide (k < 0)=q:=⟨_,rfl⟩
     have Q5:(ql && !(qs && qn))=true↔(eO G.comp=true∧¬ (G.short=true∧k < 0)):=by
      rw[← hlay,hql,hqs];have:qn=true↔k < 0:=by rw[← hqn];exact decide_eq_true_iff
      rw[← this];cases ql <;> cases qs <;> cases qn <;> simp
     have HR2:=bW (H.out.below HW2.out);have HM2:=bW (gZ.of_below (b:=b) (V:=V) HW2.out);have HB2:=bW (eA hB.out HW2.out);have rc19:=HR2.out.row.at 19 _ rfl;have rc20:=HR2.out.row.at 20 _ rfl;rw[hql] at rc19;rw[hqs] at rc20;go_upto_region 16 with fail
     go_cut [161] from 162 to 176 (fun sx wx=>sx = .bool (ql && !(qs && qn))∧wx=w2)
     case first =>
      cases ql <;> cases qs <;> cases qn
      all_goals
       go_wp2_with fail
       go_meet
       case rel=>exact ⟨rfl,rfl⟩
     obtain ⟨rfl,hwc⟩:=hcut;obtain rfl:w2=wc:=hwc.symm;clear hwc;clear rc19 rc20 HR2 HM2 HB2 c4 hqn
     obtain ⟨q5,hl5⟩:∃ q,(ql && !(qs && qn))=q:=⟨_,rfl⟩
     rw[hl5] at Q5 ⊢
     cases q5 with
     | true =>
      have HR2:=bW (H.out.below HW2.out);have HM2:=bW (gZ.of_below (b:=b) (V:=V) HW2.out);have HB2:=bW (eA hB.out HW2.out);have rc30:=HR2.out.row.at 30 _ rfl;have hN5:eO G.comp=true∧¬ (G.short=true∧k < 0):=Q5.1 rfl;clear Q5
      cases hla0:decide (r.layAt < 0) with
      | true =>
       have hres:jK st G.comp G.short pts r word k = { r.id word k with layAt:=r.ids.length,lay1:=word }:=by unfold jK;rw[if_neg N1.out,if_neg N2.out,if_neg N3.out,if_neg N4.out,if_pos hN5,if_pos (of_decide_eq_true hla0)]
       obtain ⟨Ai,ci,ei⟩:=fL HR2.out.idsRow;have rc4:w2.cell? ⟨b,4,none⟩=some (.slice Ai r.ids.length ci):=by rw[← ei];exact HR2.out.row.at 4 _ rfl
       have rf30:=HR2.out.row.free 30 bN;go_upto_region 19 with fail
       obtain ⟨hR,hM⟩:=HR2.out.put 30 (.int .i64 r.ids.length) G { r with layAt:=r.ids.length } rfl rfl bA
       obtain ⟨w3,hw3⟩:∃ w3,w2.setCell ⟨b,30,none⟩ (.int .i64 r.ids.length)=w3:=⟨_,rfl⟩
       rw[hw3] at hR hM ⊢;have HR3:=bW hR;have HM3:=bW (HM2.out.trans hM);have HB3:=bW (HB2.out.trans (HR2.out.moved hM));clear hR hM hw3 rc4 rc30 rf30 ei hla0;have ci:=jH HR3.out word k (by exact n1) (by exact n2);go_wp2_with fail
       refine ci.mono ?_;rintro e w4 ⟨rfl,V4,hR4,hM4⟩;have HR4:=bW hR4;have HM4:=bW (HM3.out.trans hM4);have HB4:=bW (HB3.out.trans (HR3.out.moved hM4));clear ci hR4 hM4;have rc26:=HR4.out.row.at 26 _ rfl;have rf26:=HR4.out.row.free 26 bN;go_wp2_with fail
       obtain ⟨hR,hM⟩:=HR4.out.put 26 (.string word) G { r.id word k with layAt:=r.ids.length,lay1:=word } rfl rfl bA;have HR5:=bW hR;have HM5:=bW (HM4.out.trans hM);clear hR hM;exact bodyPost_end (v:=.tuple #[]) bU rfl ⟨rfl,_,(hres.symm▸HR5.out),HM5.out⟩
      | false =>
       have hge:¬ (r.layAt < 0):=of_decide_eq_false hla0;have hres:jK st G.comp G.short pts r word k = { r with unk:=r.unk++[r.lay1],ids:=r.ids.set r.layAt.toNat word,marks:=r.marks++[k],lay1:=word }:=by unfold jK;rw[if_neg N1.out,if_neg N2.out,if_neg N3.out,if_neg N4.out,if_pos hN5,if_neg hge]
       obtain ⟨l,hl⟩:∃ l:Nat,r.layAt=(l:Int):=⟨r.layAt.toNat,aM⟩
       have hlt:l < r.ids.length:=by have:=hla;omega
       rw[show r.layAt.toNat=l by rw[hl];exact Int.toNat_natCast l] at hres
       (try clear hqs);(try clear hqk);(try clear hik);(try clear hql);(try clear hqc);(try clear hlay)
       have HRES:=bW hres;clear hres;have rc5:=HR2.out.row.at 5 _ rfl;have rc26:=HR2.out.row.at 26 _ rfl;have og:=bW HR2.out.unkRow;have hBg:w0.heap.size≤w2.heap.size:=Nat.le_trans HR2.out.base (Nat.le_of_lt HR2.out.lt);have HBd:=bW (show Below w0.heap.size w2 w2.drew from (Below.refl _ _).drew);go_upto_region 20 with fail
       refine hY (n:=16) (S:=fun w'=>w'.cell? ⟨b,5,none⟩=some (V 1)∧w'.cell? ⟨b,26,none⟩=some (.string r.lay1)) (ds:=[15]) _ bB rfl rfl ⟨rc5,rc26⟩ (fun hHeld=>?_);refine sA1 0 (some 195) sB1 ?_
       refine sA1 1 (some 196) sB1 ?_
       refine sA1 2 (some 197) sB1 ?_
       refine sA1 3 (some 198) sB1 ?_
       refine sA1 4 (some 199) sB1 ?_
       refine sA1 6 (some 201) sB1 ?_
       refine sA1 7 (some 202) sB1 ?_
       refine sA1 8 (some 203) sB1 ?_
       refine sC1 5 (some 200) sE1 ?_
       refine sC1 9 (some 204) sE1 ?_
       refine sF1 10 (some 205) sG1 (fun K hK=>?_);refine kT (w1:=?_) (v:=?_) bH rfl ?_ ?_;rotate_left 2
       ·go_simp;constructor
        ·rfl
        rfl
       have a_h:Below w2.heap.size w2 (w2.drew.alloc (.cells ([.string r.lay1]:List Value).toArray 9)):=(Below.refl _ _).drew.alloc (Nat.le_refl _) _;refine hK.out _ _ ⟨(a_h.cell (World.block_lt_of_cell? w2 ⟨b,5,none⟩ rc5)).trans rc5,(a_h.cell (World.block_lt_of_cell? w2 ⟨b,26,none⟩ rc26)).trans rc26⟩ (fun hHeld=>?_);clear hK K;refine gJ sJ1 ?_
       refine sF1 11 (some 206) sG1 (fun K hK=>?_);refine gE (w0:=w2) (W:=w2.drew) w0.heap.size bH (.tmp 200) (.tmp 205) 22 9 _ 1 16 bH Tryz.underlying22 yO rfl bF bF (V 1) r.unk.length (r.unk.map Value.string) [.string r.lay1] bH bH bH bL og.out HBd.out hBg bA ?_;intro v1 w1 ho bb hg ha1;obtain ⟨Ag,cg,ev1⟩:=fL ho;subst ev1
       have hgg:w2.grownBy w1 (V 1).ownBlock:=⟨hg.os,hg.tape,hg.output,hg.size,hg.block⟩
       obtain ⟨qg,fg⟩:=HR2.out.far (i:=1) hgg 5 (V 1) rfl;obtain ⟨q26,_⟩:=HR2.out.far (i:=1) hgg 26 (.string r.lay1) rfl;obtain ⟨hR,hM⟩:=HR2.out.addUnk r.lay1 ho hgg ha1;have HR3:=bW hR;have HM3:=bW (HM2.out.trans hM);have HB3:=bW (HB2.out.trans (HR2.out.moved hM));clear hR hM ho bb hg hgg ha1;refine hK.out _ _ ⟨qg,q26⟩ (fun hHeld=>?_);clear hK K;refine gJ sJ1 ?_
       refine sA1 12 (some 207) sB1 ?_
       refine sA1 13 (some 208) sB1 ?_
       refine sA1 14 (some 209) sB1 ?_
       refine sH1 15 none sI1 (fun K hK=>?_);refine iO (w1:=?_) bH rfl ?_ ?_;rotate_left
       ·go_simp;rfl
       refine hK.out _ _ ?_;clear hK K;refine iK bB ?_
       obtain ⟨w3,hw3⟩:∃ w3,w1.setCell ⟨b,5,none⟩ (.slice Ag (r.unk.length+1) cg:Value)=w3:=⟨_,rfl⟩
       rw[hw3] at HR3 HM3 HB3 ⊢
       obtain ⟨V3,hV3⟩:∃ V2,upd V 1 (.slice Ag (r.unk.length+1) cg:Value)=V2:=⟨_,rfl⟩
       rw[hV3] at HR3 HM3;clear hw3 hV3 qg fg q26 rc5 rc26 og HBd rc30;obtain ⟨g,cap,hVg,qc,qf,hR,hM⟩:=HR3.out.setId l hlt word;have rc4:w3.cell? ⟨b,4,none⟩=some (.slice (some ⟨g,0,none⟩) r.ids.length cap):=by rw[← hVg];exact HR3.out.row.at 4 _ rfl
       have rc30:w3.cell? ⟨b,30,none⟩=some (.int .i64 (l:Int)):=by rw[← hl];exact HR3.out.row.at 30 _ rfl
       have HR4:=bW hR;have HM4:=bW (HM3.out.trans hM);have HB4:=bW (HB3.out.trans (HR3.out.moved hM));have hlI:decide ((l:Int) < (r.ids.length:Int))=true:=decide_eq_true bA;have hlI0:decide ((0:Int)≤(l:Int))=true:=decide_eq_true bA;clear hR hM;go_upto_region 21 with fail
       refine hY (n:=12) (S:=fun w'=>w'.cell? ⟨b,4,none⟩=some (.slice (some ⟨g,0,none⟩) r.ids.length cap)∧w'.cell? ⟨b,30,none⟩=some (.int .i64 ((l:Nat):Int))) (ds:=[11]) _ bB rfl rfl ⟨rc4,rc30⟩ (fun hHeld=>?_);refine sA1 0 (some 210) sB1 ?_
       refine sA1 1 (some 211) sB1 ?_
       refine sA1 2 (some 212) sB1 ?_
       refine sA1 3 (some 213) sB1 ?_
       refine sA1 5 (some 215) sB1 ?_
       refine sA1 6 (some 216) sB1 ?_
       refine sA1 7 (some 217) sB1 ?_
       refine sA1 9 (some 219) sB1 ?_
       refine sC1 4 (some 214) sE1 ?_
       refine sC1 8 (some 218) sE1 ?_
       refine sA1 10 (some 220) sB1 ?_
       refine sH1 11 none sI1 (fun K hK=>?_);refine iO (w1:=?_) bH rfl ?_ ?_;rotate_left
       ·go_simp;rfl
       refine hK.out _ _ ?_;clear hK K;refine iK bB ?_;have hdr:Below (w3.setCell ⟨g,l,none⟩ (.string word)).heap.size (w3.setCell ⟨g,l,none⟩ (.string word)) (w3.setCell ⟨g,l,none⟩ (.string word)).drew:=(Below.refl _ _).drew;replace HM4:=bW (HM4.out.trans (.of_below hdr));replace HB4:=bW (eA HB4.out hdr);replace HR4:=bW (HR4.out.below hdr);clear hdr
       obtain ⟨w4,hw4⟩:∃ w4,(w3.setCell ⟨g,l,none⟩ (.string word)).drew=w4:=⟨_,rfl⟩
       rw[hw4] at HR4 HM4 HB4 ⊢;clear hw4 qc qf rc4 rc30;have rc22:=HR4.out.row.at 22 _ rfl;have og:=bW HR4.out.marksRow;have hBg:w0.heap.size≤w4.heap.size:=Nat.le_trans HR4.out.base (Nat.le_of_lt HR4.out.lt)
       obtain ⟨vg,hvg⟩:∃ v,V3 3=v:=⟨_,rfl⟩
       rw[hvg] at rc22 og;have HVg:=bW hvg;clear hvg;have ng:=n2
       go_wp2_with (first | (refine mA rfl w0.heap.size (.tmp 225) (.tmp 227) 76 3 _ 1 8 rfl Tryz.underlying76 aGl rfl bF bF vg r.marks.length (r.marks.map (Value.int .i64)) [.int .i64 k] rfl rfl rfl bL og.out hBg bA ?_) | fail)
       intro v1 w1 ho hg ha;obtain ⟨Ag,cg,ev1⟩:=fL ho;subst ev1;rw[← HVg.out] at hg ha;obtain ⟨qg,fg⟩:=HR4.out.far hg 22 (V3 3) rfl;obtain ⟨hR,hM⟩:=HR4.out.addMarks k ho hg ha;have HR5:=bW hR;have HM5:=bW (HM4.out.trans hM);have HB5:=bW (HB4.out.trans (HR4.out.moved hM));clear rc22 og hBg ng ho hg ha hR hM;go_upto_region 23 with fail
       obtain ⟨w5,hw5⟩:∃ w2,w1.setCell ⟨b,22,none⟩ ((.slice Ag (r.marks.length+1) cg):Value)=w2:=⟨_,rfl⟩
       rw[hw5] at HR5 HM5 HB5 ⊢;clear hw5 qg fg
       obtain ⟨V5,hV5⟩:∃ V2,upd V3 3 ((.slice Ag (r.marks.length+1) cg):Value)=V2:=⟨_,rfl⟩
       rw[hV5] at HR5 HM5;clear hV5;have rc26:=HR5.out.row.at 26 _ rfl;have rf26:=HR5.out.row.free 26 bN;go_wp2_with fail
       obtain ⟨hR,hM⟩:=HR5.out.put 26 (.string word) G { r with unk:=r.unk++[r.lay1],ids:=r.ids.set l word,marks:=r.marks++[k],lay1:=word } rfl rfl bA;have HR6:=bW hR;have HM6:=bW (HM5.out.trans hM);clear hR hM;have hres:=HRES.out;exact bodyPost_end (v:=.tuple #[]) bU rfl ⟨rfl,_,(hres.symm▸HR6.out),HM6.out⟩
     | false =>
      have NQ5:¬ (eO G.comp=true∧¬ (G.short=true∧k < 0)):=fun h=>by have h9:=Q5.2 h;cases h9
      clear Q5;have hres:jK st G.comp G.short pts r word k = { r with unk:=r.unk++[word] }:=by unfold jK;rw[if_neg N1.out,if_neg N2.out,if_neg N3.out,if_neg N4.out,if_neg (fun h=>NQ5 h)]
      have HR2:=bW (H.out.below HW2.out);have HM2:=bW (gZ.of_below (b:=b) (V:=V) HW2.out);have HB2:=bW (eA hB.out HW2.out);have rc5:=HR2.out.row.at 5 _ rfl;have og:=bW HR2.out.unkRow;have hBg:w0.heap.size≤w2.heap.size:=Nat.le_trans HR2.out.base (Nat.le_of_lt HR2.out.lt)
      obtain ⟨vg,hvg⟩:∃ v,V 1=v:=⟨_,rfl⟩
      rw[hvg] at rc5 og;have HVg:=bW hvg;clear hvg;have ng:=n4
      go_wp2_with (first | (refine mA rfl w0.heap.size (.tmp 40) (.tmp 42) 22 9 _ 1 16 rfl Tryz.underlying22 yO rfl bF bF vg r.unk.length (r.unk.map Value.string) [.string word] rfl rfl rfl bL og.out hBg bA ?_) | fail)
      intro v1 w1 ho hg ha;obtain ⟨Ag,cg,ev1⟩:=fL ho;subst ev1;rw[← HVg.out] at hg ha;obtain ⟨qg,fg⟩:=HR2.out.far hg 5 (V 1) rfl;obtain ⟨hR,hM⟩:=HR2.out.addUnk word ho hg ha;have HR3:=bW hR;have HM3:=bW (HM2.out.trans hM);have HB3:=bW (HB2.out.trans (HR2.out.moved hM));clear rc5 og hBg ng ho hg ha hR hM;go_wp2_with fail
      exact bodyPost_end (v:=.tuple #[]) bU rfl ⟨rfl,_,(hres.symm▸HR3.out),HM3.out⟩
end
section
variable {w0 w:World} {B b:Nat} {G:RdK} {r:RV} {V:Fin 4→Value} {st:fF}
def nB (G:RdK) (r:RV) (V:Fin 4→Value):List Value :=
 [.string G.comp,.string G.path,.string G.name,.int .i64 G.nEnd,V 0,V 1,V 2,.string r.ext,.string r.fmt,.string r.kind,.string r.lay,.string G.lang,.string r.cust,.bool r.dis,.int .i64 G.typ]
theorem aCz (G:RdK) (r:RV) (V:Fin 4→Value):∃ t,pK G r V=nB G r V++t:=⟨_,rfl⟩
def WZ:Array Value:=#[.string ⟨#[]⟩,.string ⟨#[]⟩,.string ⟨#[]⟩,.int .i64 0,.slice none 0 0,.slice none 0 0,.slice none 0 0,.string ⟨#[]⟩,.string ⟨#[]⟩,.string ⟨#[]⟩,.string ⟨#[]⟩,.string ⟨#[]⟩,.string ⟨#[]⟩,.bool false,.int .i64 0]
theorem aBz {w:World} {b n:Nat} {C:Array Value} {cs:List Value} (hR:Row w b cs) (hcs:cs.length=n) (hC:C.size=n):∀ (j:Nat) (v:Value),C.toList[j]? = some v→(w.setCells b 0 C.toList).cell? ⟨b,j,none⟩=some v:=by
 have ht:w.there b 0 n:=hcs▸hR.there;have hl:C.toList.length=n:=by simpa using hC
 have hr:=World.rangeAt_setCells_same w b 0 C.toList (by rw[hl];exact ht);intro j v hv;have:=hr j v hv;rwa[Nat.zero_add] at this
theorem hE.words (H:hE w B b G r V):w.rangeAt b 0 (nB G r V):=by
 intro j v hv;obtain ⟨t,ht⟩:=aCz G r V;have hj:=(List.getElem?_eq_some_iff.1 hv).1;rw[Nat.zero_add];exact H.row.at j v (by rw[ht,List.getElem?_append_left hj];exact hv)
theorem hE.wordsOne (H:hE w B b G r V):(nB G r V).toArray.all (·.oneCell')=true:=by
 obtain ⟨A0,c0,e0⟩:=fL (H.rows.own 0);obtain ⟨A1,c1,e1⟩:=fL (H.rows.own 1);obtain ⟨A2,c2,e2⟩:=fL (H.rows.own 2);unfold nB;rw[e0,e1,e2];kernel_rfl
def tOf (pt qc qa ce ne ix ux ct gt ql bo hs hm hp:Bool):Int :=
 bif ((pt && (qc || qa)) && ce) && ne then (bif ix then 3 else bif ux then 4 else 2)
 else bif ((pt && ct) && gt) && !ql then 5 else bif ((pt && ct) && gt) && bo then 9 else bif hs then 7 else bif ql && bo then 9 else bif ql && hm then 6 else bif ql && hp then 8 else bif (pt && ct) && gt then 5 else 0
theorem aD9 (st:fF) (comp:ByteArray) (path nm:List UInt8) (pt:Bool) (ext:ByteArray) (bo:Bool) :
 mO st comp path nm pt ext bo=tOf pt (jS comp) (kI comp) (listed st.cont ext) (nm != []) (nm==nR) (nm==mU) (nm==lH) (L ext==mT) (eO comp) bo (eY path fS) (eY path jV) (jC.isPrefixOf path):=by
 unfold mO tOf;simp only[Bool.cond_eq_ite,Bool.and_eq_true,bne_iff_ne,beq_iff_eq,Bool.not_eq_true',ne_eq,and_assoc]
theorem aDb (S:lZ w st G.s0 G.s1 G.s2 G.s3) (O:sU st) (H:hE w B b G r V) (e:Nat) (he:G.nEnd=(e:Int)) (hle:e≤G.name.size) (hpz:G.path.size≤1000000) (hlay:G.lay=eO G.comp) :
 Calls Tryz.prog 117 #[.pointer (some ⟨b,0,none⟩)] w fun e' w'=>e' = .returned (.int .i64 (mO st G.comp (L G.path) (L (G.name.extract 0 e)) (decide (0 < r.ids.length)) r.ext r.baseof))∧Below w.heap.size w w':=by
 rw[aD9];have hrng:=H.words;have hone:=H.wordsOne;have hlen:(nB G r V).toArray.size=15:=rfl;have hRZ:=Row.new w WZ.toList 58;obtain ⟨Ai,ci,ei⟩:=fL H.idsRow;have HCE:=aBz hRZ rfl hlen;have hBW:Below w.heap.size w ((w.alloc (.cells WZ.toList.toArray 58)).setCells w.heap.size 0 (nB G r V).toArray.toList):=below_setCells (Nat.le_refl _) _ _ _ ((Below.refl _ _).alloc (Nat.le_refl _) _);have hthere:(w.alloc (.cells WZ.toList.toArray 58)).there w.heap.size 0 (nB G r V).toArray.size:=hRZ.there;have hinf:(Tryz.prog.info? 58).map (·.size)=some (nB G r V).length:=by rw[show (nB G r V).length=15 from rfl];kernel_rfl
 have hinf2:(Tryz.prog.info? 58).map (·.size)=some (nB G r V).toArray.size:=hinf;have HRow:=bW H.row;have HCE:=bW HCE;have HBW:=bW hBW
 obtain ⟨CL,hCL⟩:∃ c,nB G r V=c:=⟨_,rfl⟩
 rw[hCL] at hrng hone HCE HBW hthere hinf hinf2;rw[show WZ.toList.toArray=WZ from rfl] at HCE HBW hthere;have HCL:=bW hCL;clear hlen hRZ H hCL hBW;go_enter Tryz.func117,Tryz.ntmps117
 go_upto_region 2 with (first | (refine wpList_load_mid rfl 58 _ rfl b 0 rfl CL _ hrng Tryz.underlying58 rfl hinf ?_) | (refine wpList_store_mid rfl 58 _ _ rfl w.heap.size 0 CL.toArray rfl rfl hthere hinf2 hone ?_) | fail)
 change Code.wp _ _ _ _ ((w.alloc (.cells WZ 58)).setCells w.heap.size 0 CL.toArray.toList)
 obtain ⟨W,hW⟩:∃ W,(w.alloc (.cells WZ 58)).setCells w.heap.size 0 CL.toArray.toList=W:=⟨_,rfl⟩
 rw[hW] at HCE HBW ⊢
 obtain ⟨nb,hnb⟩:∃ n,w.heap.size=n:=⟨_,rfl⟩
 rw[hnb] at HCE ⊢;have HNB:=bW hnb;clear hW hnb hrng hone hthere hinf hinf2;have lc:∀ j v,(nB G r V)[j]? = some v→W.cell? ⟨nb,j,none⟩=some v:=fun j v h=>HCE.out j v (by rw[← HCL.out];exact h);have LC:=bW lc;have RW:=bW (HRow.out.below HBW.out (HRow.out.lt bN));have SW:=bW (S.below HBW.out);clear lc S;have l2:=LC.out 2 _ rfl;have l3:=LC.out 3 _ rfl;rw[he] at l3;have l4:W.cell? ⟨nb,4,none⟩=some (.slice Ai r.ids.length ci):=by rw[← ei];exact LC.out 4 _ rfl
 obtain ⟨nm,hnm⟩:∃ x,G.name.extract 0 e=x:=⟨_,rfl⟩
 go_upto_region 3 with fail
 try rw[hnm]
 obtain ⟨pt,hpt⟩:∃ q,decide (0 < r.ids.length)=q:=⟨_,rfl⟩
 have hpt2:decide ((0:Int) < (r.ids.length:Int))=pt:=by rw[← hpt];exact decide_eq_decide.2 bA
 have HPT:=bW hpt
 go_cut [5] from 16 to 19 (fun sx wx=>sx = .bool pt∧wx=W)
 case first =>
  cases pt
  ·have:=of_decide_eq_false hpt;go_wp2_with fail
   go_meet
   case rel=>exact ⟨rfl,rfl⟩
  have:=of_decide_eq_true hpt;go_wp2_with fail
  go_meet
  case rel=>exact ⟨rfl,rfl⟩
 obtain ⟨rfl,hwc⟩:=hcut;obtain rfl:W=wc:=hwc.symm;clear hwc hpt hpt2 l2 l3 l4
 obtain ⟨qc,hqc⟩:∃ q,jS G.comp=q:=⟨_,rfl⟩
 obtain ⟨qa,hqa⟩:∃ q,kI G.comp=q:=⟨_,rfl⟩
 obtain ⟨ce,hce⟩:∃ q,listed st.cont r.ext=q:=⟨_,rfl⟩
 obtain ⟨ix,hix⟩:∃ q,(L nm==nR)=q:=⟨_,rfl⟩
 obtain ⟨ux,hux⟩:∃ q,(L nm==mU)=q:=⟨_,rfl⟩
 obtain ⟨ct,hct⟩:∃ q,(L nm==lH)=q:=⟨_,rfl⟩
 obtain ⟨gt,hgt⟩:∃ q,(L r.ext==mT)=q:=⟨_,rfl⟩
 obtain ⟨ql,hql⟩:∃ q,eO G.comp=q:=⟨_,rfl⟩
 obtain ⟨hs,hhs⟩:∃ q,eY (L G.path) fS=q:=⟨_,rfl⟩
 obtain ⟨hm,hhm⟩:∃ q,eY (L G.path) jV=q:=⟨_,rfl⟩
 obtain ⟨hp,hhp⟩:∃ q,jC.isPrefixOf (L G.path)=q:=⟨_,rfl⟩
 obtain ⟨ne,hne⟩:∃ q,(L nm != [])=q:=⟨_,rfl⟩
 obtain ⟨bo,hbo⟩:∃ q,r.baseof=q:=⟨_,rfl⟩
 obtain ⟨TT,hTT⟩:∃ T,tOf pt qc qa ce ne ix ux ct gt ql bo hs hm hp=T:=⟨_,rfl⟩
 have HALL:=bW (show tOf (decide (0 < r.ids.length)) (jS G.comp) (kI G.comp) (listed st.cont r.ext) (L (G.name.extract 0 e) != []) (L (G.name.extract 0 e)==nR) (L (G.name.extract 0 e)==mU) (L (G.name.extract 0 e)==lH) (L r.ext==mT) (eO G.comp) r.baseof (eY (L G.path) fS) (eY (L G.path) jV) (jC.isPrefixOf (L G.path))=TT by rw[HPT.out,hnm,hqc,hqa,hce,hix,hux,hct,hgt,hql,hhs,hhm,hhp,hne,hbo,hTT]);have HTT:=bW hTT;have hc1:(G.comp.toList==[99,111,110,116,101,110,116])=qc:=hqc;have hc2:(G.comp.toList==[97,114,99,104,101,116,121,112,101,115])=qa:=hqa;have hn0:(nm.toList != [])=ne:=by rw[L_toList];exact hne
 have hn1:(nm.toList==[105,110,100,101,120])=ix:=by rw[L_toList];exact hix
 have hn2:(nm.toList==[95,105,110,100,101,120])=ux:=by rw[L_toList];exact hux
 have hn3:(nm.toList==[95,99,111,110,116,101,110,116])=ct:=by rw[L_toList];exact hct
 have hn4:(r.ext.toList==[103,111,116,109,112,108])=gt:=by rw[L_toList];exact hgt
 have HC1:=bW hc1;have HC2:=bW hc2;have HN0:=bW hn0;have HN9:=bW (show (nm.toList==[]) = !ne by rw[← hn0];simp[bne]);have HN1:=bW hn1;have HN2:=bW hn2;have HN3:=bW hn3;have HN4:=bW hn4;have hlr:G.lay=ql:=hlay.trans hql;clear hqc hqa hix hux hct hgt hql hne hTT hc1 hc2 hn0 hn1 hn2 hn3 hn4 hlay;have l0:=LC.out 0 _ rfl;have l7:=LC.out 7 _ rfl;have rc18:=RW.out.at 18 _ rfl;have ca:=fun n=>aIl (w:=W.drewN n) (SW.out.below (eV.below (w:=W) ⟨n,rfl⟩)).c O.c r.ext;rw[hce] at ca;clear hce;refine (show ∀ (a:Act) (w:World),Code.wp _ _ _ a w→_ from by assumption) _ _ ?_;refine wp_seq_k (fun J1 hJ1=>?_)
 go_cut [] from 20 to 49 (fun wx=>Aside0 (Below w.heap.size w wx)∧Aside0 (∃ m,wx=W.drewN m)∧Aside0 ((((pt && (qc || qa)) && ce) && ne)=false))
 case first =>
  have hc1:=HC1.out;have hc2:=HC2.out;have hn0:=HN0.out;have hn9:=HN9.out;cases hq:((((pt && (qc || qa)) && ce) && ne))
  ·skip
   cases pt <;> cases qc <;> cases qa <;> cases ce <;> cases ne
   all_goals first | (cases hq;done) | skip
   all_goals
    go_wp2_with fail
    go_quiet (first | (go_at_call 120;exact Calls.quiet_of (ca _)))
    go_wp2_with fail
    go_meet
    case rel=>exact ⟨⟨eA HBW.out (eV.below (w:=W) ⟨_,rfl⟩)⟩,⟨_,rfl⟩,⟨rfl⟩⟩
  obtain ⟨rfl,hca,rfl,rfl⟩:pt=true∧(qc || qa)=true∧ce=true∧ne=true:=by revert hq;cases pt <;> cases qc <;> cases qa <;> cases ce <;> cases ne <;> simp
  cases qc
  ·obtain rfl:qa=true:=hca;go_wp2_with fail
   go_quiet (first | (go_at_call 120;exact Calls.quiet_of (ca _)))
   have hn1:=HN1.out;have hn2:=HN2.out;have HBq:∀ n,Below w.heap.size w (W.drewN n):=fun n=>eA HBW.out (eV.below (w:=W) ⟨n,rfl⟩);clear ca rc18 l0 l7 hc1 hc2 hn0 hn9;cases ix
   ·cases ux
    ·go_wp2_with fail
     go_ret;have ht:(2:Int)=TT:=by rw[← HTT.out];unfold tOf;first | rfl | (cases qa <;> rfl)
     exact ⟨congrArg (fun x=>Ending.returned (Value.int IntKind.i64 x)) (ht.trans HALL.out.symm),HBq _⟩
    go_wp2_with fail
    go_ret;have ht:(4:Int)=TT:=by rw[← HTT.out];unfold tOf;first | rfl | (cases qa <;> rfl)
    exact ⟨congrArg (fun x=>Ending.returned (Value.int IntKind.i64 x)) (ht.trans HALL.out.symm),HBq _⟩
   go_wp2_with fail
   go_ret;have ht:(3:Int)=TT:=by rw[← HTT.out];unfold tOf;first | rfl | (cases qa <;> rfl)
   exact ⟨congrArg (fun x=>Ending.returned (Value.int IntKind.i64 x)) (ht.trans HALL.out.symm),HBq _⟩
  go_wp2_with fail
  go_quiet (first | (go_at_call 120;exact Calls.quiet_of (ca _)))
  have hn1:=HN1.out;have hn2:=HN2.out;have HBq:∀ n,Below w.heap.size w (W.drewN n):=fun n=>eA HBW.out (eV.below (w:=W) ⟨n,rfl⟩);clear ca rc18 l0 l7 hc1 hc2 hn0 hn9;cases ix
  ·cases ux
   ·go_wp2_with fail
    go_ret;have ht:(2:Int)=TT:=by rw[← HTT.out];unfold tOf;first | rfl | (cases qa <;> rfl)
    exact ⟨congrArg (fun x=>Ending.returned (Value.int IntKind.i64 x)) (ht.trans HALL.out.symm),HBq _⟩
   go_wp2_with fail
   go_ret;have ht:(4:Int)=TT:=by rw[← HTT.out];unfold tOf;first | rfl | (cases qa <;> rfl)
   exact ⟨congrArg (fun x=>Ending.returned (Value.int IntKind.i64 x)) (ht.trans HALL.out.symm),HBq _⟩
  go_wp2_with fail
  go_ret;have ht:(3:Int)=TT:=by rw[← HTT.out];unfold tOf;first | rfl | (cases qa <;> rfl)
  exact ⟨congrArg (fun x=>Ending.returned (Value.int IntKind.i64 x)) (ht.trans HALL.out.symm),HBq _⟩
 obtain ⟨HB,HDR,HF⟩:=hcut;obtain ⟨m,rfl⟩:=HDR.out;refine hJ1 _ _ ?_;clear hJ1;have RD:=bW (RW.out.below (eV.below (w:=W) ⟨m,rfl⟩) (RW.out.lt bN));have l7:(W.drewN m).cell? ⟨nb,7,none⟩=some (.string r.ext):=LC.out 7 _ rfl;have hn3:=HN3.out;have hn4:=HN4.out;go_upto_region 11 with fail
 obtain ⟨da,hda⟩:∃ q,((pt && ct) && gt)=q:=⟨_,rfl⟩
 go_cut [6] from 50 to 59 (fun sx wx=>sx = .bool da∧wx=W.drewN m)
 case first =>
  subst hda;cases pt <;> cases ct <;> cases gt
  all_goals
   go_wp2_with fail
   go_meet
   case rel=>exact ⟨rfl,rfl⟩
 obtain ⟨rfl,hwc⟩:=hcut
 obtain ⟨X,hX⟩:∃ X,W.drewN m=X:=⟨_,rfl⟩
 rw[hX] at hwc RD l7 HB;obtain rfl:X=wc:=hwc.symm;have HBX0:=bW HB.out;have l1:X.cell? ⟨nb,1,none⟩=some (.string G.path):=by rw[← hX];exact LC.out 1 _ rfl
 have rc19:X.cell? ⟨b,19,none⟩=some (.bool ql):=by rw[← hlr];exact RD.out.at 19 _ rfl
 have rc29:X.cell? ⟨b,29,none⟩=some (.bool bo):=by rw[← hbo];exact RD.out.at 29 _ rfl
 have hT2:tOf pt qc qa ce ne ix ux ct gt ql bo hs hm hp=bif da && !ql then 5 else bif da && bo then 9 else bif hs then 7 else bif ql && bo then 9 else bif ql && hm then 6 else bif ql && hp then 8 else bif da then 5 else 0:=by unfold tOf;rw[HF.out,hda];rfl
 rw[HTT.out] at hT2;have HT2:=bW hT2;have cs1:=fun w=>rO G.path ⟨#[47,95,115,104,111,114,116,99,111,100,101,115,47]⟩ hpz bF w;have cs2:=fun w=>rO G.path ⟨#[47,95,109,97,114,107,117,112,47]⟩ hpz bF w;have cs3:=fun w=>aC6 G.path ⟨#[47,95,112,97,114,116,105,97,108,115,47]⟩ w;have h1:eY (L G.path) (L (⟨#[47,95,115,104,111,114,116,99,111,100,101,115,47]⟩:ByteArray))=hs:=hhs;have h2:eY (L G.path) (L (⟨#[47,95,109,97,114,107,117,112,47]⟩:ByteArray))=hm:=hhm;have h3:(L (⟨#[47,95,112,97,114,116,105,97,108,115,47]⟩:ByteArray)).isPrefixOf (L G.path)=hp:=hhp;simp only[h1] at cs1;simp only[h2] at cs2;simp only[h3] at cs3;have CS1:=bW cs1;have CS2:=bW cs2;have CS3:=bW cs3
 clear hwc hX hn3 hn4 l7 hda h1 h2 h3 hhs hhm hhp hbo hT2 cs1 cs2 cs3 HF HTT HB RD hlr
 cases da with
 | true =>
  cases ql with
  | true =>
   cases bo with
   | true =>
    go_wp2_with fail
    go_ret;have ht:(9:Int)=TT:=by rw[HT2.out];rfl
    exact ⟨congrArg (fun x=>Ending.returned (Value.int IntKind.i64 x)) bK,HBX0.out⟩
   | false =>
    go_wp2_with fail
    refine (CS1.out _).mono ?_;rintro e w1 ⟨rfl,hb1⟩;have HBX1:=bW (eA HBX0.out hb1);have LF:=bW (cell_far l1 hb1);have RF:=bW (cell_far rc19 hb1);have RG:=bW (cell_far rc29 hb1);clear l1 rc19 rc29;have l1:=LF.out;have rc19:=RF.out;have rc29:=RG.out;clear hb1 LF RF RG
    cases hs with
    | true =>
     go_wp2_with fail
     go_ret;have ht:(7:Int)=TT:=by rw[HT2.out];rfl
     exact ⟨congrArg (fun x=>Ending.returned (Value.int IntKind.i64 x)) bK,HBX1.out⟩
    | false =>
     go_wp2_with fail
     refine (CS2.out _).mono ?_;rintro e w2 ⟨rfl,hb1⟩;have HBX2:=bW (eA HBX1.out hb1);have LF:=bW (cell_far l1 hb1);have RF:=bW (cell_far rc19 hb1);have RG:=bW (cell_far rc29 hb1);clear l1 rc19 rc29;have l1:=LF.out;have rc19:=RF.out;have rc29:=RG.out;clear hb1 LF RF RG
     cases hm with
     | true =>
      go_wp2_with fail
      go_ret;have ht:(6:Int)=TT:=by rw[HT2.out];rfl
      exact ⟨congrArg (fun x=>Ending.returned (Value.int IntKind.i64 x)) bK,HBX2.out⟩
     | false =>
      go_wp2_with fail
      refine (CS3.out _).mono ?_;rintro e w3 ⟨rfl,hb1⟩;have HBX3:=bW (eA HBX2.out hb1);have LF:=bW (cell_far l1 hb1);have RF:=bW (cell_far rc19 hb1);have RG:=bW (cell_far rc29 hb1);clear l1 rc19 rc29;have l1:=LF.out;have rc19:=RF.out;have rc29:=RG.out;clear hb1 LF RF RG
      cases hp with
      | true =>
       go_wp2_with fail
       go_ret;have ht:(8:Int)=TT:=by rw[HT2.out];rfl
       exact ⟨congrArg (fun x=>Ending.returned (Value.int IntKind.i64 x)) bK,HBX3.out⟩
      | false =>
       go_wp2_with fail
       go_ret;have ht:(5:Int)=TT:=by rw[HT2.out];rfl
       exact ⟨congrArg (fun x=>Ending.returned (Value.int IntKind.i64 x)) bK,HBX3.out⟩
  | false =>
   go_wp2_with fail
   go_ret;have ht:(5:Int)=TT:=by rw[HT2.out];rfl
   exact ⟨congrArg (fun x=>Ending.returned (Value.int IntKind.i64 x)) bK,HBX0.out⟩
 | false =>
  go_wp2_with fail
  refine (CS1.out _).mono ?_;rintro e w1 ⟨rfl,hb1⟩;have HBX1:=bW (eA HBX0.out hb1);have LF:=bW (cell_far l1 hb1);have RF:=bW (cell_far rc19 hb1);have RG:=bW (cell_far rc29 hb1);clear l1 rc19 rc29;have l1:=LF.out;have rc19:=RF.out;have rc29:=RG.out;clear hb1 LF RF RG
  cases hs with
  | true =>
   go_wp2_with fail
   go_ret;have ht:(7:Int)=TT:=by rw[HT2.out];rfl
   exact ⟨congrArg (fun x=>Ending.returned (Value.int IntKind.i64 x)) bK,HBX1.out⟩
  | false =>
   cases ql with
   | true =>
    cases bo with
    | true =>
     go_wp2_with fail
     go_ret;have ht:(9:Int)=TT:=by rw[HT2.out];rfl
     exact ⟨congrArg (fun x=>Ending.returned (Value.int IntKind.i64 x)) bK,HBX1.out⟩
    | false =>
     go_wp2_with fail
     refine (CS2.out _).mono ?_;rintro e w2 ⟨rfl,hb1⟩;have HBX2:=bW (eA HBX1.out hb1);have LF:=bW (cell_far l1 hb1);have RF:=bW (cell_far rc19 hb1);have RG:=bW (cell_far rc29 hb1);clear l1 rc19 rc29;have l1:=LF.out;have rc19:=RF.out;have rc29:=RG.out;clear hb1 LF RF RG
     cases hm with
     | true =>
      go_wp2_with fail
      go_ret;have ht:(6:Int)=TT:=by rw[HT2.out];rfl
      exact ⟨congrArg (fun x=>Ending.returned (Value.int IntKind.i64 x)) bK,HBX2.out⟩
     | false =>
      go_wp2_with fail
      refine (CS3.out _).mono ?_;rintro e w3 ⟨rfl,hb1⟩;have HBX3:=bW (eA HBX2.out hb1);have LF:=bW (cell_far l1 hb1);have RF:=bW (cell_far rc19 hb1);have RG:=bW (cell_far rc29 hb1);clear l1 rc19 rc29;have l1:=LF.out;have rc19:=RF.out;have rc29:=RG.out;clear hb1 LF RF RG
      cases hp with
      | true =>
       go_wp2_with fail
       go_ret;have ht:(8:Int)=TT:=by rw[HT2.out];rfl
       exact ⟨congrArg (fun x=>Ending.returned (Value.int IntKind.i64 x)) bK,HBX3.out⟩
      | false =>
       go_wp2_with fail
       go_ret;have ht:(0:Int)=TT:=by rw[HT2.out];rfl
       exact ⟨congrArg (fun x=>Ending.returned (Value.int IntKind.i64 x)) bK,HBX3.out⟩
   | false =>
    go_wp2_with fail
    go_ret;have ht:(0:Int)=TT:=by rw[HT2.out];rfl
    exact ⟨congrArg (fun x=>Ending.returned (Value.int IntKind.i64 x)) bK,HBX1.out⟩
end
end Go.Proofs.YtlkoeeccebmjmaaGreatDoor.Path
