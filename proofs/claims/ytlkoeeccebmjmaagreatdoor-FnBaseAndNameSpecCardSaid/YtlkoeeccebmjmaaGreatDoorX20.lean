/- Texts that the law leans on: Answers. Condition: as told at each. -/
import Derived.Test.YtlkoeeccebmjmaaGreatDoorXa
import Derived.Test.YtlkoeeccebmjmaaGreatDoorX19
set_option linter.unusedVariables false
set_option linter.unusedSimpArgs false
set_option maxRecDepth 100000
set_option maxHeartbeats 16000000
namespace Go.Proofs.YtlkoeeccebmjmaaGreatDoor.Path
open Go.RowKit Go.WideMaps Go.ZW.PrintWords Go.Proofs.YtlkoeeccebmjmaaGreatDoor.Base Go.Proofs.YtlkoeeccebmjmaaGreatDoor.Lower Go.Proofs.YtlkoeeccebmjmaaGreatDoor.Total Go.Proofs.YtlkoeeccebmjmaaGreatDoor.PCore
open Go.ZW.PrintLast
section
variable {w:World} {x:WV} {A0 A1 A2:Option Addr} {c0 c1 c2:Nat}
def tQ (x:WV):gN:=⟨x.comp,⟨#[]⟩,⟨#[]⟩,⟨#[]⟩,x.name,⟨#[]⟩,⟨#[]⟩,⟨#[]⟩,⟨#[]⟩,x.path,⟨#[]⟩,⟨#[]⟩,⟨#[]⟩,⟨#[]⟩,⟨#[]⟩,x.ext,x.fmt,x.kind,x.lay,x.lang,x.cust,x.langs,x.ids,x.unk,x.dis,false,false,false,false,false,x.typ⟩
def ta7 (x:WV):gN:={ tQ x with dir:=hL x.path,container:=jB x.path,section_:=qN x.path x.typ }
def ta8 (x:WV):gN:={ ta7 x with containerDir:=hL x.path }
def aH7 (x:WV):gN:={ ta8 x with nameNoId:=x.name.extract 0 x.nEnd,nameNoExt:=kH x x.name }
def aFt (x:WV):gN:={ aH7 x with baseName:=x.name.extract 0 x.nEnd }
def tR (x:WV):gN:={ aFt x with isContent:=decide (1≤x.typ∧x.typ≤5),isBundle:=jL x.typ }
def aC9 (x:WV):gN:={ tR x with isLeaf:=(x.typ==3),isBranch:=(x.typ==4),isData:=(x.typ==5) }
def pL (x:WV):gN:={ aC9 x with baseName:=if jL x.typ=true then jB x.path else x.name.extract 0 x.nEnd,containerDir:=mN x }
def aFu (x:WV):gN:={ aC9 x with baseName:=jB x.path }
def aJl (x:WV):gN:={ pL x with pathNoLang:=mG x,pathNoId:=kE x,pathBefore:=kH x x.path }
def aJm (x:WV):gN:={ aJl x with base:=lL x }
def xX (x:WV):gN:={ aJm x with idBase:=lL x }
def vM (x:WV):gN:={ xX x with idBase:=if eO x.comp=true then x.path else lL x }
theorem Row.setAll {w:World} {b:Nat} {cs ds:List Value} (H:Row w b cs) (h:ds.length=cs.length):Row (w.setCells b 0 ds) b ds:=by
 have ht:w.there b 0 ds.length:=h▸H.there;have hr:=World.rangeAt_setCells_same w b 0 ds ht;intro j hj;refine ⟨?_,by rw[World.frozen?_setCells];exact (H j bA).2⟩;have:=hr j (ds[j]'hj) (List.getElem?_eq_getElem hj);rwa[Nat.zero_add] at this
theorem Row.rangeA {w:World} {b:Nat} {cs:List Value} (H:Row w b cs):w.rangeAt b 0 cs:=by
 intro j v hv;rw[Nat.zero_add];exact H.at j v hv
structure AnsAt (w0 w:World) (cs:List Value) (t:gN) (v1 v2 v3:Value):Prop where
 words:Row w w0.heap.size cs
 zero:Row w (w0.heap.size+1) fX
 told:Row w (w0.heap.size+2) (mM t v1 v2 v3)
 below:Below w0.heap.size w0 w
theorem AnsAt.lt {w0 w:World} {cs:List Value} {t:gN} {v1 v2 v3:Value} (H:AnsAt w0 w cs t v1 v2 v3):w0.heap.size+2 < w.heap.size:=H.told.lt (show 0 < 31 by decide)
theorem AnsAt.step {w0 w w' : World} {cs:List Value} {t:gN} {v1 v2 v3:Value} (H:AnsAt w0 w cs t v1 v2 v3) (h:Below w.heap.size w w'):AnsAt w0 w' cs t v1 v2 v3 :=
 have:=H.lt
 ⟨H.words.below h bA,H.zero.below h bA,H.told.below h bA,eA H.below h⟩
theorem AnsAt.put {w0 w:World} {cs:List Value} {t:gN} {v1 v2 v3:Value} (H:AnsAt w0 w cs t v1 v2 v3) (k:Nat) (v:Value) (t' : gN) (hc:(mM t v1 v2 v3).set k v=mM t' v1 v2 v3) (hk:k < 31):AnsAt w0 (w.setCell ⟨w0.heap.size+2,k,none⟩ v) cs t' v1 v2 v3 :=
 ⟨H.words.other (by show w0.heap.size+2≠w0.heap.size;omega) v,H.zero.other (by show w0.heap.size+2≠w0.heap.size+1;omega) v,hc▸H.told.set k v hk,H.below.setCell (p:=⟨w0.heap.size+2,k,none⟩) (by show w0.heap.size≤w0.heap.size+2;omega) v⟩
theorem aGd {x:WV} (O:uH x) (h:jB x.path≠⟨#[]⟩):∃ j,slB (L (hL x.path)) (hL x.path).size=some j∧j≤(hL x.path).size:=by
 unfold jB at h;unfold hL
 cases hs:slB (L x.path) x.path.size with
 | none=>rw[hs] at h;exact absurd rfl h
 | some i =>
  rw[hs] at h
  cases i with
  | zero=>exact absurd rfl h
  | succ a =>
   have hlt:=vI _ _ _ hs;have hz:(x.path.extract 0 (a+1)).size=a+1:=by rw[ByteArray.size_extract];omega
   obtain ⟨j,hj⟩:=xV (l:=L (x.path.extract 0 (a+1))) (by rw[eN,List.drop_zero,List.getElem?_take_of_lt bA];exact O.head) (x.path.extract 0 (a+1)).size bA;exact ⟨j,hj,Nat.le_of_lt (vI _ _ _ hj)⟩
theorem aFr {x:WV} (O:uH x):(hL x.path).size≤1000000:=by
 have:=O.path;unfold hL;split
 ·rw[ByteArray.size_extract];omega
 decide
theorem aA4 (O:uH x) (S0:fA w 0 (.slice A0 x.ids.length c0) x.ids) (S1:fA w 0 (.slice A1 x.unk.length c1) x.unk) (S2:fA w 0 (.slice A2 x.langs.length c2) x.langs) :
 Calls Tryz.prog 49 #[.agg #[.string x.comp,.string x.path,.string x.name,.int .i64 (x.nEnd:Int),.slice A0 x.ids.length c0,.slice A1 x.unk.length c1,.slice A2 x.langs.length c2,.string x.ext,.string x.fmt,.string x.kind,.string x.lay,.string x.lang,.string x.cust,.bool x.dis,.int .i64 x.typ]] w fun e w'=>e = .returned (lX (lJ x) (.slice A2 x.langs.length c2) (.slice A0 x.ids.length c0) (.slice A1 x.unk.length c1))∧Below w.heap.size w w':=by
 have HS0:=bW S0;have HS1:=bW S1;have HS2:=bW S2;have HO:=bW O;clear S0 S1 S2 O;have hR1:=Row.new w [.string x.comp,.string x.path,.string x.name,.int .i64 (x.nEnd:Int),.slice A0 x.ids.length c0,.slice A1 x.unk.length c1,.slice A2 x.langs.length c2,.string x.ext,.string x.fmt,.string x.kind,.string x.lay,.string x.lang,.string x.cust,.bool x.dis,.int .i64 x.typ] 58;have hB1:Below w.heap.size w (w.alloc (.cells #[.string x.comp,.string x.path,.string x.name,.int .i64 (x.nEnd:Int),.slice A0 x.ids.length c0,.slice A1 x.unk.length c1,.slice A2 x.langs.length c2,.string x.ext,.string x.fmt,.string x.kind,.string x.lay,.string x.lang,.string x.cust,.bool x.dis,.int .i64 x.typ] 58)):=(Below.refl _ _).alloc (Nat.le_refl _) _;go_enter Tryz.func49,Tryz.ntmps49;go_upto_region 1 with fail
 obtain ⟨w1,hw1⟩:∃ z,w.alloc (.cells #[.string x.comp,.string x.path,.string x.name,.int .i64 (x.nEnd:Int),.slice A0 x.ids.length c0,.slice A1 x.unk.length c1,.slice A2 x.langs.length c2,.string x.ext,.string x.fmt,.string x.kind,.string x.lay,.string x.lang,.string x.cust,.bool x.dis,.int .i64 x.typ] 58)=z:=⟨_,rfl⟩
 rw[hw1] at hR1 hB1 ⊢;have hz1:w1.heap.size=w.heap.size+1:=by rw[← hw1];simp
 clear hw1;have hR2:=Row.new w1 fX 28;have hB2:Below w1.heap.size w1 (w1.alloc (.cells fX.toArray 28)):=(Below.refl _ _).alloc (Nat.le_refl _) _;change Code.wp _ _ _ _ (w1.alloc (.cells fX.toArray 28))
 obtain ⟨w2,hw2⟩:∃ z,w1.alloc (.cells fX.toArray 28)=z:=⟨_,rfl⟩
 have hz2:w2.heap.size=w.heap.size+2:=by rw[← hw2];simp[hz1]
 rw[hw2] at hR2 hB2 ⊢;rw[hz1] at hR2 hB2;clear hw2;have HW2:=bW (hR1.below hB2 bA);have HZ2:=bW hR2;have HB2:=bW (hB1.trans (hB2.mono bA));clear hR1 hB1 hR2 hB2 hz1;have rc0:=HW2.out.at 0 _ rfl;have rc1:=HW2.out.at 1 _ rfl;have rc2:=HW2.out.at 2 _ rfl;have rc3:=HW2.out.at 3 _ rfl;have rc4:=HW2.out.at 4 _ rfl;have rc5:=HW2.out.at 5 _ rfl;have rc6:=HW2.out.at 6 _ rfl;have rc7:=HW2.out.at 7 _ rfl;have rc8:=HW2.out.at 8 _ rfl;have rc9:=HW2.out.at 9 _ rfl;have rc10:=HW2.out.at 10 _ rfl;have rc11:=HW2.out.at 11 _ rfl;have rc12:=HW2.out.at 12 _ rfl;have rc13:=HW2.out.at 13 _ rfl;have rc14:=HW2.out.at 14 _ rfl;go_wp2_with fail
 have hRt:=Row.new w2 fX 28;rw[hz2] at hRt
 obtain ⟨C,hC⟩:∃ C:Array Value,(mM (tQ x) (.slice A2 x.langs.length c2) (.slice A0 x.ids.length c0) (.slice A1 x.unk.length c1)).toArray=C:=⟨_,rfl⟩
 refine xC 28 _ C rfl (hC▸by kernel_rfl) ?_;have hs:C.size=31:=by rw[← hC];rfl
 have hone:C.all (·.oneCell')=true:=by rw[← hC];kernel_rfl
 have hinf:(Tryz.prog.info? 28).map (·.size)=some C.size:=by rw[hs];kernel_rfl
 have hthere:(w2.alloc (.cells fX.toArray 28)).there (w.heap.size+2) 0 C.size:=by rw[hs];exact hRt.there
 have hb3:Below w2.heap.size w2 ((w2.alloc (.cells fX.toArray 28)).setCells (w.heap.size+2) 0 C.toList):=below_setCells bA _ _ _ ((Below.refl _ _).alloc (Nat.le_refl _) _);have hRs:Row ((w2.alloc (.cells fX.toArray 28)).setCells (w.heap.size+2) 0 C.toList) (w.heap.size+2) C.toList:=hRt.setAll (by rw[Array.length_toList,hs];rfl);have hCl:C.toList=(mM (tQ x) (.slice A2 x.langs.length c2) (.slice A0 x.ids.length c0) (.slice A1 x.unk.length c1)):=by rw[← hC]
 have HA:=bW (show AnsAt w ((w2.alloc (.cells fX.toArray 28)).setCells (w.heap.size+2) 0 C.toList) [.string x.comp,.string x.path,.string x.name,.int .i64 (x.nEnd:Int),.slice A0 x.ids.length c0,.slice A1 x.unk.length c1,.slice A2 x.langs.length c2,.string x.ext,.string x.fmt,.string x.kind,.string x.lay,.string x.lang,.string x.cust,.bool x.dis,.int .i64 x.typ] (tQ x) (.slice A2 x.langs.length c2) (.slice A0 x.ids.length c0) (.slice A1 x.unk.length c1) from ⟨HW2.out.below hb3 bA,HZ2.out.below hb3 bA,hCl▸hRs,HB2.out.trans (hb3.mono bA)⟩);clear hRt hC hs hb3 hRs hCl HW2 HZ2 HB2 rc0 rc1 rc2 rc3 rc4 rc5 rc6 rc7 rc8 rc9 rc10 rc11 rc12 rc13 rc14
 rw[show fX.toArray=(#[.string ⟨#[]⟩,.string ⟨#[]⟩,.string ⟨#[]⟩,.string ⟨#[]⟩,.string ⟨#[]⟩,.string ⟨#[]⟩,.string ⟨#[]⟩,.string ⟨#[]⟩,.string ⟨#[]⟩,.string ⟨#[]⟩,.string ⟨#[]⟩,.string ⟨#[]⟩,.string ⟨#[]⟩,.string ⟨#[]⟩,.string ⟨#[]⟩,.string ⟨#[]⟩,.string ⟨#[]⟩,.string ⟨#[]⟩,.string ⟨#[]⟩,.string ⟨#[]⟩,.string ⟨#[]⟩,.slice none 0 0,.slice none 0 0,.slice none 0 0,.bool false,.bool false,.bool false,.bool false,.bool false,.bool false,.int .i64 0]:Array Value) from rfl] at hthere HA
 go_upto_region 2 with (first | (refine wpList_store_mid rfl 28 _ _ rfl (w.heap.size+2) 0 C rfl rfl hthere hinf hone ?_) | fail)
 obtain ⟨w3,hw3⟩:∃ z,(w2.alloc (.cells #[.string ⟨#[]⟩,.string ⟨#[]⟩,.string ⟨#[]⟩,.string ⟨#[]⟩,.string ⟨#[]⟩,.string ⟨#[]⟩,.string ⟨#[]⟩,.string ⟨#[]⟩,.string ⟨#[]⟩,.string ⟨#[]⟩,.string ⟨#[]⟩,.string ⟨#[]⟩,.string ⟨#[]⟩,.string ⟨#[]⟩,.string ⟨#[]⟩,.string ⟨#[]⟩,.string ⟨#[]⟩,.string ⟨#[]⟩,.string ⟨#[]⟩,.string ⟨#[]⟩,.string ⟨#[]⟩,.slice none 0 0,.slice none 0 0,.slice none 0 0,.bool false,.bool false,.bool false,.bool false,.bool false,.bool false,.int .i64 0] 28)).setCells (w.heap.size+2) 0 C.toList=z:=⟨_,rfl⟩
 rw[hw3] at HA ⊢;have H3:=HA;clear HA hw3 hthere hinf hone hz2;have rc0_3:=H3.out.words.at 0 _ rfl;have rc1_3:=H3.out.words.at 1 _ rfl;have rc2_3:=H3.out.words.at 2 _ rfl;have rc3_3:=H3.out.words.at 3 _ rfl;have rc4_3:=H3.out.words.at 4 _ rfl;have rc5_3:=H3.out.words.at 5 _ rfl;have rc6_3:=H3.out.words.at 6 _ rfl;have rc7_3:=H3.out.words.at 7 _ rfl;have rc8_3:=H3.out.words.at 8 _ rfl;have rc9_3:=H3.out.words.at 9 _ rfl;have rc10_3:=H3.out.words.at 10 _ rfl;have rc11_3:=H3.out.words.at 11 _ rfl;have rc12_3:=H3.out.words.at 12 _ rfl;have rc13_3:=H3.out.words.at 13 _ rfl;have rc14_3:=H3.out.words.at 14 _ rfl;go_upto_region 2 with fail
 refine hY (n:=14) (S:=fun w'=>w'.cell? ⟨w.heap.size,0,none⟩=some (.string x.comp)∧w'.cell? ⟨w.heap.size,1,none⟩=some (.string x.path)∧w'.cell? ⟨w.heap.size,2,none⟩=some (.string x.name)∧w'.cell? ⟨w.heap.size,3,none⟩=some (.int .i64 (x.nEnd:Int))∧w'.cell? ⟨w.heap.size,4,none⟩=some (.slice A0 x.ids.length c0)∧w'.cell? ⟨w.heap.size,5,none⟩=some (.slice A1 x.unk.length c1)∧w'.cell? ⟨w.heap.size,6,none⟩=some (.slice A2 x.langs.length c2)∧w'.cell? ⟨w.heap.size,7,none⟩=some (.string x.ext)∧w'.cell? ⟨w.heap.size,8,none⟩=some (.string x.fmt)∧w'.cell? ⟨w.heap.size,9,none⟩=some (.string x.kind)∧w'.cell? ⟨w.heap.size,10,none⟩=some (.string x.lay)∧w'.cell? ⟨w.heap.size,11,none⟩=some (.string x.lang)∧w'.cell? ⟨w.heap.size,12,none⟩=some (.string x.cust)∧w'.cell? ⟨w.heap.size,13,none⟩=some (.bool x.dis)∧w'.cell? ⟨w.heap.size,14,none⟩=some (.int .i64 x.typ)) (ds:=[9,11,13]) _ bB rfl rfl ⟨rc0_3,rc1_3,rc2_3,rc3_3,rc4_3,rc5_3,rc6_3,rc7_3,rc8_3,rc9_3,rc10_3,rc11_3,rc12_3,rc13_3,rc14_3⟩ (fun hHeld=>?_)
 refine sA1 0 (some 33) sB1 ?_
 refine sA1 3 (some 36) sB1 ?_
 refine sC1 1 (some 34) sM1 ?_
 refine sC1 4 (some 37) sM1 ?_
 refine sC1 6 (some 39) sM1 ?_
 refine sF1 2 (some 35) sG1 (fun K hK=>?_);refine lA Tryz.func101 bB rfl #[.string x.path] bH rfl rfl bI ?_
 with_reducible refine ((aDk x.path HO.out.path w3.drew)).mono ?_
 rintro e w4 ⟨rfl,hb4⟩;refine ⟨_,rfl,?_⟩;have rc0_4:=cell_far (w:=w3.drew) rc0_3 hb4;have rc1_4:=cell_far (w:=w3.drew) rc1_3 hb4;have rc2_4:=cell_far (w:=w3.drew) rc2_3 hb4;have rc3_4:=cell_far (w:=w3.drew) rc3_3 hb4;have rc4_4:=cell_far (w:=w3.drew) rc4_3 hb4;have rc5_4:=cell_far (w:=w3.drew) rc5_3 hb4;have rc6_4:=cell_far (w:=w3.drew) rc6_3 hb4;have rc7_4:=cell_far (w:=w3.drew) rc7_3 hb4;have rc8_4:=cell_far (w:=w3.drew) rc8_3 hb4;have rc9_4:=cell_far (w:=w3.drew) rc9_3 hb4;have rc10_4:=cell_far (w:=w3.drew) rc10_3 hb4;have rc11_4:=cell_far (w:=w3.drew) rc11_3 hb4;have rc12_4:=cell_far (w:=w3.drew) rc12_3 hb4;have rc13_4:=cell_far (w:=w3.drew) rc13_3 hb4;have rc14_4:=cell_far (w:=w3.drew) rc14_3 hb4;have H4:=bW (H3.out.step (eA (Below.refl w3.heap.size w3).drew hb4))
 refine hK.out _ _ ⟨rc0_4,rc1_4,rc2_4,rc3_4,rc4_4,rc5_4,rc6_4,rc7_4,rc8_4,rc9_4,rc10_4,rc11_4,rc12_4,rc13_4,rc14_4⟩ (fun hHeld=>?_);clear hK K;refine gJ sJ1 ?_
 refine sA1 8 (some 41) sB1 ?_
 refine sF1 5 (some 38) sG1 (fun K hK=>?_);refine lA Tryz.func102 bB rfl #[.string x.path] bH rfl rfl bI ?_
 with_reducible refine ((wD x.path HO.out.path HO.out.head w4)).mono ?_
 rintro e w5 ⟨rfl,hb5⟩;refine ⟨_,rfl,?_⟩;have rc0_5:=cell_far (w:=w4) rc0_4 hb5;have rc1_5:=cell_far (w:=w4) rc1_4 hb5;have rc2_5:=cell_far (w:=w4) rc2_4 hb5;have rc3_5:=cell_far (w:=w4) rc3_4 hb5;have rc4_5:=cell_far (w:=w4) rc4_4 hb5;have rc5_5:=cell_far (w:=w4) rc5_4 hb5;have rc6_5:=cell_far (w:=w4) rc6_4 hb5;have rc7_5:=cell_far (w:=w4) rc7_4 hb5;have rc8_5:=cell_far (w:=w4) rc8_4 hb5;have rc9_5:=cell_far (w:=w4) rc9_4 hb5;have rc10_5:=cell_far (w:=w4) rc10_4 hb5;have rc11_5:=cell_far (w:=w4) rc11_4 hb5;have rc12_5:=cell_far (w:=w4) rc12_4 hb5;have rc13_5:=cell_far (w:=w4) rc13_4 hb5;have rc14_5:=cell_far (w:=w4) rc14_4 hb5;have H5:=bW (H4.out.step hb5);refine hK.out _ _ ⟨rc0_5,rc1_5,rc2_5,rc3_5,rc4_5,rc5_5,rc6_5,rc7_5,rc8_5,rc9_5,rc10_5,rc11_5,rc12_5,rc13_5,rc14_5⟩ (fun hHeld=>?_)
 clear hK K;refine gJ sJ1 ?_
 refine sF1 7 (some 40) sG1 (fun K hK=>?_);refine lA Tryz.func103 bB rfl #[.agg #[.string x.comp,.string x.path,.string x.name,.int .i64 (x.nEnd:Int),.slice A0 x.ids.length c0,.slice A1 x.unk.length c1,.slice A2 x.langs.length c2,.string x.ext,.string x.fmt,.string x.kind,.string x.lay,.string x.lang,.string x.cust,.bool x.dis,.int .i64 x.typ]] bH rfl rfl bI ?_
 with_reducible refine ((yY HO.out (HS0.out.below (H5.out.below)) (HS1.out.below (H5.out.below)) (HS2.out.below (H5.out.below)))).mono ?_
 rintro e w6 ⟨rfl,hb6⟩;refine ⟨_,rfl,?_⟩;have rc0_6:=cell_far (w:=w5) rc0_5 hb6;have rc1_6:=cell_far (w:=w5) rc1_5 hb6;have rc2_6:=cell_far (w:=w5) rc2_5 hb6;have rc3_6:=cell_far (w:=w5) rc3_5 hb6;have rc4_6:=cell_far (w:=w5) rc4_5 hb6;have rc5_6:=cell_far (w:=w5) rc5_5 hb6;have rc6_6:=cell_far (w:=w5) rc6_5 hb6;have rc7_6:=cell_far (w:=w5) rc7_5 hb6;have rc8_6:=cell_far (w:=w5) rc8_5 hb6;have rc9_6:=cell_far (w:=w5) rc9_5 hb6;have rc10_6:=cell_far (w:=w5) rc10_5 hb6;have rc11_6:=cell_far (w:=w5) rc11_5 hb6;have rc12_6:=cell_far (w:=w5) rc12_5 hb6;have rc13_6:=cell_far (w:=w5) rc13_5 hb6;have rc14_6:=cell_far (w:=w5) rc14_5 hb6;have H6:=bW (H5.out.step hb6);have rt8:=H6.out.told.at 8 _ rfl;have rf8:=H6.out.told.free 8 (show 8 < 31 by decide);have rt1:=H6.out.told.at 1 _ rfl
 have rf1:=H6.out.told.free 1 (show 1 < 31 by decide);have rt3:=H6.out.told.at 3 _ rfl;have rf3:=H6.out.told.free 3 (show 3 < 31 by decide);refine hK.out _ _ ⟨rc0_6,rc1_6,rc2_6,rc3_6,rc4_6,rc5_6,rc6_6,rc7_6,rc8_6,rc9_6,rc10_6,rc11_6,rc12_6,rc13_6,rc14_6⟩ (fun hHeld=>?_);clear hK K;refine gJ sJ1 ?_
 refine sH1 9 none sI1 (fun K hK=>?_);refine iO (w1:=?_) bH rfl ?_ ?_;rotate_left
 ·go_simp;rfl
 refine hK.out _ _ ?_;clear hK K;refine sA1 10 (some 42) sB1 ?_
 refine sH1 11 none sI1 (fun K hK=>?_);refine iO (w1:=?_) bH rfl ?_ ?_;rotate_left
 ·go_simp;rfl
 refine hK.out _ _ ?_;clear hK K;refine sA1 12 (some 43) sB1 ?_
 refine sH1 13 none sI1 (fun K hK=>?_);refine iO (w1:=?_) bH rfl ?_ ?_;rotate_left
 ·go_simp;rfl
 refine hK.out _ _ ?_;clear hK K;refine iK bB ?_;have hA:=(((H6.out).put 8 (.string (hL x.path)) ({ tQ x with dir:=hL x.path }:gN) rfl bF).put 1 (.string (jB x.path)) ({ ({ tQ x with dir:=hL x.path }:gN) with container:=jB x.path }:gN) rfl bF).put 3 (.string (qN x.path x.typ)) ({ ({ ({ tQ x with dir:=hL x.path }:gN) with container:=jB x.path }:gN) with section_:=qN x.path x.typ }:gN) rfl bF
 obtain ⟨w7,hw7⟩:∃ z,(((w6).setCell ⟨w.heap.size+2,8,none⟩ (.string (hL x.path))).setCell ⟨w.heap.size+2,1,none⟩ (.string (jB x.path))).setCell ⟨w.heap.size+2,3,none⟩ (.string (qN x.path x.typ))=z:=⟨_,rfl⟩
 rw[hw7] at hA ⊢;have H7:=bW (show AnsAt w w7 [.string x.comp,.string x.path,.string x.name,.int .i64 (x.nEnd:Int),.slice A0 x.ids.length c0,.slice A1 x.unk.length c1,.slice A2 x.langs.length c2,.string x.ext,.string x.fmt,.string x.kind,.string x.lay,.string x.lang,.string x.cust,.bool x.dis,.int .i64 x.typ] (ta7 x) (.slice A2 x.langs.length c2) (.slice A0 x.ids.length c0) (.slice A1 x.unk.length c1) from hA);clear hA hw7 H6 rc0_3 rc0_4 rc0_5 rc0_6 rc1_3 rc1_4 rc1_5 rc1_6 rc2_3 rc2_4 rc2_5 rc2_6 rc3_3 rc3_4 rc3_5 rc3_6 rc4_3 rc4_4 rc4_5 rc4_6 rc5_3 rc5_4 rc5_5 rc5_6 rc6_3 rc6_4 rc6_5 rc6_6 rc7_3 rc7_4 rc7_5 rc7_6 rc8_3 rc8_4 rc8_5 rc8_6 rc9_3 rc9_4 rc9_5 rc9_6 rc10_3 rc10_4 rc10_5 rc10_6 rc11_3 rc11_4 rc11_5 rc11_6 rc12_3 rc12_4 rc12_5 rc12_6 rc13_3 rc13_4 rc13_5 rc13_6 rc14_3 rc14_4 rc14_5 rc14_6 rt8 rf8 rt1 rf1 rt3 rf3 hb4 hb5 hb6 hHeld
 have rt8:w7.cell? ⟨w.heap.size+2,8,none⟩=some (.string (hL x.path)):=H7.out.told.at 8 _ rfl;have rt2:=H7.out.told.at 2 _ rfl;have rf2:=H7.out.told.free 2 (show 2 < 31 by decide);go_upto_region 4 with fail
 have hA:=(H7.out).put 2 (.string (hL x.path)) ({ ta7 x with containerDir:=hL x.path }:gN) rfl bF
 obtain ⟨w8,hw8⟩:∃ z,(w7).setCell ⟨w.heap.size+2,2,none⟩ (.string (hL x.path))=z:=⟨_,rfl⟩
 rw[hw8] at hA ⊢;have H8:=bW (show AnsAt w w8 [.string x.comp,.string x.path,.string x.name,.int .i64 (x.nEnd:Int),.slice A0 x.ids.length c0,.slice A1 x.unk.length c1,.slice A2 x.langs.length c2,.string x.ext,.string x.fmt,.string x.kind,.string x.lay,.string x.lang,.string x.cust,.bool x.dis,.int .i64 x.typ] (ta8 x) (.slice A2 x.langs.length c2) (.slice A0 x.ids.length c0) (.slice A1 x.unk.length c1) from hA);clear hA hw8 H7 rt8 rt2 rf2;have hnE:x.nEnd≤x.name.size:=HO.out.nEnd;have rc0_8:=H8.out.words.at 0 _ rfl;have rc1_8:=H8.out.words.at 1 _ rfl;have rc2_8:=H8.out.words.at 2 _ rfl;have rc3_8:=H8.out.words.at 3 _ rfl;have rc4_8:=H8.out.words.at 4 _ rfl;have rc5_8:=H8.out.words.at 5 _ rfl;have rc6_8:=H8.out.words.at 6 _ rfl;have rc7_8:=H8.out.words.at 7 _ rfl;have rc8_8:=H8.out.words.at 8 _ rfl;have rc9_8:=H8.out.words.at 9 _ rfl
 have rc10_8:=H8.out.words.at 10 _ rfl;have rc11_8:=H8.out.words.at 11 _ rfl;have rc12_8:=H8.out.words.at 12 _ rfl;have rc13_8:=H8.out.words.at 13 _ rfl;have rc14_8:=H8.out.words.at 14 _ rfl;go_upto_region 4 with fail
 refine hY (n:=13) (S:=fun w'=>w'.cell? ⟨w.heap.size,0,none⟩=some (.string x.comp)∧w'.cell? ⟨w.heap.size,1,none⟩=some (.string x.path)∧w'.cell? ⟨w.heap.size,2,none⟩=some (.string x.name)∧w'.cell? ⟨w.heap.size,3,none⟩=some (.int .i64 (x.nEnd:Int))∧w'.cell? ⟨w.heap.size,4,none⟩=some (.slice A0 x.ids.length c0)∧w'.cell? ⟨w.heap.size,5,none⟩=some (.slice A1 x.unk.length c1)∧w'.cell? ⟨w.heap.size,6,none⟩=some (.slice A2 x.langs.length c2)∧w'.cell? ⟨w.heap.size,7,none⟩=some (.string x.ext)∧w'.cell? ⟨w.heap.size,8,none⟩=some (.string x.fmt)∧w'.cell? ⟨w.heap.size,9,none⟩=some (.string x.kind)∧w'.cell? ⟨w.heap.size,10,none⟩=some (.string x.lay)∧w'.cell? ⟨w.heap.size,11,none⟩=some (.string x.lang)∧w'.cell? ⟨w.heap.size,12,none⟩=some (.string x.cust)∧w'.cell? ⟨w.heap.size,13,none⟩=some (.bool x.dis)∧w'.cell? ⟨w.heap.size,14,none⟩=some (.int .i64 x.typ)) (ds:=[10,12]) _ bB rfl rfl ⟨rc0_8,rc1_8,rc2_8,rc3_8,rc4_8,rc5_8,rc6_8,rc7_8,rc8_8,rc9_8,rc10_8,rc11_8,rc12_8,rc13_8,rc14_8⟩ (fun hHeld=>?_)
 refine sA1 0 (some 47) sB1 ?_
 refine sA1 2 (some 49) sB1 ?_
 refine sA1 6 (some 53) sB1 ?_
 refine sC1 1 (some 48) sM1 ?_
 refine sC1 3 (some 50) sM1 ?_
 refine sA1 4 (some 51) sB1 ?_
 refine sA1 9 (some 56) sB1 ?_
 refine sC1 5 (some 52) sM1 ?_
 refine sC1 7 (some 54) sM1 ?_
 refine sF1 8 (some 55) sG1 (fun K hK=>?_);refine lA Tryz.func104 bB rfl #[.agg #[.string x.comp,.string x.path,.string x.name,.int .i64 (x.nEnd:Int),.slice A0 x.ids.length c0,.slice A1 x.unk.length c1,.slice A2 x.langs.length c2,.string x.ext,.string x.fmt,.string x.kind,.string x.lay,.string x.lang,.string x.cust,.bool x.dis,.int .i64 x.typ],.string x.name] bH rfl rfl bI ?_
 with_reducible refine ((rU HO.out (HS0.out.below (H8.out.below.trans (Below.refl w.heap.size w8).drew)) (HS1.out.below (H8.out.below.trans (Below.refl w.heap.size w8).drew)) (HS2.out.below (H8.out.below.trans (Below.refl w.heap.size w8).drew)) x.name (by have:=HO.out.name;have:=HO.out.path;omega) (Nat.le_refl _))).mono ?_
 rintro e w9 ⟨rfl,hb9⟩;refine ⟨_,rfl,?_⟩;have rc0_9:=cell_far (w:=w8.drew) rc0_8 hb9;have rc1_9:=cell_far (w:=w8.drew) rc1_8 hb9;have rc2_9:=cell_far (w:=w8.drew) rc2_8 hb9;have rc3_9:=cell_far (w:=w8.drew) rc3_8 hb9;have rc4_9:=cell_far (w:=w8.drew) rc4_8 hb9;have rc5_9:=cell_far (w:=w8.drew) rc5_8 hb9;have rc6_9:=cell_far (w:=w8.drew) rc6_8 hb9;have rc7_9:=cell_far (w:=w8.drew) rc7_8 hb9;have rc8_9:=cell_far (w:=w8.drew) rc8_8 hb9;have rc9_9:=cell_far (w:=w8.drew) rc9_8 hb9;have rc10_9:=cell_far (w:=w8.drew) rc10_8 hb9;have rc11_9:=cell_far (w:=w8.drew) rc11_8 hb9;have rc12_9:=cell_far (w:=w8.drew) rc12_8 hb9;have rc13_9:=cell_far (w:=w8.drew) rc13_8 hb9;have rc14_9:=cell_far (w:=w8.drew) rc14_8 hb9;have H9:=bW (H8.out.step (eA (Below.refl w8.heap.size w8).drew hb9));have rt7:=H9.out.told.at 7 _ rfl
 have rf7:=H9.out.told.free 7 (show 7 < 31 by decide);have rt5:=H9.out.told.at 5 _ rfl;have rf5:=H9.out.told.free 5 (show 5 < 31 by decide);refine hK.out _ _ ⟨rc0_9,rc1_9,rc2_9,rc3_9,rc4_9,rc5_9,rc6_9,rc7_9,rc8_9,rc9_9,rc10_9,rc11_9,rc12_9,rc13_9,rc14_9⟩ (fun hHeld=>?_);clear hK K;refine gJ sJ1 ?_
 refine sH1 10 none sI1 (fun K hK=>?_);refine iO (w1:=?_) bH rfl ?_ ?_;rotate_left
 ·go_simp;rfl
 refine hK.out _ _ ?_;clear hK K;refine sA1 11 (some 57) sB1 ?_
 refine sH1 12 none sI1 (fun K hK=>?_);refine iO (w1:=?_) bH rfl ?_ ?_;rotate_left
 ·go_simp;rfl
 refine hK.out _ _ ?_;clear hK K;refine iK bB ?_;have hA:=((H9.out).put 7 (.string (x.name.extract 0 x.nEnd)) ({ ta8 x with nameNoId:=x.name.extract 0 x.nEnd }:gN) rfl bF).put 5 (.string (kH x x.name)) ({ ({ ta8 x with nameNoId:=x.name.extract 0 x.nEnd }:gN) with nameNoExt:=kH x x.name }:gN) rfl bF
 obtain ⟨w10,hw10⟩:∃ z,((w9).setCell ⟨w.heap.size+2,7,none⟩ (.string (x.name.extract 0 x.nEnd))).setCell ⟨w.heap.size+2,5,none⟩ (.string (kH x x.name))=z:=⟨_,rfl⟩
 rw[hw10] at hA ⊢;have H10:=bW (show AnsAt w w10 [.string x.comp,.string x.path,.string x.name,.int .i64 (x.nEnd:Int),.slice A0 x.ids.length c0,.slice A1 x.unk.length c1,.slice A2 x.langs.length c2,.string x.ext,.string x.fmt,.string x.kind,.string x.lay,.string x.lang,.string x.cust,.bool x.dis,.int .i64 x.typ] (aH7 x) (.slice A2 x.langs.length c2) (.slice A0 x.ids.length c0) (.slice A1 x.unk.length c1) from hA);clear hA hw10 H9 rc0_8 rc0_9 rc1_8 rc1_9 rc2_8 rc2_9 rc3_8 rc3_9 rc4_8 rc4_9 rc5_8 rc5_9 rc6_8 rc6_9 rc7_8 rc7_9 rc8_8 rc8_9 rc9_8 rc9_9 rc10_8 rc10_9 rc11_8 rc11_9 rc12_8 rc12_9 rc13_8 rc13_9 rc14_8 rc14_9 rt7 rf7 rt5 rf5 hb9 hHeld hnE;have rt7:w10.cell? ⟨w.heap.size+2,7,none⟩=some (.string (x.name.extract 0 x.nEnd)):=H10.out.told.at 7 _ rfl;have rt6:=H10.out.told.at 6 _ rfl;have rf6:=H10.out.told.free 6 (show 6 < 31 by decide)
 go_upto_region 6 with fail
 have hA:=(H10.out).put 6 (.string (x.name.extract 0 x.nEnd)) ({ aH7 x with baseName:=x.name.extract 0 x.nEnd }:gN) rfl bF
 obtain ⟨w11,hw11⟩:∃ z,(w10).setCell ⟨w.heap.size+2,6,none⟩ (.string (x.name.extract 0 x.nEnd))=z:=⟨_,rfl⟩
 rw[hw11] at hA ⊢;have H11:=bW (show AnsAt w w11 [.string x.comp,.string x.path,.string x.name,.int .i64 (x.nEnd:Int),.slice A0 x.ids.length c0,.slice A1 x.unk.length c1,.slice A2 x.langs.length c2,.string x.ext,.string x.fmt,.string x.kind,.string x.lay,.string x.lang,.string x.cust,.bool x.dis,.int .i64 x.typ] (aFt x) (.slice A2 x.langs.length c2) (.slice A0 x.ids.length c0) (.slice A1 x.unk.length c1) from hA);clear hA hw11 H10 rt7 rt6 rf6
 go_cut [] from 61 to 73 (fun wx=>Aside0 (AnsAt w wx [.string x.comp,.string x.path,.string x.name,.int .i64 (x.nEnd:Int),.slice A0 x.ids.length c0,.slice A1 x.unk.length c1,.slice A2 x.langs.length c2,.string x.ext,.string x.fmt,.string x.kind,.string x.lay,.string x.lang,.string x.cust,.bool x.dis,.int .i64 x.typ] (tR x) (.slice A2 x.langs.length c2) (.slice A0 x.ids.length c0) (.slice A1 x.unk.length c1)))
 case first =>
  by_cases hq1:1≤x.typ
  ·have hq:decide (1≤x.typ)=true:=decide_eq_true hq1;have HV:=bW (show decide (x.typ≤5)=decide (1≤x.typ∧x.typ≤5) from decide_eq_decide.2 ⟨fun h=>⟨hq1,h⟩,fun h=>h.2⟩);clear hq1;have rc14_11:=H11.out.words.at 14 _ rfl;go_upto_region 6 with fail
   refine hY (n:=15) (S:=fun w'=>w'.cell? ⟨w.heap.size,14,none⟩=some (.int .i64 x.typ)) (ds:=[12,14]) _ bB rfl rfl (rc14_11) (fun hHeld=>?_);refine sA1 0 (some 61) sB1 ?_
   refine sA1 8 (some 69) sB1 ?_
   refine sC1 1 (some 62) sK1 ?_
   refine sA1 2 (some 63) sB1 ?_
   refine sA1 3 (some 64) sB1 ?_
   refine sA1 4 (some 65) sB1 ?_
   refine sC1 5 (some 66) sK1 ?_
   refine sA1 6 (some 67) sB1 ?_
   refine sA1 7 (some 68) sB1 ?_
   refine sA1 11 (some 72) sB1 ?_
   refine sC1 9 (some 70) sK1 ?_
   refine sF1 10 (some 71) sG1 (fun K hK=>?_);refine lA Tryz.func105 bB rfl #[.int .i64 x.typ] bH rfl rfl bI ?_
   with_reducible refine ((sP x.typ w11.drew)).mono ?_
   rintro e w12 ⟨rfl,hb12⟩;refine ⟨_,rfl,?_⟩;have rc14_12:=cell_far (w:=w11.drew) rc14_11 hb12;have H12:=bW (H11.out.step (eA (Below.refl w11.heap.size w11).drew hb12));have rt25:=H12.out.told.at 25 _ rfl;have rf25:=H12.out.told.free 25 (show 25 < 31 by decide);have rt26:=H12.out.told.at 26 _ rfl;have rf26:=H12.out.told.free 26 (show 26 < 31 by decide);refine hK.out _ _ (rc14_12) (fun hHeld=>?_);clear hK K;refine gJ sJ1 ?_
   refine sH1 12 none sI1 (fun K hK=>?_);refine iO (w1:=?_) bH rfl ?_ ?_;rotate_left
   ·go_simp;rfl
   refine hK.out _ _ ?_;clear hK K;refine sA1 13 (some 73) sB1 ?_
   refine sH1 14 none sI1 (fun K hK=>?_);refine iO (w1:=?_) bH rfl ?_ ?_;rotate_left
   ·go_simp;rfl
   refine hK.out _ _ ?_;clear hK K;refine iK bB ?_;have HX:=bW (show AnsAt w ((w12.setCell ⟨w.heap.size+2,25,none⟩ (.bool (decide (x.typ≤5)))).setCell ⟨w.heap.size+2,26,none⟩ (.bool (jL x.typ))) [.string x.comp,.string x.path,.string x.name,.int .i64 (x.nEnd:Int),.slice A0 x.ids.length c0,.slice A1 x.unk.length c1,.slice A2 x.langs.length c2,.string x.ext,.string x.fmt,.string x.kind,.string x.lay,.string x.lang,.string x.cust,.bool x.dis,.int .i64 x.typ] (tR x) (.slice A2 x.langs.length c2) (.slice A0 x.ids.length c0) (.slice A1 x.unk.length c1) from (H12.out.put 25 (.bool (decide (x.typ≤5))) ({ aFt x with isContent:=decide (1≤x.typ∧x.typ≤5) }:gN) (by rw[← HV.out];rfl) bF).put 26 (.bool (jL x.typ)) (tR x) rfl bF);clear H12 HV rc14_11 rc14_12 rt25 rf25 rt26 rf26 hb12 hHeld
   go_wp2_with fail
   go_meet
   case rel=>exact HX
  have hq:decide (1≤x.typ)=false:=decide_eq_false hq1;have HV:=bW (show false=decide (1≤x.typ∧x.typ≤5) from (decide_eq_false (fun h=>hq1 h.1)).symm);clear hq1;have rc14_11:=H11.out.words.at 14 _ rfl;go_upto_region 6 with fail
  refine hY (n:=15) (S:=fun w'=>w'.cell? ⟨w.heap.size,14,none⟩=some (.int .i64 x.typ)) (ds:=[12,14]) _ bB rfl rfl (rc14_11) (fun hHeld=>?_);refine sA1 0 (some 61) sB1 ?_
  refine sA1 8 (some 69) sB1 ?_
  refine sC1 1 (some 62) sK1 ?_
  refine sA1 2 (some 63) sB1 ?_
  refine sA1 3 (some 64) sB1 ?_
  refine sN1 4 (some 65) sO1 ?_
  refine sN1 5 (some 66) sO1 ?_
  refine sN1 6 (some 67) sO1 ?_
  refine sA1 7 (some 68) sB1 ?_
  refine sA1 11 (some 72) sB1 ?_
  refine sC1 9 (some 70) sK1 ?_
  refine sF1 10 (some 71) sG1 (fun K hK=>?_);refine lA Tryz.func105 bB rfl #[.int .i64 x.typ] bH rfl rfl bI ?_
  with_reducible refine ((sP x.typ w11.drew)).mono ?_
  rintro e w12 ⟨rfl,hb12⟩;refine ⟨_,rfl,?_⟩;have rc14_12:=cell_far (w:=w11.drew) rc14_11 hb12;have H12:=bW (H11.out.step (eA (Below.refl w11.heap.size w11).drew hb12));have rt25:=H12.out.told.at 25 _ rfl;have rf25:=H12.out.told.free 25 (show 25 < 31 by decide);have rt26:=H12.out.told.at 26 _ rfl;have rf26:=H12.out.told.free 26 (show 26 < 31 by decide);refine hK.out _ _ (rc14_12) (fun hHeld=>?_);clear hK K;refine gJ sJ1 ?_
  refine sH1 12 none sI1 (fun K hK=>?_);refine iO (w1:=?_) bH rfl ?_ ?_;rotate_left
  ·go_simp;rfl
  refine hK.out _ _ ?_;clear hK K;refine sA1 13 (some 73) sB1 ?_
  refine sH1 14 none sI1 (fun K hK=>?_);refine iO (w1:=?_) bH rfl ?_ ?_;rotate_left
  ·go_simp;rfl
  refine hK.out _ _ ?_;clear hK K;refine iK bB ?_;have HX:=bW (show AnsAt w ((w12.setCell ⟨w.heap.size+2,25,none⟩ (.bool (false))).setCell ⟨w.heap.size+2,26,none⟩ (.bool (jL x.typ))) [.string x.comp,.string x.path,.string x.name,.int .i64 (x.nEnd:Int),.slice A0 x.ids.length c0,.slice A1 x.unk.length c1,.slice A2 x.langs.length c2,.string x.ext,.string x.fmt,.string x.kind,.string x.lay,.string x.lang,.string x.cust,.bool x.dis,.int .i64 x.typ] (tR x) (.slice A2 x.langs.length c2) (.slice A0 x.ids.length c0) (.slice A1 x.unk.length c1) from (H12.out.put 25 (.bool (false)) ({ aFt x with isContent:=decide (1≤x.typ∧x.typ≤5) }:gN) (by rw[← HV.out];rfl) bF).put 26 (.bool (jL x.typ)) (tR x) rfl bF);clear H12 HV rc14_11 rc14_12 rt25 rf25 rt26 rf26 hb12 hHeld;go_wp2_with fail
  go_meet
  case rel=>exact HX
 obtain ⟨w13,rfl⟩:∃ z,z=wc:=⟨_,rfl⟩
 have H13:=hcut;clear hcut;refine (show ∀ (a:Act) (w:World),Code.wp _ _ _ a w→_ from by assumption) _ _ ?_;have rc14_13:=H13.out.words.at 14 _ rfl;have rt28:=H13.out.told.at 28 _ rfl;have rf28:=H13.out.told.free 28 (show 28 < 31 by decide);have rt27:=H13.out.told.at 27 _ rfl;have rf27:=H13.out.told.free 27 (show 27 < 31 by decide);have rt29:=H13.out.told.at 29 _ rfl;have rf29:=H13.out.told.free 29 (show 29 < 31 by decide);go_upto_region 7 with fail
 refine hY (n:=15) (S:=fun w'=>w'.cell? ⟨w.heap.size,14,none⟩=some (.int .i64 x.typ)) (ds:=[]) _ bB rfl rfl (rc14_13) (fun hHeld=>?_);refine sA1 0 (some 74) sB1 ?_
 refine sA1 3 (some 77) sB1 ?_
 refine sA1 6 (some 80) sB1 ?_
 refine sC1 1 (some 75) sK1 ?_
 refine sA1 2 (some 76) sB1 ?_
 refine sA1 9 (some 83) sB1 ?_
 refine sC1 4 (some 78) sK1 ?_
 refine sA1 5 (some 79) sB1 ?_
 refine sC1 7 (some 81) sK1 ?_
 refine sA1 8 (some 82) sB1 ?_
 refine sF1 10 none sG1 (fun K hK=>?_);refine iO (w1:=?_) bH rfl ?_ ?_;rotate_left
 ·go_simp;rfl
 refine hK.out _ _ (((World.cell?_setCell_other _ _ _ _ (by intro h;injection h with h;omega)).trans rc14_13)) (fun hHeld=>?_);clear hK K;refine sA1 11 (some 84) sB1 ?_
 refine sF1 12 none sG1 (fun K hK=>?_);refine iO (w1:=?_) bH rfl ?_ ?_;rotate_left
 ·go_simp;rfl
 refine hK.out _ _ (((World.cell?_setCell_other _ _ _ _ (by intro h;injection h with h;omega)).trans ((World.cell?_setCell_other _ _ _ _ (by intro h;injection h with h;omega)).trans rc14_13))) (fun hHeld=>?_);clear hK K;refine sA1 13 (some 85) sB1 ?_
 refine sF1 14 none sG1 (fun K hK=>?_);refine iO (w1:=?_) bH rfl ?_ ?_;rotate_left
 ·go_simp;rfl
 refine hK.out _ _ (((World.cell?_setCell_other _ _ _ _ (by intro h;injection h with h;omega)).trans ((World.cell?_setCell_other _ _ _ _ (by intro h;injection h with h;omega)).trans ((World.cell?_setCell_other _ _ _ _ (by intro h;injection h with h;omega)).trans rc14_13)))) (fun hHeld=>?_);clear hK K;refine iK bB ?_;have hA:=((((H13.out).put 28 (.bool (x.typ==3)) ({ tR x with isLeaf:=(x.typ==3) }:gN) rfl bF).put 27 (.bool (x.typ==4)) ({ ({ tR x with isLeaf:=(x.typ==3) }:gN) with isBranch:=(x.typ==4) }:gN) rfl bF).put 29 (.bool (x.typ==5)) ({ ({ ({ tR x with isLeaf:=(x.typ==3) }:gN) with isBranch:=(x.typ==4) }:gN) with isData:=(x.typ==5) }:gN) rfl bF).step (Below.refl _ _).drew
 obtain ⟨w14,hw14⟩:∃ z,((((w13).setCell ⟨w.heap.size+2,28,none⟩ (.bool (x.typ==3))).setCell ⟨w.heap.size+2,27,none⟩ (.bool (x.typ==4))).setCell ⟨w.heap.size+2,29,none⟩ (.bool (x.typ==5))).drew=z:=⟨_,rfl⟩
 rw[hw14] at hA ⊢;have H14:=bW (show AnsAt w w14 [.string x.comp,.string x.path,.string x.name,.int .i64 (x.nEnd:Int),.slice A0 x.ids.length c0,.slice A1 x.unk.length c1,.slice A2 x.langs.length c2,.string x.ext,.string x.fmt,.string x.kind,.string x.lay,.string x.lang,.string x.cust,.bool x.dis,.int .i64 x.typ] (aC9 x) (.slice A2 x.langs.length c2) (.slice A0 x.ids.length c0) (.slice A1 x.unk.length c1) from hA);clear hA hw14 H13 rc14_13 rt28 rf28 rt27 rf27 rt29 rf29 hHeld;refine (show ∀ (a:Act) (w:World),Code.wp _ _ _ a w→_ from by assumption) _ _ ?_;refine wp_seq_k (fun J2 hJ2=>?_)
 go_cut [] from 86 to 103 (fun wx=>Aside0 (AnsAt w wx [.string x.comp,.string x.path,.string x.name,.int .i64 (x.nEnd:Int),.slice A0 x.ids.length c0,.slice A1 x.unk.length c1,.slice A2 x.langs.length c2,.string x.ext,.string x.fmt,.string x.kind,.string x.lay,.string x.lang,.string x.cust,.bool x.dis,.int .i64 x.typ] (pL x) (.slice A2 x.langs.length c2) (.slice A0 x.ids.length c0) (.slice A1 x.unk.length c1)))
 case first =>
  have rt26:w14.cell? ⟨w.heap.size+2,26,none⟩=some (.bool (jL x.typ)):=H14.out.told.at 26 _ rfl
  cases hbn:jL x.typ with
  | false =>
   rw[hbn] at rt26;have e:pL x=aC9 x:=by have h1:(if jL x.typ=true then jB x.path else x.name.extract 0 x.nEnd)=x.name.extract 0 x.nEnd:=if_neg (by rw[hbn];decide);have h2:mN x=hL x.path:=(by unfold mN;exact if_neg (fun h=>by rw[hbn] at h;exact Bool.noConfusion h.1));unfold pL;rw[h1,h2];rfl
   have HX:=bW (show AnsAt w w14 [.string x.comp,.string x.path,.string x.name,.int .i64 (x.nEnd:Int),.slice A0 x.ids.length c0,.slice A1 x.unk.length c1,.slice A2 x.langs.length c2,.string x.ext,.string x.fmt,.string x.kind,.string x.lay,.string x.lang,.string x.cust,.bool x.dis,.int .i64 x.typ] (pL x) (.slice A2 x.langs.length c2) (.slice A0 x.ids.length c0) (.slice A1 x.unk.length c1) from e▸H14.out);clear e hbn;go_wp2_with fail
   go_meet
   case rel=>exact HX
  | true =>
   rw[hbn] at rt26;have HBN:=bW hbn;clear hbn;go_upto_region 9 with fail
   clear rt26;have rt1:w14.cell? ⟨w.heap.size+2,1,none⟩=some (.string (jB x.path)):=H14.out.told.at 1 _ rfl;have rt6:=H14.out.told.at 6 _ rfl;have rf6:=H14.out.told.free 6 (show 6 < 31 by decide);go_upto_region 10 with fail
   have hA:=(H14.out).put 6 (.string (jB x.path)) ({ aC9 x with baseName:=jB x.path }:gN) rfl bF
   obtain ⟨w15,hw15⟩:∃ z,(w14).setCell ⟨w.heap.size+2,6,none⟩ (.string (jB x.path))=z:=⟨_,rfl⟩
   rw[hw15] at hA ⊢;have H15:=bW (show AnsAt w w15 [.string x.comp,.string x.path,.string x.name,.int .i64 (x.nEnd:Int),.slice A0 x.ids.length c0,.slice A1 x.unk.length c1,.slice A2 x.langs.length c2,.string x.ext,.string x.fmt,.string x.kind,.string x.lay,.string x.lang,.string x.cust,.bool x.dis,.int .i64 x.typ] (aFu x) (.slice A2 x.langs.length c2) (.slice A0 x.ids.length c0) (.slice A1 x.unk.length c1) from hA);clear hA hw15 H14 rt1 rt6 rf6;have rt1:w15.cell? ⟨w.heap.size+2,1,none⟩=some (.string (jB x.path)):=H15.out.told.at 1 _ rfl
   by_cases hc0:jB x.path=⟨#[]⟩
   ·have e:pL x=aFu x:=by have h1:(if jL x.typ=true then jB x.path else x.name.extract 0 x.nEnd)=jB x.path:=if_pos HBN.out;have h2:mN x=hL x.path:=(by unfold mN;exact if_neg (fun h=>h.2 hc0));unfold pL;rw[h1,h2];rfl
    have HX:=bW (show AnsAt w w15 [.string x.comp,.string x.path,.string x.name,.int .i64 (x.nEnd:Int),.slice A0 x.ids.length c0,.slice A1 x.unk.length c1,.slice A2 x.langs.length c2,.string x.ext,.string x.fmt,.string x.kind,.string x.lay,.string x.lang,.string x.cust,.bool x.dis,.int .i64 x.typ] (pL x) (.slice A2 x.langs.length c2) (.slice A0 x.ids.length c0) (.slice A1 x.unk.length c1) from e▸H15.out);rw[hc0] at rt1;clear e hc0;go_wp2_with fail
    go_meet
    case rel=>exact HX
   obtain ⟨j,hj,hjz⟩:=aGd HO.out hc0;have hq:((jB x.path).toList==([]:List UInt8))=false:=beq_eq_false_iff_ne.2 (fun h=>hc0 (L_inj (by rw[← L_toList,h];rfl)));have e:pL x = { aFu x with containerDir:=(hL x.path).extract 0 j }:=by have h1:(if jL x.typ=true then jB x.path else x.name.extract 0 x.nEnd)=jB x.path:=if_pos HBN.out;have h2:mN x=(hL x.path).extract 0 j:=(by unfold mN;rw[if_pos ⟨HBN.out,hc0⟩,hj];rfl);unfold pL;rw[h1,h2];rfl
   have HE:=bW e
   have hcs:∀ w:World,Calls Tryz.prog 106 #[.string (hL x.path),.int .i64 ((hL x.path).size:Int)] w fun e w'=>e = .returned (.int .i64 (j:Int))∧Below w.heap.size w w':=by
    intro w;have h:=aEa (hL x.path) (aFr HO.out) w;unfold slI at h;rw[hj] at h;exact h
   clear e hc0 hj;go_upto_region 11 with fail
   clear rt1 hq;have rct_15:w15.cell? ⟨w.heap.size+2,8,none⟩=some (.string (hL x.path)):=H15.out.told.at 8 _ rfl;refine hY (n:=11) (S:=fun w'=>w'.cell? ⟨w.heap.size+2,8,none⟩=some (.string (hL x.path))) (ds:=[10]) _ bB rfl rfl (rct_15) (fun hHeld=>?_);refine sA1 0 (some 94) sB1 ?_
   refine sA1 2 (some 96) sB1 ?_
   refine sA1 4 (some 98) sB1 ?_
   refine sC1 1 (some 95) sK1 ?_
   refine sC1 3 (some 97) sK1 ?_
   refine sC1 5 (some 99) sK1 ?_
   refine sA1 6 (some 100) sB1 ?_
   refine sF1 7 (some 101) sG1 (fun K hK=>?_);refine lA Tryz.func106 bB rfl #[.string (hL x.path),.int .i64 ((hL x.path).size:Int)] bH rfl rfl bI ?_
   with_reducible refine ((hcs w15.drew)).mono ?_
   rintro e w16 ⟨rfl,hb16⟩;refine ⟨_,rfl,?_⟩;have rct_16:=cell_far (w:=w15.drew) rct_15 hb16;have H16:=bW (H15.out.step (eA (Below.refl w15.heap.size w15).drew hb16));have rt2:=H16.out.told.at 2 _ rfl;have rf2:=H16.out.told.free 2 (show 2 < 31 by decide);refine hK.out _ _ (rct_16) (fun hHeld=>?_);clear hK K;refine gJ sJ1 ?_
   refine sA1 8 (some 102) sB1 ?_
   refine sA1 9 (some 103) sB1 ?_
   refine sH1 10 none sI1 (fun K hK=>?_);refine iO (w1:=?_) bH rfl ?_ ?_;rotate_left
   ·go_simp;rfl
   refine hK.out _ _ ?_;clear hK K;refine iK bB ?_;have HX:=bW (show AnsAt w (w16.setCell ⟨w.heap.size+2,2,none⟩ (.string ((hL x.path).extract 0 j))) [.string x.comp,.string x.path,.string x.name,.int .i64 (x.nEnd:Int),.slice A0 x.ids.length c0,.slice A1 x.unk.length c1,.slice A2 x.langs.length c2,.string x.ext,.string x.fmt,.string x.kind,.string x.lay,.string x.lang,.string x.cust,.bool x.dis,.int .i64 x.typ] (pL x) (.slice A2 x.langs.length c2) (.slice A0 x.ids.length c0) (.slice A1 x.unk.length c1) from HE.out▸H16.out.put 2 (.string ((hL x.path).extract 0 j)) ({ aFu x with containerDir:=(hL x.path).extract 0 j }:gN) rfl bF);clear H16 H15 hcs hjz HE rct_15 rct_16 rt2 rf2 hb16 hHeld;go_wp2_with fail
   go_meet
   case rel=>exact HX
 obtain ⟨w17,rfl⟩:∃ z,z=wc:=⟨_,rfl⟩
 have H17:=hcut;clear hcut;refine hJ2 _ _ ?_;clear hJ2;have rc0_17:=H17.out.words.at 0 _ rfl;have rc1_17:=H17.out.words.at 1 _ rfl;have rc2_17:=H17.out.words.at 2 _ rfl;have rc3_17:=H17.out.words.at 3 _ rfl;have rc4_17:=H17.out.words.at 4 _ rfl;have rc5_17:=H17.out.words.at 5 _ rfl;have rc6_17:=H17.out.words.at 6 _ rfl;have rc7_17:=H17.out.words.at 7 _ rfl;have rc8_17:=H17.out.words.at 8 _ rfl;have rc9_17:=H17.out.words.at 9 _ rfl;have rc10_17:=H17.out.words.at 10 _ rfl;have rc11_17:=H17.out.words.at 11 _ rfl;have rc12_17:=H17.out.words.at 12 _ rfl;have rc13_17:=H17.out.words.at 13 _ rfl;have rc14_17:=H17.out.words.at 14 _ rfl;go_upto_region 12 with fail
 refine hY (n:=14) (S:=fun w'=>w'.cell? ⟨w.heap.size,0,none⟩=some (.string x.comp)∧w'.cell? ⟨w.heap.size,1,none⟩=some (.string x.path)∧w'.cell? ⟨w.heap.size,2,none⟩=some (.string x.name)∧w'.cell? ⟨w.heap.size,3,none⟩=some (.int .i64 (x.nEnd:Int))∧w'.cell? ⟨w.heap.size,4,none⟩=some (.slice A0 x.ids.length c0)∧w'.cell? ⟨w.heap.size,5,none⟩=some (.slice A1 x.unk.length c1)∧w'.cell? ⟨w.heap.size,6,none⟩=some (.slice A2 x.langs.length c2)∧w'.cell? ⟨w.heap.size,7,none⟩=some (.string x.ext)∧w'.cell? ⟨w.heap.size,8,none⟩=some (.string x.fmt)∧w'.cell? ⟨w.heap.size,9,none⟩=some (.string x.kind)∧w'.cell? ⟨w.heap.size,10,none⟩=some (.string x.lay)∧w'.cell? ⟨w.heap.size,11,none⟩=some (.string x.lang)∧w'.cell? ⟨w.heap.size,12,none⟩=some (.string x.cust)∧w'.cell? ⟨w.heap.size,13,none⟩=some (.bool x.dis)∧w'.cell? ⟨w.heap.size,14,none⟩=some (.int .i64 x.typ)) (ds:=[9,11,13]) _ bB rfl rfl ⟨rc0_17,rc1_17,rc2_17,rc3_17,rc4_17,rc5_17,rc6_17,rc7_17,rc8_17,rc9_17,rc10_17,rc11_17,rc12_17,rc13_17,rc14_17⟩ (fun hHeld=>?_)
 refine sA1 5 (some 109) sB1 ?_
 refine sC1 0 (some 104) sM1 ?_
 refine sC1 2 (some 106) sM1 ?_
 refine sC1 4 (some 108) sM1 ?_
 refine sC1 6 (some 110) sM1 ?_
 refine sF1 1 (some 105) sG1 (fun K hK=>?_);refine lA Tryz.func107 bB rfl #[.agg #[.string x.comp,.string x.path,.string x.name,.int .i64 (x.nEnd:Int),.slice A0 x.ids.length c0,.slice A1 x.unk.length c1,.slice A2 x.langs.length c2,.string x.ext,.string x.fmt,.string x.kind,.string x.lay,.string x.lang,.string x.cust,.bool x.dis,.int .i64 x.typ]] bH rfl rfl bI ?_
 with_reducible refine ((aCr HO.out (HS0.out.below (H17.out.below.trans (Below.refl w.heap.size w17).drew)) (HS1.out.below (H17.out.below.trans (Below.refl w.heap.size w17).drew)) (HS2.out.below (H17.out.below.trans (Below.refl w.heap.size w17).drew)))).mono ?_
 rintro e w18 ⟨rfl,hb18⟩;refine ⟨_,rfl,?_⟩;have rc0_18:=cell_far (w:=w17.drew) rc0_17 hb18;have rc1_18:=cell_far (w:=w17.drew) rc1_17 hb18;have rc2_18:=cell_far (w:=w17.drew) rc2_17 hb18;have rc3_18:=cell_far (w:=w17.drew) rc3_17 hb18;have rc4_18:=cell_far (w:=w17.drew) rc4_17 hb18;have rc5_18:=cell_far (w:=w17.drew) rc5_17 hb18;have rc6_18:=cell_far (w:=w17.drew) rc6_17 hb18;have rc7_18:=cell_far (w:=w17.drew) rc7_17 hb18;have rc8_18:=cell_far (w:=w17.drew) rc8_17 hb18;have rc9_18:=cell_far (w:=w17.drew) rc9_17 hb18;have rc10_18:=cell_far (w:=w17.drew) rc10_17 hb18;have rc11_18:=cell_far (w:=w17.drew) rc11_17 hb18;have rc12_18:=cell_far (w:=w17.drew) rc12_17 hb18;have rc13_18:=cell_far (w:=w17.drew) rc13_17 hb18;have rc14_18:=cell_far (w:=w17.drew) rc14_17 hb18
 have H18:=bW (H17.out.step (eA (Below.refl w17.heap.size w17).drew hb18));refine hK.out _ _ ⟨rc0_18,rc1_18,rc2_18,rc3_18,rc4_18,rc5_18,rc6_18,rc7_18,rc8_18,rc9_18,rc10_18,rc11_18,rc12_18,rc13_18,rc14_18⟩ (fun hHeld=>?_);clear hK K;refine gJ sJ1 ?_
 refine sA1 8 (some 112) sB1 ?_
 refine sF1 3 (some 107) sG1 (fun K hK=>?_);refine lA Tryz.func108 bB rfl #[.agg #[.string x.comp,.string x.path,.string x.name,.int .i64 (x.nEnd:Int),.slice A0 x.ids.length c0,.slice A1 x.unk.length c1,.slice A2 x.langs.length c2,.string x.ext,.string x.fmt,.string x.kind,.string x.lay,.string x.lang,.string x.cust,.bool x.dis,.int .i64 x.typ]] bH rfl rfl bI ?_
 with_reducible refine ((vA HO.out (HS0.out.below (H18.out.below)) (HS1.out.below (H18.out.below)) (HS2.out.below (H18.out.below)))).mono ?_
 rintro e w19 ⟨rfl,hb19⟩;refine ⟨_,rfl,?_⟩;have rc0_19:=cell_far (w:=w18) rc0_18 hb19;have rc1_19:=cell_far (w:=w18) rc1_18 hb19;have rc2_19:=cell_far (w:=w18) rc2_18 hb19;have rc3_19:=cell_far (w:=w18) rc3_18 hb19;have rc4_19:=cell_far (w:=w18) rc4_18 hb19;have rc5_19:=cell_far (w:=w18) rc5_18 hb19;have rc6_19:=cell_far (w:=w18) rc6_18 hb19;have rc7_19:=cell_far (w:=w18) rc7_18 hb19;have rc8_19:=cell_far (w:=w18) rc8_18 hb19;have rc9_19:=cell_far (w:=w18) rc9_18 hb19;have rc10_19:=cell_far (w:=w18) rc10_18 hb19;have rc11_19:=cell_far (w:=w18) rc11_18 hb19;have rc12_19:=cell_far (w:=w18) rc12_18 hb19;have rc13_19:=cell_far (w:=w18) rc13_18 hb19;have rc14_19:=cell_far (w:=w18) rc14_18 hb19;have H19:=bW (H18.out.step hb19)
 refine hK.out _ _ ⟨rc0_19,rc1_19,rc2_19,rc3_19,rc4_19,rc5_19,rc6_19,rc7_19,rc8_19,rc9_19,rc10_19,rc11_19,rc12_19,rc13_19,rc14_19⟩ (fun hHeld=>?_);clear hK K;refine gJ sJ1 ?_
 refine sF1 7 (some 111) sG1 (fun K hK=>?_);refine lA Tryz.func104 bB rfl #[.agg #[.string x.comp,.string x.path,.string x.name,.int .i64 (x.nEnd:Int),.slice A0 x.ids.length c0,.slice A1 x.unk.length c1,.slice A2 x.langs.length c2,.string x.ext,.string x.fmt,.string x.kind,.string x.lay,.string x.lang,.string x.cust,.bool x.dis,.int .i64 x.typ],.string x.path] bH rfl rfl bI ?_
 with_reducible refine ((rU HO.out (HS0.out.below (H19.out.below)) (HS1.out.below (H19.out.below)) (HS2.out.below (H19.out.below)) x.path HO.out.path HO.out.name)).mono ?_
 rintro e w20 ⟨rfl,hb20⟩;refine ⟨_,rfl,?_⟩;have rc0_20:=cell_far (w:=w19) rc0_19 hb20;have rc1_20:=cell_far (w:=w19) rc1_19 hb20;have rc2_20:=cell_far (w:=w19) rc2_19 hb20;have rc3_20:=cell_far (w:=w19) rc3_19 hb20;have rc4_20:=cell_far (w:=w19) rc4_19 hb20;have rc5_20:=cell_far (w:=w19) rc5_19 hb20;have rc6_20:=cell_far (w:=w19) rc6_19 hb20;have rc7_20:=cell_far (w:=w19) rc7_19 hb20;have rc8_20:=cell_far (w:=w19) rc8_19 hb20;have rc9_20:=cell_far (w:=w19) rc9_19 hb20;have rc10_20:=cell_far (w:=w19) rc10_19 hb20;have rc11_20:=cell_far (w:=w19) rc11_19 hb20;have rc12_20:=cell_far (w:=w19) rc12_19 hb20;have rc13_20:=cell_far (w:=w19) rc13_19 hb20;have rc14_20:=cell_far (w:=w19) rc14_19 hb20;have H20:=bW (H19.out.step hb20);have rt10:=H20.out.told.at 10 _ rfl
 have rf10:=H20.out.told.free 10 (show 10 < 31 by decide);have rt11:=H20.out.told.at 11 _ rfl;have rf11:=H20.out.told.free 11 (show 11 < 31 by decide);have rt12:=H20.out.told.at 12 _ rfl;have rf12:=H20.out.told.free 12 (show 12 < 31 by decide);refine hK.out _ _ ⟨rc0_20,rc1_20,rc2_20,rc3_20,rc4_20,rc5_20,rc6_20,rc7_20,rc8_20,rc9_20,rc10_20,rc11_20,rc12_20,rc13_20,rc14_20⟩ (fun hHeld=>?_);clear hK K;refine gJ sJ1 ?_
 refine sH1 9 none sI1 (fun K hK=>?_);refine iO (w1:=?_) bH rfl ?_ ?_;rotate_left
 ·go_simp;rfl
 refine hK.out _ _ ?_;clear hK K;refine sA1 10 (some 113) sB1 ?_
 refine sH1 11 none sI1 (fun K hK=>?_);refine iO (w1:=?_) bH rfl ?_ ?_;rotate_left
 ·go_simp;rfl
 refine hK.out _ _ ?_;clear hK K;refine sA1 12 (some 114) sB1 ?_
 refine sH1 13 none sI1 (fun K hK=>?_);refine iO (w1:=?_) bH rfl ?_ ?_;rotate_left
 ·go_simp;rfl
 refine hK.out _ _ ?_;clear hK K;refine iK bB ?_;have hA:=(((H20.out).put 10 (.string (mG x)) ({ pL x with pathNoLang:=mG x }:gN) rfl bF).put 11 (.string (kE x)) ({ ({ pL x with pathNoLang:=mG x }:gN) with pathNoId:=kE x }:gN) rfl bF).put 12 (.string (kH x x.path)) ({ ({ ({ pL x with pathNoLang:=mG x }:gN) with pathNoId:=kE x }:gN) with pathBefore:=kH x x.path }:gN) rfl bF
 obtain ⟨w21,hw21⟩:∃ z,(((w20).setCell ⟨w.heap.size+2,10,none⟩ (.string (mG x))).setCell ⟨w.heap.size+2,11,none⟩ (.string (kE x))).setCell ⟨w.heap.size+2,12,none⟩ (.string (kH x x.path))=z:=⟨_,rfl⟩
 rw[hw21] at hA ⊢;have H21:=bW (show AnsAt w w21 [.string x.comp,.string x.path,.string x.name,.int .i64 (x.nEnd:Int),.slice A0 x.ids.length c0,.slice A1 x.unk.length c1,.slice A2 x.langs.length c2,.string x.ext,.string x.fmt,.string x.kind,.string x.lay,.string x.lang,.string x.cust,.bool x.dis,.int .i64 x.typ] (aJl x) (.slice A2 x.langs.length c2) (.slice A0 x.ids.length c0) (.slice A1 x.unk.length c1) from hA)
 clear hA hw21 H20 rc0_17 rc0_18 rc0_19 rc0_20 rc1_17 rc1_18 rc1_19 rc1_20 rc2_17 rc2_18 rc2_19 rc2_20 rc3_17 rc3_18 rc3_19 rc3_20 rc4_17 rc4_18 rc4_19 rc4_20 rc5_17 rc5_18 rc5_19 rc5_20 rc6_17 rc6_18 rc6_19 rc6_20 rc7_17 rc7_18 rc7_19 rc7_20 rc8_17 rc8_18 rc8_19 rc8_20 rc9_17 rc9_18 rc9_19 rc9_20 rc10_17 rc10_18 rc10_19 rc10_20 rc11_17 rc11_18 rc11_19 rc11_20 rc12_17 rc12_18 rc12_19 rc12_20 rc13_17 rc13_18 rc13_19 rc13_20 rc14_17 rc14_18 rc14_19 rc14_20 rt10 rf10 rt11 rf11 rt12 rf12 hb18 hb19 hb20 hHeld;have rc0:=H21.out.words.at 0 _ rfl;have rc1:=H21.out.words.at 1 _ rfl;have rc2:=H21.out.words.at 2 _ rfl;have rc3:=H21.out.words.at 3 _ rfl;have rc4:=H21.out.words.at 4 _ rfl;have rc5:=H21.out.words.at 5 _ rfl;have rc6:=H21.out.words.at 6 _ rfl;have rc7:=H21.out.words.at 7 _ rfl;have rc8:=H21.out.words.at 8 _ rfl;have rc9:=H21.out.words.at 9 _ rfl
 have rc10:=H21.out.words.at 10 _ rfl;have rc11:=H21.out.words.at 11 _ rfl;have rc12:=H21.out.words.at 12 _ rfl;have rc13:=H21.out.words.at 13 _ rfl;have rc14:=H21.out.words.at 14 _ rfl;have cb:=aBv HO.out (HS0.out.below (H21.out.below)) (HS1.out.below (H21.out.below)) (HS2.out.below (H21.out.below));go_wp2_with fail
 refine cb.mono ?_;rintro e w22 ⟨rfl,hb22⟩;have H22:=bW (H21.out.step hb22);have rt13:=H22.out.told.at 13 _ rfl;have rf13:=H22.out.told.free 13 (show 13 < 31 by decide);clear cb hb22 rc0 rc1 rc2 rc3 rc4 rc5 rc6 rc7 rc8 rc9 rc10 rc11 rc12 rc13 rc14 H21;go_upto_region 14 with fail
 have hA:=H22.out.put 13 (.string (lL x)) (aJm x) rfl bF
 obtain ⟨w23,hw23⟩:∃ z,w22.setCell ⟨w.heap.size+2,13,none⟩ (.string (lL x))=z:=⟨_,rfl⟩
 rw[hw23] at hA ⊢;have H23:=bW hA;clear hA hw23 rt13 rf13 H22;have rt13:w23.cell? ⟨w.heap.size+2,13,none⟩=some (.string (lL x)):=H23.out.told.at 13 _ rfl;have rt14:=H23.out.told.at 14 _ rfl;have rf14:=H23.out.told.free 14 (show 14 < 31 by decide);have HX:=bW (show AnsAt w (w23.setCell ⟨w.heap.size+2,14,none⟩ (.string (lL x))) [.string x.comp,.string x.path,.string x.name,.int .i64 (x.nEnd:Int),.slice A0 x.ids.length c0,.slice A1 x.unk.length c1,.slice A2 x.langs.length c2,.string x.ext,.string x.fmt,.string x.kind,.string x.lay,.string x.lang,.string x.cust,.bool x.dis,.int .i64 x.typ] (xX x) (.slice A2 x.langs.length c2) (.slice A0 x.ids.length c0) (.slice A1 x.unk.length c1) from H23.out.put 14 (.string (lL x)) (xX x) rfl bF)
 go_cut [] from 118 to 120 (fun wx=>Aside0 (AnsAt w wx [.string x.comp,.string x.path,.string x.name,.int .i64 (x.nEnd:Int),.slice A0 x.ids.length c0,.slice A1 x.unk.length c1,.slice A2 x.langs.length c2,.string x.ext,.string x.fmt,.string x.kind,.string x.lay,.string x.lang,.string x.cust,.bool x.dis,.int .i64 x.typ] (xX x) (.slice A2 x.langs.length c2) (.slice A0 x.ids.length c0) (.slice A1 x.unk.length c1)))
 case first =>
  go_wp2_with fail
  go_meet
  case rel=>exact HX
 clear rt13 rt14 rf14 H23 HX
 obtain ⟨w24,rfl⟩:∃ z,z=wc:=⟨_,rfl⟩
 have H24:=hcut;clear hcut;refine (show ∀ (a:Act) (w:World),Code.wp _ _ _ a w→_ from by assumption) _ _ ?_;refine wp_seq_k (fun J3 hJ3=>?_)
 go_cut [] from 121 to 126 (fun wx=>Aside0 (AnsAt w wx [.string x.comp,.string x.path,.string x.name,.int .i64 (x.nEnd:Int),.slice A0 x.ids.length c0,.slice A1 x.unk.length c1,.slice A2 x.langs.length c2,.string x.ext,.string x.fmt,.string x.kind,.string x.lay,.string x.lang,.string x.cust,.bool x.dis,.int .i64 x.typ] (vM x) (.slice A2 x.langs.length c2) (.slice A0 x.ids.length c0) (.slice A1 x.unk.length c1)))
 case first =>
  have rc0:=H24.out.words.at 0 _ rfl;have rc1:=H24.out.words.at 1 _ rfl;have rt14:=H24.out.told.at 14 _ rfl;have rf14:=H24.out.told.free 14 (show 14 < 31 by decide);have hlq:(x.comp.toList==[108,97,121,111,117,116,115])=eO x.comp:=rfl
  cases hly:eO x.comp with
  | false =>
   rw[hly] at hlq
   have e:vM x=xX x:=by
    have h1:(if eO x.comp=true then x.path else lL x)=lL x:=if_neg (by rw[hly];decide);unfold vM;rw[h1]
    all_goals rfl
   have HX:=bW (show AnsAt w w24 [.string x.comp,.string x.path,.string x.name,.int .i64 (x.nEnd:Int),.slice A0 x.ids.length c0,.slice A1 x.unk.length c1,.slice A2 x.langs.length c2,.string x.ext,.string x.fmt,.string x.kind,.string x.lay,.string x.lang,.string x.cust,.bool x.dis,.int .i64 x.typ] (vM x) (.slice A2 x.langs.length c2) (.slice A0 x.ids.length c0) (.slice A1 x.unk.length c1) from e▸H24.out);clear e hly;go_wp2_with fail
   go_meet
   case rel=>exact HX
  | true =>
   rw[hly] at hlq
   have e:vM x = { xX x with idBase:=x.path }:=by
    have h1:(if eO x.comp=true then x.path else lL x)=x.path:=if_pos hly;unfold vM;rw[h1]
    all_goals rfl
   have HX:=bW (show AnsAt w (w24.setCell ⟨w.heap.size+2,14,none⟩ (.string x.path)) [.string x.comp,.string x.path,.string x.name,.int .i64 (x.nEnd:Int),.slice A0 x.ids.length c0,.slice A1 x.unk.length c1,.slice A2 x.langs.length c2,.string x.ext,.string x.fmt,.string x.kind,.string x.lay,.string x.lang,.string x.cust,.bool x.dis,.int .i64 x.typ] (vM x) (.slice A2 x.langs.length c2) (.slice A0 x.ids.length c0) (.slice A1 x.unk.length c1) from e▸H24.out.put 14 (.string x.path) ({ xX x with idBase:=x.path }:gN) rfl bF);clear e hly;go_wp2_with fail
   go_meet
   case rel=>exact HX
 obtain ⟨w25,rfl⟩:∃ z,z=wc:=⟨_,rfl⟩
 have H25:=hcut;clear hcut;refine hJ3 _ _ ?_;clear hJ3;have hrng:=H25.out.told.rangeA
 obtain ⟨CL,hCL⟩:∃ c,(mM (vM x) (.slice A2 x.langs.length c2) (.slice A0 x.ids.length c0) (.slice A1 x.unk.length c1))=c:=⟨_,rfl⟩
 have hone:CL.toArray.all (·.oneCell')=true:=by rw[← hCL];kernel_rfl
 have hlen:CL.length=31:=by rw[← hCL];rfl
 have hinf:(Tryz.prog.info? 28).map (·.size)=some CL.length:=by rw[hlen];kernel_rfl
 have hinf2:(Tryz.prog.info? 28).map (·.size)=some CL.toArray.size:=by rw[List.size_toArray];exact hinf
 have hsz:CL.toArray.size=31:=by rw[List.size_toArray];exact hlen
 have hthere:w25.there (w.heap.size+1) 0 CL.toArray.size:=by rw[hsz];exact H25.out.zero.there
 rw[hCL] at hrng;have HCL:=bW hCL;have hr:=World.rangeAt_setCells_same w25 (w.heap.size+1) 0 CL.toArray.toList (by simpa using hthere);have hld:=run_loadVar_mid (P:=Tryz.prog) _ (w.heap.size+1) 0 28 CL.toArray.toList _ hr Tryz.underlying28 rfl (by simpa using hinf);have HLD:=bW hld;have HBF:=bW (show Below w.heap.size w (w25.setCells (w.heap.size+1) 0 CL.toArray.toList) from below_setCells (Nat.le_succ _) _ _ _ H25.out.below);clear hCL hlen hsz hr hld H25
 go_wp2_with (first | (refine wpList_load_mid rfl 28 _ rfl (w.heap.size+2) 0 rfl CL _ hrng Tryz.underlying28 rfl hinf ?_) | (refine wpList_store_mid rfl 28 _ _ rfl (w.heap.size+1) 0 CL.toArray rfl rfl hthere hinf2 hone ?_) | fail)
 refine bodyPost_ret (v:=.agg CL.toArray.toList.toArray) (oB Tryz.results49 rfl (by simpa using HLD.out)) rfl ⟨?_,HBF.out⟩;rw[← HCL.out];rfl
end
end Go.Proofs.YtlkoeeccebmjmaaGreatDoor.Path
