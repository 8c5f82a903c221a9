/- Texts that the law leans on: Pool, SpecPair. Condition: as told at each. -/
import Derived.Test.YtlkoeeccebmjmaaGreatDoorXa
import Derived.Test.YtlkoeeccebmjmaaGreatDoorX22
set_option linter.unusedVariables false
set_option linter.unusedSimpArgs false
set_option maxRecDepth 100000
set_option maxHeartbeats 16000000
namespace Go.Proofs.YtlkoeeccebmjmaaGreatDoor.Path
open Go.RowKit Go.ZW.PrintWords Go.Proofs.YtlkoeeccebmjmaaGreatDoor.Base
theorem aBa (w:World):Calls Tryz.prog 130 #[] w fun e w'=>e = .returned (.pointer (some ⟨w.heap.size,0,none⟩))∧eF w' w.heap.size w.heap.size fM (.slice none 0 0) (.slice none 0 0) (.slice none 0 0) (.pointer none)∧Below w.heap.size w w':=by
 have hR:=Row.new w zeroCells 80;have hB:Below w.heap.size w (w.alloc (.cells zeroCells.toArray 80)):=(Below.refl _ _).alloc (Nat.le_refl _) _;simp only[zeroCells,cells,fM] at hR hB;go_enter Tryz.func130,Tryz.ntmps130;go_wp2_with fail
 refine (sK (p:={ fM with cLow:=0,cHigh:=0,sec:=0,lang:=0,fmt:=0,kind:=0,lay:=0,base:=0,cust:=0,pfmt:=0,pkind:=0,play:=0,nEnd:=0 }) (A:=none) (A2:=none) (n:=0) (c:=0) (n2:=0) (c2:=0) hR).mono ?_;rintro e w' ⟨rfl,hr,hb⟩;have HB:=bW (hB.trans hb);have HR:=bW hr;clear hR hB hr hb;go_wp2_with fail
 go_ret;exact ⟨rfl,eF.fresh HR.out rfl rfl rfl,HB.out⟩
open Go.RowKit Go.WideMaps Go.ZW.PrintWords Go.Proofs.YtlkoeeccebmjmaaGreatDoor.Base Go.Proofs.YtlkoeeccebmjmaaGreatDoor.Lower Go.Proofs.YtlkoeeccebmjmaaGreatDoor.Total Go.Proofs.YtlkoeeccebmjmaaGreatDoor.PCore
open Go.ZW.PrintLast
theorem aE6 {st:fF} {comp s:ByteArray} (K:pE st comp s):sU st:=by
 have k:=K.site;have l1:=k.la;have l2:=k.lb;have l3:=k.lc;have l4:=k.ld;rw[List.length_map] at l3;exact ⟨aM,aM,aM,aM,fun x hx=>Nat.le_trans (k.langs x hx).most bA,fun x hx=>Nat.le_trans (k.dis x hx).most bA,fun x hx=>Nat.le_trans (k.cont x hx).most bA⟩
section
variable {w:World} {st:fF} {vl vd vf vc:Value}
theorem aAd (S:lZ w st vl vd vf vc) (O:sU st) (comp s:ByteArray) (hs:s.size≤900000) :
 Calls Tryz.prog 18 #[.agg #[vl,vd,vf,vc],.string comp,.string s] w fun e w'=>e = .returned (.tuple #[.string (lJ (wOf st comp (pathOf s false))).base,.string (lJ (wOf st comp (pathOf s false))).baseName])∧Below w.heap.size w w':=by
 obtain ⟨T,hT⟩:∃ T,(lJ (wOf st comp (pathOf s false)))=T:=⟨_,rfl⟩
 rw[hT];have HSI:=bW S;have HF:=bW O;obtain ⟨Al,cl,rfl,_,_⟩:=S.l;obtain ⟨Ad,cd,rfl,_,_⟩:=S.d;obtain ⟨Af,cf,rfl,_,_⟩:=S.f;obtain ⟨Ac,cc,rfl,_,_⟩:=S.c;clear S O;have hB1:Below w.heap.size w (w.alloc (.cells #[.slice Al st.langs.length cl,.slice Ad st.dis.length cd,.slice Af st.fmts.length cf,.slice Ac st.cont.length cc] 25)):=(Below.refl _ _).alloc (Nat.le_refl _) _;have hR1:=Row.new w [.slice Al st.langs.length cl,.slice Ad st.dis.length cd,.slice Af st.fmts.length cf,.slice Ac st.cont.length cc] 25;go_enter Tryz.func18,Tryz.ntmps18;go_upto_region 1 with fail
 obtain ⟨w1,hw1⟩:∃ w1,w.alloc (.cells #[.slice Al st.langs.length cl,.slice Ad st.dis.length cd,.slice Af st.fmts.length cf,.slice Ac st.cont.length cc] 25)=w1:=⟨_,rfl⟩
 rw[hw1] at hB1 hR1 ⊢;clear hw1;have r0:=hR1.at 0 _ rfl;have r1:=hR1.at 1 _ rfl;have r2:=hR1.at 2 _ rfl;have r3:=hR1.at 3 _ rfl;have HB1:=bW hB1;have cp:=sA (HSI.out.below hB1) HF.out comp s hs;rw[hT] at cp;clear hT hB1 hR1 HF;go_wp2_with fail
 refine cp.mono ?_;rintro e w3 ⟨v1,v2,v3,rfl,hA,hb3⟩;have HB3:=bW (eA HB1.out hb3)
 obtain ⟨C,hC⟩:∃ C:Array Value,qU T v1 v2 v3=C:=⟨_,rfl⟩
 have hval:lX T v1 v2 v3 = .agg C:=by rw[← hC];rfl
 have HCS:=bW (show C.size=31 by rw[← hC];rfl);have HON:=bW (show C.all (·.oneCell')=true by rw[← hC];exact hA.one);rw[hval];have hRZ:=Row.new w3 fX 28;have HRT:=bW (Row.setAll (ds:=C.toList) hRZ (by rw[Array.length_toList,HCS.out];rfl));have hbn:Below w3.heap.size w3 ((w3.alloc (.cells fX.toArray 28)).setCells w3.heap.size 0 C.toList):=below_setCells (Nat.le_refl _) _ _ _ ((Below.refl _ _).alloc (Nat.le_refl _) _);have hth:(w3.alloc (.cells fX.toArray 28)).there w3.heap.size 0 C.size:=by rw[HCS.out];exact hRZ.there
 have hin:(Tryz.prog.info? 28).map (·.size)=some C.size:=by rw[HCS.out];kernel_rfl
 have HCL:=bW (show C.toList=mM T v1 v2 v3 by rw[← hC];rfl);clear cp hb3 hA hC hval hRZ r0 r1 r2 r3;rw[show fX.toArray=TZ from rfl] at HRT hbn hth
 go_upto_region 2 with (first | (refine wpList_store_mid rfl 28 (.tmp 8) (.tmp 12) rfl w3.heap.size 0 C rfl rfl hth hin HON.out ?_) | fail)
 clear hth hin;change Code.wp _ _ _ _ ((w3.alloc (.cells TZ 28)).setCells w3.heap.size 0 C.toList)
 obtain ⟨w4,hw4⟩:∃ z,(w3.alloc (.cells TZ 28)).setCells w3.heap.size 0 C.toList=z:=⟨_,rfl⟩
 rw[hw4] at HRT hbn ⊢
 obtain ⟨b,hbb⟩:∃ b,w3.heap.size=b:=⟨_,rfl⟩
 rw[hbb] at HRT ⊢;have HRW:=bW (show Row w4 b (mM T v1 v2 v3) from HCL.out▸HRT.out);have HB4:=bW (eA HB3.out hbn);clear hw4 hbb hbn HRT HCL HCS HON HB3;have k13:w4.cell? ⟨b,13,none⟩=some (.string T.base):=HRW.out.at 13 _ rfl;have k6:w4.cell? ⟨b,6,none⟩=some (.string T.baseName):=HRW.out.at 6 _ rfl;have HB5:=bW (eA HB4.out (Below.refl w4.heap.size w4).drew);go_upto_region 2 with fail
 refine hY (n:=6) (S:=fun w'=>w'.cell? ⟨b,13,none⟩=some (.string T.base)∧w'.cell? ⟨b,6,none⟩=some (.string T.baseName)) (ds:=[]) _ bB rfl rfl ⟨k13,k6⟩ (fun hHeld=>?_);refine sA1 0 (some 13) sB1 ?_
 refine sA1 2 (some 15) sB1 ?_
 refine sC1 1 (some 14) sE1 ?_
 refine sA1 4 (some 6) sB1 ?_
 refine sC1 3 (some 16) sE1 ?_
 refine sA1 5 (some 7) sB1 ?_
 refine iK bB ?_;clear hHeld k13 k6;go_wp2_with fail
 refine bodyPost_ret (results_tmp2 bH _ _ _) rfl ⟨rfl,HB5.out⟩
end
end Go.Proofs.YtlkoeeccebmjmaaGreatDoor.Path
