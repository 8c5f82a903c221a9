/- Texts that the law leans on: SpecUnn. Condition: as told at each. -/
import Derived.Test.YtlkoeeccebmjmaaGreatDoorUa
import Derived.Test.YtlkoeeccebmjmaaGreatDoorU21
set_option linter.unusedVariables false
set_option linter.unusedSimpArgs false
set_option maxRecDepth 100000
set_option maxHeartbeats 16000000
namespace Go.Proofs.YtlkoeeccebmjmaaGreatDoor.Path
open Go.RowKit Go.WideMaps Go.ZW.PrintWords Go.Proofs.YtlkoeeccebmjmaaGreatDoor.Base Go.Proofs.YtlkoeeccebmjmaaGreatDoor.Lower Go.Proofs.YtlkoeeccebmjmaaGreatDoor.Total Go.Proofs.YtlkoeeccebmjmaaGreatDoor.PCore
section
variable {w:World} {st:fM} {vl vd vf vc:Value}
theorem aA8 (S:mG w st vl vd vf vc) (O:xC st) (comp s:ByteArray) (hs:s.size≤900000) :
 Calls Tryz.prog 22 #[.agg #[vl,vd,vf,vc],.string comp,.string s] w fun e w' =>
  ∃ v1 v2 v3,e = .returned (fY (pA (wOf st comp (pathOf s true))) v1 v2 v3)∧lC w' w.heap.size (pA (wOf st comp (pathOf s true))) v1 v2 v3∧Below w.heap.size w w':=by
 obtain ⟨x,hx⟩:∃ x,wOf st comp (pathOf s true)=x:=⟨_,rfl⟩
 have HO:Aside0 (pV x):=bX (hx▸aGt st comp s true hs);rw[hx];have HSI:=bX S;have HF:=bX O;obtain ⟨Al,cl,rfl,_,_⟩:=S.l;obtain ⟨Ad,cd,rfl,_,_⟩:=S.d;obtain ⟨Af,cf,rfl,_,_⟩:=S.f;obtain ⟨Ac,cc,rfl,_,_⟩:=S.c;clear S O;have hB1:Below w.heap.size w (w.alloc (.cells #[.slice Al st.langs.length cl,.slice Ad st.dis.length cd,.slice Af st.fmts.length cf,.slice Ac st.cont.length cc] 25)):=(Below.refl _ _).alloc (Nat.le_refl _) _;have hR1:=Row.new w [.slice Al st.langs.length cl,.slice Ad st.dis.length cd,.slice Af st.fmts.length cf,.slice Ac st.cont.length cc] 25;have hs1:w.heap.size < (w.alloc (.cells #[.slice Al st.langs.length cl,.slice Ad st.dis.length cd,.slice Af st.fmts.length cf,.slice Ac st.cont.length cc] 25)).heap.size:=by simp
 go_enter Tryz.func22,Tryz.ntmps22;go_upto_region 1 with fail
 obtain ⟨w1,hw1⟩:∃ w1,w.alloc (.cells #[.slice Al st.langs.length cl,.slice Ad st.dis.length cd,.slice Af st.fmts.length cf,.slice Ac st.cont.length cc] 25)=w1:=⟨_,rfl⟩
 have hz1:w1.heap.size=w.heap.size+1:=by rw[← hw1];simp
 rw[hw1] at hB1 hR1 hs1 ⊢;clear hw1;have hB2:Below w1.heap.size w1 (w1.alloc (.cells eX.toArray 28)):=(Below.refl _ _).alloc (Nat.le_refl _) _;have hR2:Row (w1.alloc (.cells eX.toArray 28)) w1.heap.size eX:=Row.new w1 eX _;rw[show eX.toArray=TZ from rfl] at hB2 hR2
 obtain ⟨w2,hw2⟩:∃ w2,w1.alloc (.cells TZ 28)=w2:=⟨_,rfl⟩
 rw[hw2] at hB2 hR2;change Code.wp _ _ _ _ (w1.alloc (.cells TZ 28));rw[hw2];clear hw2;rw[hz1] at hR2;have hB:Below w.heap.size w w2:=hB1.trans (hB2.mono bA);have hRs:=hR1.below hB2 hs1;have r0:=hRs.at 0 _ rfl;have r1:=hRs.at 1 _ rfl;have r2:=hRs.at 2 _ rfl;have r3:=hRs.at 3 _ rfl;have HB:=bX hB;have HR2:=bX hR2;have hlt2:w.heap.size+1 < w2.heap.size:=hR2.lt bG;have cp:=uF (HSI.out.below hB) HF.out comp s true hs;rw[hx] at cp;clear hx hB1 hR1 hs1 hB2 hR2 hB hRs hz1 HF;go_wp2_with fail
 refine cp.mono ?_;rintro e w3 ⟨v0,v1,v2,rfl,q0,q1,q2,hb3⟩;obtain ⟨A0,c0,e0,_⟩:=id q0;obtain ⟨A1,c1,e1,_⟩:=id q1;obtain ⟨A2,c2,e2,_⟩:=id q2;subst e0 e1 e2;have ca:=tX HO.out (q0.mono (Nat.zero_le _)) (q1.mono (Nat.zero_le _)) (q2.mono (Nat.zero_le _));have HQ0:=bX q0;have HQ1:=bX q1;have HQ2:=bX q2;have HB3:=bX hb3;clear cp q0 q1 q2 hb3 r0 r1 r2 r3;go_wp2_with fail
 refine ca.mono ?_;rintro e w4 ⟨rfl,hb4⟩;have HB4:=bX (eB HB3.out hb4);have S1:=bX (HQ0.out.below hb4);have S2:=bX (HQ1.out.below hb4);have S3:=bX (HQ2.out.below hb4);clear ca hb4 HQ0 HQ1 HQ2 HB3
 obtain ⟨C,hC⟩:∃ C:Array Value,oR (pA x) (.slice A2 x.langs.length c2) (.slice A0 x.ids.length c0) (.slice A1 x.unk.length c1)=C:=⟨_,rfl⟩
 have hval:fY (pA x) (.slice A2 x.langs.length c2) (.slice A0 x.ids.length c0) (.slice A1 x.unk.length c1) = .agg C:=by rw[← hC];rfl
 have hCs:C.size=31:=by rw[← hC];rfl
 have hl:C.toList.length=31:=by simpa using hCs
 have hone:C.all (·.oneCell')=true:=by rw[← hC];exact nN _ _ _ _ _ _ _ _ _ _
 have HV:=bX hval;rw[hval];clear hval;have HC:=bX hC;have hRf:=HR2.out.below HB4.out hlt2;have ht:World.there _ (w.heap.size+1) 0 31:=hRf.there
 dsimp only
 refine (show ∀ (a:Act) (w:World),wpList _ _ _ _ a w→_ from by assumption) _ _ ?_;refine wpList_store_mid rfl 28 _ _ rfl (w.heap.size+1) 0 C rfl rfl (by rw[hCs];exact ht) (by rw[hCs];kernel_rfl) hone ?_;have hr:=World.rangeAt_setCells_same _ (w.heap.size+1) 0 C.toList (by rw[hl];exact ht);have hld:=run_loadVar_mid (P:=Tryz.prog) _ (w.heap.size+1) 0 28 C.toList _ hr Tryz.underlying28 rfl (by rw[hl];kernel_rfl);have hfar:∀ k,k≠w.heap.size+1→(w4.setCells (w.heap.size+1) 0 C.toList).heap[k]? = w4.heap[k]?:=fun k hk=>jC _ _ k hk;have hbel:Below w.heap.size w (w4.setCells (w.heap.size+1) 0 C.toList):=below_setCells (Nat.le_succ _) _ _ _ (HB.out.trans (HB4.out.mono HB.out.size))
 obtain ⟨W,hW⟩:∃ W,w4.setCells (w.heap.size+1) 0 C.toList=W:=⟨_,rfl⟩
 rw[hW] at hld hbel hfar ⊢;have hz:=HB.out.size;have s1:=bX (S1.out.far fun k hk _=>hfar k bA);have s2:=bX (S2.out.far fun k hk _=>hfar k bA);have s3:=bX (S3.out.far fun k hk _=>hfar k bA);have HBel:=bX hbel;clear hbel hfar hW hr hone hl hCs ht hRf S1 S2 S3;go_wp2_with fail
 refine bodyPost_ret (v:=.agg C) (kW Tryz.results22 rfl (by simpa using hld)) rfl ⟨_,_,_,?_,⟨s3.out.mono hz,s1.out.mono hz,s2.out.mono hz⟩,HBel.out⟩;rw[HV.out]
end
end Go.Proofs.YtlkoeeccebmjmaaGreatDoor.Path
