/- Texts that the law leans on: Take, KnownV, Views, SpecForType. Condition: as told at each. -/
import Derived.Test.YtlkoeeccebmjmaaGreatDoorQa
import Derived.Test.YtlkoeeccebmjmaaGreatDoorQ25
set_option linter.unusedVariables false
set_option linter.unusedSimpArgs false
set_option maxRecDepth 100000
set_option maxHeartbeats 16000000
namespace Go.Proofs.YtlkoeeccebmjmaaGreatDoor.Path
open Go.RowKit Go.WideMaps Go.ZW.PrintWords Go.Proofs.YtlkoeeccebmjmaaGreatDoor.Base Go.Proofs.YtlkoeeccebmjmaaGreatDoor.Lower
theorem Row.range {w:World} {b:Nat} {cs:List Value} (H:Row w b cs):w.rangeAt b 0 cs:=by
 intro j v hv;rw[Nat.zero_add];obtain ⟨hj,e⟩:=List.getElem?_eq_some_iff.1 hv;rw[(H j hj).1,e]
open Go.RowKit Go.WideMaps Go.ZW.PrintWords Go.Proofs.YtlkoeeccebmjmaaGreatDoor.Base Go.Proofs.YtlkoeeccebmjmaaGreatDoor.Lower Go.Proofs.YtlkoeeccebmjmaaGreatDoor.Total Go.Proofs.YtlkoeeccebmjmaaGreatDoor.PCore
section
variable {w:World} {st:fO} {vl vd vf vc:Value}
theorem qF (S:mO w st vl vd vf vc) (comp s:ByteArray) (t:Int) (hb1:shortS st comp s=true) :
 ∃ r:Bool,(r=true→asc s∧asc comp∧s.size≤400∧rI st comp s)∧∀ w',Below w.heap.size w w'→Calls Tryz.prog 25 #[.agg #[vl,vd,vf,vc],.string comp,.string s,.int .i64 t] w' fun e w''=>e = .returned (.bool r)∧Below w'.heap.size w' w'':=by
 obtain ⟨r,h1,h2⟩:=yF S comp s hb1
 obtain ⟨q1,hq1⟩:∃ q,decide (0≤t)=q:=⟨_,rfl⟩
 obtain ⟨q2,hq2⟩:∃ q,decide (t≤9)=q:=⟨_,rfl⟩
 refine ⟨r && (q1 && q2),fun h=>h1 (by first | exact h | (simp only[Bool.and_eq_true] at h;exact h.1)),fun w' hb=>?_⟩;have S':=S.below hb;obtain ⟨Al,cl,rfl,_,_⟩:=S'.l;obtain ⟨Ad,cd,rfl,_,_⟩:=S'.d;obtain ⟨Af,cf,rfl,_,_⟩:=S'.f;obtain ⟨Ac,cc,rfl,_,_⟩:=S'.c;have hB1:Below w'.heap.size w' (w'.alloc (.cells #[.slice Al st.langs.length cl,.slice Ad st.dis.length cd,.slice Af st.fmts.length cf,.slice Ac st.cont.length cc] 25)):=(Below.refl _ _).alloc (Nat.le_refl _) _;have hR1:=Row.new w' [.slice Al st.langs.length cl,.slice Ad st.dis.length cd,.slice Af st.fmts.length cf,.slice Ac st.cont.length cc] 25;have cp:=h2 (w'.alloc (.cells #[.slice Al st.langs.length cl,.slice Ad st.dis.length cd,.slice Af st.fmts.length cf,.slice Ac st.cont.length cc] 25)) (hb.trans (hB1.mono hb.size));have HB1:=bX hB1
 clear S S' h1 h2 hb hB1;go_enter Tryz.func25,Tryz.ntmps25;go_upto_region 1 with fail
 obtain ⟨w1,hw1⟩:∃ w1,w'.alloc (.cells #[.slice Al st.langs.length cl,.slice Ad st.dis.length cd,.slice Af st.fmts.length cf,.slice Ac st.cont.length cc] 25)=w1:=⟨_,rfl⟩
 rw[hw1] at HB1 hR1 cp ⊢;clear hw1;have r0:=hR1.at 0 _ rfl;have r1:=hR1.at 1 _ rfl;have r2:=hR1.at 2 _ rfl;have r3:=hR1.at 3 _ rfl;clear hR1;go_wp2_with fail
 refine cp.mono ?_;rintro e w3 ⟨rfl,hb3⟩;have HB3:=bX (eB HB1.out hb3);clear cp hb3 HB1 r0 r1 r2 r3;cases r
 ·go_wp2_with fail
  go_ret;exact ⟨rfl,HB3.out⟩
 cases q1
 ·go_wp2_with fail
  go_ret;exact ⟨rfl,HB3.out⟩
 cases q2
 ·go_wp2_with fail
  go_ret;exact ⟨rfl,HB3.out⟩
 go_wp2_with fail
 go_ret;exact ⟨rfl,HB3.out⟩
end
theorem hJ.typed {p:eI} (h:hJ p) (t:Int):hJ { p with typ:=t }:=⟨⟨h.sz,h.kn,h.un,h.kl,h.ul,h.ll⟩,h.ch,h.cl,h.se,h.k0,h.na⟩
section
variable {w:World} {B b ub:Nat} {p:eI} {vk vu vl u:Value}
theorem eG.copied (H:eG w B b p vk vu vl u) (t:Int) (ty:TypeId):eG ((w.alloc (.cells (cells p vk vu vl u).toArray ty)).setCell ⟨w.heap.size,5,none⟩ (.int .i64 t)) B w.heap.size { p with typ:=t } vk vu vl u:=by
 have hlt:=H.lt;obtain ⟨_,n1,n2,n3⟩:=H.new_ne (Nat.le_refl _);have hA:=H.alloc (.cells (cells p vk vu vl u).toArray ty);have hR:=(Row.new w (cells p vk vu vl u) ty).set 5 (.int .i64 t) bI;refine ⟨by have:=H.base;omega,hR,?_,?_,?_,n1,n2,n3,H.ku⟩
 ·exact ownsRow_setCell_other hA.ok (a:=⟨w.heap.size,5,none⟩) (fun e=>n1 e.symm) _
 ·exact ownsRow_setCell_other hA.ou (a:=⟨w.heap.size,5,none⟩) (fun e=>n2 e.symm) _
 exact ownsRow_setCell_other hA.ol (a:=⟨w.heap.size,5,none⟩) (fun e=>n3 e.symm) _
theorem aAt (H:eG w B b p vk vu vl u) (t:Int):Calls Tryz.prog 51 #[.agg (cells p vk vu vl u).toArray,.int .i64 t] w fun e w'=>∃ nb,e = .returned (.pointer (some ⟨nb,0,none⟩))∧eG w' B nb { p with typ:=t } vk vu vl u∧Below w.heap.size w w':=by
 have hc:=H.copied t 80;have hb:Below w.heap.size w ((w.alloc (.cells (cells p vk vu vl u).toArray 80)).setCell ⟨w.heap.size,5,none⟩ (.int .i64 t)):=((Below.refl _ _).alloc (Nat.le_refl _) _).setCell (p:=⟨w.heap.size,5,none⟩) (Nat.le_refl _) _
 have hr:=(Row.new w (cells p vk vu vl u) 80)
 have q5:=hr.at 5 _ rfl;have f5:=hr.free 5 bI;have HC:=bX hc;have HB:=bX hb
 obtain ⟨C,hC⟩:∃ C,(cells p vk vu vl u).toArray=C:=⟨_,rfl⟩
 rw[hC] at HC HB q5 f5 ⊢;clear hc hb hr hC H;go_enter Tryz.func51,Tryz.ntmps51;go_wp2_with fail
 go_ret;rw[World.setCell_alloc_new] at HC HB;exact ⟨_,rfl,HC.out,HB.out⟩
end
section
variable {w:World} {st:fO} {vl vd vf vc:Value}
theorem qN (S:SiteIn w st vl vd vf vc) (OS:jW st) (comp s:ByteArray) (t:Int) (hs:s.size≤900000) (ha:asc s) :
 Calls Tryz.prog 26 #[.agg #[vl,vd,vf,vc],.string comp,.string s,.int .i64 t] w fun e w' =>
  ∃ v1 v2 v3,e = .returned (gH (pH { jF (eK st) comp (norm s) with typ:=t }) v1 v2 v3)∧Told w' w.heap.size { jF (eK st) comp (norm s) with typ:=t } v1 v2 v3∧Below w.heap.size w w':=by
 have HSI:=bX S;have hok0:=xA (eK st) comp (norm s) (by rw[norm_size];exact hs)
 have hok:hJ { jF (eK st) comp (norm s) with typ:=t }∧-1≤(jF (eK st) comp (norm s)).fmt∧-1≤(jF (eK st) comp (norm s)).lang:=⟨hok0.1.typed _,hok0.2⟩
 clear hok0;have HOK:=bX hok;have HA:=bX ha;obtain ⟨Al,cl,rfl,_,_⟩:=S.l;obtain ⟨Ad,cd,rfl,_,_⟩:=S.d;obtain ⟨Af,cf,rfl,_,_⟩:=S.f;obtain ⟨Ac,cc,rfl,_,_⟩:=S.c;clear S hok ha;have hB1:Below w.heap.size w (w.alloc (.cells #[.slice Al st.langs.length cl,.slice Ad st.dis.length cd,.slice Af st.fmts.length cf,.slice Ac st.cont.length cc] 25)):=(Below.refl _ _).alloc (Nat.le_refl _) _;have hR1:=Row.new w [.slice Al st.langs.length cl,.slice Ad st.dis.length cd,.slice Af st.fmts.length cf,.slice Ac st.cont.length cc] 25;have hs1:w.heap.size < (w.alloc (.cells #[.slice Al st.langs.length cl,.slice Ad st.dis.length cd,.slice Af st.fmts.length cf,.slice Ac st.cont.length cc] 25)).heap.size:=by simp
 go_enter Tryz.func26,Tryz.ntmps26;go_upto_region 1 with fail
 obtain ⟨w1,hw1⟩:∃ w1,w.alloc (.cells #[.slice Al st.langs.length cl,.slice Ad st.dis.length cd,.slice Af st.fmts.length cf,.slice Ac st.cont.length cc] 25)=w1:=⟨_,rfl⟩
 have hz1:w1.heap.size=w.heap.size+1:=by rw[← hw1];simp
 rw[hw1] at hB1 hR1 hs1 ⊢;clear hw1;have hB2:Below w1.heap.size w1 (w1.alloc (.cells fB.toArray 28)):=(Below.refl _ _).alloc (Nat.le_refl _) _;have hR2:Row (w1.alloc (.cells fB.toArray 28)) w1.heap.size fB:=Row.new w1 fB _;rw[show fB.toArray=TZ from rfl] at hB2 hR2
 obtain ⟨w2,hw2⟩:∃ w2,w1.alloc (.cells TZ 28)=w2:=⟨_,rfl⟩
 rw[hw2] at hB2 hR2;change Code.wp _ _ _ _ (w1.alloc (.cells TZ 28));rw[hw2];clear hw2;rw[hz1] at hR2;have hB:Below w.heap.size w w2:=hB1.trans (hB2.mono bA);have hRs:=hR1.below hB2 hs1;have r0:=hRs.at 0 _ rfl;have r1:=hRs.at 1 _ rfl;have r2:=hRs.at 2 _ rfl;have r3:=hRs.at 3 _ rfl;have HB:=bX hB;have HR2:=bX hR2;have hlt2:w.heap.size+1 < w2.heap.size:=hR2.lt bG;have cp:=aCe (HSI.out.l.below hB) (HSI.out.d.below hB) (HSI.out.f.below hB) (HSI.out.c.below hB) OS;clear hB1 hR1 hs1 hB2 hR2 hB hRs hz1;go_wp2_with fail
 refine cp.mono ?_;rintro e w3 ⟨pb,mb,sb,fb,rfl,hS,hb3⟩;have cP:=aCw hS OS comp s hs HA.out;have HB3:=bX hb3;clear cp hS hb3 r0 r1 r2 r3;go_wp2_with fail
 refine cP.mono ?_;rintro e w4 ⟨b,ub,vk,vu,vl,rfl,hp,hb4⟩;have HP:=bX hp.1;have HB4:=bX (eB HB3.out hb4);have hx:Row w4 b (cells (jF (eK st) comp (norm s)) vk vu vl (.pointer (some ⟨ub,0,none⟩))):=hp.1.row
 obtain ⟨PC,hPC⟩:∃ C,cells (jF (eK st) comp (norm s)) vk vu vl (.pointer (some ⟨ub,0,none⟩))=C:=⟨_,rfl⟩
 have hlen:PC.length=26:=by rw[← hPC];rfl
 rw[hPC] at hx;have cu:=aAt hp.1 t;rw[hPC] at cu;have hpr:w4.rangeAt b 0 PC:=fun j v hv=>by rw[Nat.zero_add];exact hx.at j v hv
 clear cP hp hb4 hPC hx
 go_wp2_with (first | (refine wpList_load_mid rfl 80 _ rfl b 0 rfl PC _ hpr Tryz.underlying80 rfl (by rw[hlen];kernel_rfl) ?_) | fail)
 refine cu.mono ?_;rintro e w9 ⟨nb,rfl,hp9,hb9⟩;have ct:=aFf hp9 HOK.out.1 HOK.out.2.1 HOK.out.2.2;replace HB4:=bX (eB HB4.out hb9);clear cu hb9 hpr hlen hp9;go_wp2_with fail
 refine ct.mono ?_;rintro e w5 ⟨v1,v2,v3,rfl,hs1,hs2,hs3,hb5⟩;have HB5:=bX (eB HB4.out hb5);have hz5:=HB4.out.size;have S1:=bX hs1;have S2:=bX hs2;have S3:=bX hs3;obtain ⟨A1,c1,e1,_⟩:=S1.out;obtain ⟨A2,c2,e2,_⟩:=S2.out;obtain ⟨A3,c3,e3,_⟩:=S3.out;clear ct hb5 hs1 hs2 hs3
 obtain ⟨C,hC⟩:∃ C:Array Value,qX (pH { jF (eK st) comp (norm s) with typ:=t }) v1 v2 v3=C:=⟨_,rfl⟩
 have hval:gH (pH { jF (eK st) comp (norm s) with typ:=t }) v1 v2 v3 = .agg C:=by rw[← hC];rfl
 have hCs:C.size=31:=by rw[← hC];rfl
 have hl:C.toList.length=31:=by simpa using hCs
 have hone:C.all (·.oneCell')=true:=by rw[← hC,e1,e2,e3];exact sG _ _ _ _ _ _ _ _ _ _
 have HV:=bX hval;rw[hval];clear hval e1 e2 e3;have HC:=bX hC;have hRf:=HR2.out.below HB5.out hlt2;have ht:World.there _ (w.heap.size+1) 0 31:=hRf.there
 dsimp only
 refine (show ∀ (a:Act) (w:World),wpList _ _ _ _ a w→_ from by assumption) _ _ ?_;refine wpList_store_mid rfl 28 _ _ rfl (w.heap.size+1) 0 C rfl rfl (by rw[hCs];exact ht) (by rw[hCs];kernel_rfl) hone ?_;have hr:=World.rangeAt_setCells_same _ (w.heap.size+1) 0 C.toList (by rw[hl];exact ht);have hld:=run_loadVar_mid (P:=Tryz.prog) _ (w.heap.size+1) 0 28 C.toList _ hr Tryz.underlying28 rfl (by rw[hl];kernel_rfl);have hfar:∀ k,k≠w.heap.size+1→(w5.setCells (w.heap.size+1) 0 C.toList).heap[k]? = w5.heap[k]?:=fun k hk=>kV _ _ k hk;have hbel:Below w.heap.size w (w5.setCells (w.heap.size+1) 0 C.toList):=below_setCells (Nat.le_succ _) _ _ _ (HB.out.trans (HB5.out.mono HB.out.size))
 obtain ⟨W,hW⟩:∃ W,w5.setCells (w.heap.size+1) 0 C.toList=W:=⟨_,rfl⟩
 rw[hW] at hld hbel hfar ⊢;have s1:=bX (S1.out.far fun k hk _=>hfar k bA);have s2:=bX (S2.out.far fun k hk _=>hfar k bA);have s3:=bX (S3.out.far fun k hk _=>hfar k bA);have HBel:=bX hbel;have hz4:w.heap.size≤w9.heap.size:=by omega
 clear hbel hfar hW hr hone hl hCs ht hRf S1 S2 S3;go_wp2_with fail
 refine bodyPost_ret (v:=.agg C) (nJ Tryz.results26 rfl (by simpa using hld)) rfl ⟨v1,v2,v3,?_,⟨s1.out.mono hz4,s2.out.mono hz4,s3.out.mono hz4⟩,HBel.out⟩;rw[HV.out]
end
section
variable {w:World} {st:fO} {vl vd vf vc:Value}
theorem qO (S:nC w st vl vd vf vc) (O:yQ st) (comp s:ByteArray) (t:Int) (hs:s.size≤900000) :
 Calls Tryz.prog 27 #[.agg #[vl,vd,vf,vc],.string comp,.string s,.int .i64 t] w fun e w' =>
  ∃ v1 v2 v3,e = .returned (gH (qK (wOf st comp (pathOf s false)) t) v1 v2 v3)∧lB w' w.heap.size (qK (wOf st comp (pathOf s false)) t) v1 v2 v3∧Below w.heap.size w w':=by
 obtain ⟨x,hx⟩:∃ x,wOf st comp (pathOf s false)=x:=⟨_,rfl⟩
 have HO:Aside0 (rK x):=bX (hx▸aIx st comp s false hs);rw[hx];have HSI:=bX S;have HF:=bX O;obtain ⟨Al,cl,rfl,_,_⟩:=S.l;obtain ⟨Ad,cd,rfl,_,_⟩:=S.d;obtain ⟨Af,cf,rfl,_,_⟩:=S.f;obtain ⟨Ac,cc,rfl,_,_⟩:=S.c;clear S O;have hB1:Below w.heap.size w (w.alloc (.cells #[.slice Al st.langs.length cl,.slice Ad st.dis.length cd,.slice Af st.fmts.length cf,.slice Ac st.cont.length cc] 25)):=(Below.refl _ _).alloc (Nat.le_refl _) _;have hR1:=Row.new w [.slice Al st.langs.length cl,.slice Ad st.dis.length cd,.slice Af st.fmts.length cf,.slice Ac st.cont.length cc] 25;have hs1:w.heap.size < (w.alloc (.cells #[.slice Al st.langs.length cl,.slice Ad st.dis.length cd,.slice Af st.fmts.length cf,.slice Ac st.cont.length cc] 25)).heap.size:=by simp
 go_enter Tryz.func27,Tryz.ntmps27;go_upto_region 1 with fail
 obtain ⟨w1,hw1⟩:∃ w1,w.alloc (.cells #[.slice Al st.langs.length cl,.slice Ad st.dis.length cd,.slice Af st.fmts.length cf,.slice Ac st.cont.length cc] 25)=w1:=⟨_,rfl⟩
 have hz1:w1.heap.size=w.heap.size+1:=by rw[← hw1];simp
 rw[hw1] at hB1 hR1 hs1 ⊢;clear hw1;have hB2:Below w1.heap.size w1 (w1.alloc (.cells fB.toArray 28)):=(Below.refl _ _).alloc (Nat.le_refl _) _;have hR2:Row (w1.alloc (.cells fB.toArray 28)) w1.heap.size fB:=Row.new w1 fB _;rw[show fB.toArray=TZ from rfl] at hB2 hR2
 obtain ⟨w2,hw2⟩:∃ w2,w1.alloc (.cells TZ 28)=w2:=⟨_,rfl⟩
 rw[hw2] at hB2 hR2;change Code.wp _ _ _ _ (w1.alloc (.cells TZ 28));rw[hw2];clear hw2;rw[hz1] at hR2;have hB:Below w.heap.size w w2:=hB1.trans (hB2.mono bA);have hRs:=hR1.below hB2 hs1;have r0:=hRs.at 0 _ rfl;have r1:=hRs.at 1 _ rfl;have r2:=hRs.at 2 _ rfl;have r3:=hRs.at 3 _ rfl;have HB:=bX hB;have HR2:=bX hR2;have hlt2:w.heap.size+1 < w2.heap.size:=hR2.lt bG;have cp:=aA0 (HSI.out.below hB) HF.out comp s false hs;rw[hx] at cp;clear hx hB1 hR1 hs1 hB2 hR2 hB hRs hz1 HF;go_wp2_with fail
 refine cp.mono ?_;rintro e w3 ⟨v0,v1,v2,rfl,q0,q1,q2,hb3⟩;obtain ⟨A0,c0,e0,_⟩:=id q0;obtain ⟨A1,c1,e1,_⟩:=id q1;obtain ⟨A2,c2,e2,_⟩:=id q2;subst e0 e1 e2;have ca:=aD0 HO.out t (q0.mono (Nat.zero_le _)) (q1.mono (Nat.zero_le _)) (q2.mono (Nat.zero_le _));have HQ0:=bX q0;have HQ1:=bX q1;have HQ2:=bX q2;have HB3:=bX hb3;clear cp q0 q1 q2 hb3 r0 r1 r2 r3;go_wp2_with fail
 refine ca.mono ?_;rintro e w4 ⟨rfl,hb4⟩;have HB4:=bX (eB HB3.out hb4);have S1:=bX (HQ0.out.below hb4);have S2:=bX (HQ1.out.below hb4);have S3:=bX (HQ2.out.below hb4);clear ca hb4 HQ0 HQ1 HQ2 HB3
 obtain ⟨C,hC⟩:∃ C:Array Value,qX (qK x t) (.slice A2 x.langs.length c2) (.slice A0 x.ids.length c0) (.slice A1 x.unk.length c1)=C:=⟨_,rfl⟩
 have hval:gH (qK x t) (.slice A2 x.langs.length c2) (.slice A0 x.ids.length c0) (.slice A1 x.unk.length c1) = .agg C:=by rw[← hC];rfl
 have hCs:C.size=31:=by rw[← hC];rfl
 have hl:C.toList.length=31:=by simpa using hCs
 have hone:C.all (·.oneCell')=true:=by rw[← hC];exact sG _ _ _ _ _ _ _ _ _ _
 have HV:=bX hval;rw[hval];clear hval;have HC:=bX hC;have hRf:=HR2.out.below HB4.out hlt2;have ht:World.there _ (w.heap.size+1) 0 31:=hRf.there
 dsimp only
 refine (show ∀ (a:Act) (w:World),wpList _ _ _ _ a w→_ from by assumption) _ _ ?_;refine wpList_store_mid rfl 28 _ _ rfl (w.heap.size+1) 0 C rfl rfl (by rw[hCs];exact ht) (by rw[hCs];kernel_rfl) hone ?_;have hr:=World.rangeAt_setCells_same _ (w.heap.size+1) 0 C.toList (by rw[hl];exact ht);have hld:=run_loadVar_mid (P:=Tryz.prog) _ (w.heap.size+1) 0 28 C.toList _ hr Tryz.underlying28 rfl (by rw[hl];kernel_rfl);have hfar:∀ k,k≠w.heap.size+1→(w4.setCells (w.heap.size+1) 0 C.toList).heap[k]? = w4.heap[k]?:=fun k hk=>kV _ _ k hk;have hbel:Below w.heap.size w (w4.setCells (w.heap.size+1) 0 C.toList):=below_setCells (Nat.le_succ _) _ _ _ (HB.out.trans (HB4.out.mono HB.out.size))
 obtain ⟨W,hW⟩:∃ W,w4.setCells (w.heap.size+1) 0 C.toList=W:=⟨_,rfl⟩
 rw[hW] at hld hbel hfar ⊢;have hz:=HB.out.size;have s1:=bX (S1.out.far fun k hk _=>hfar k bA);have s2:=bX (S2.out.far fun k hk _=>hfar k bA);have s3:=bX (S3.out.far fun k hk _=>hfar k bA);have HBel:=bX hbel;clear hbel hfar hW hr hone hl hCs ht hRf S1 S2 S3;go_wp2_with fail
 refine bodyPost_ret (v:=.agg C) (nJ Tryz.results27 rfl (by simpa using hld)) rfl ⟨_,_,_,?_,⟨s3.out.mono hz,s1.out.mono hz,s2.out.mono hz⟩,HBel.out⟩;rw[HV.out]
end
end Go.Proofs.YtlkoeeccebmjmaaGreatDoor.Path
