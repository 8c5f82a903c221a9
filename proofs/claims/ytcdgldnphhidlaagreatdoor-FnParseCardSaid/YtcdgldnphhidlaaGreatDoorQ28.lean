/- Texts that the law leans on: SpecParse, Asked. Condition: as told at each. -/
import Derived.Test.YtcdgldnphhidlaaGreatDoorQa
import Derived.Test.YtcdgldnphhidlaaGreatDoorQ19
import Derived.Test.YtcdgldnphhidlaaGreatDoorQ21
import Derived.Test.YtcdgldnphhidlaaGreatDoorQ27
set_option linter.unusedVariables false
set_option linter.unusedSimpArgs false
set_option maxRecDepth 100000
set_option maxHeartbeats 16000000
namespace Go.Proofs.YtcdgldnphhidlaaGreatDoor.Path
open Go.RowKit Go.WideMaps Go.ZW.PrintWords Go.Proofs.YtcdgldnphhidlaaGreatDoor.Base Go.Proofs.YtcdgldnphhidlaaGreatDoor.Lower Go.Proofs.YtcdgldnphhidlaaGreatDoor.Total Go.Proofs.YtcdgldnphhidlaaGreatDoor.PCore
def oC (w:World) (B:Nat) (t:gK) (v1 v2 v3:Value):Prop:=eV w B v1 t.langs∧eV w B v2 t.ids∧eV w B v3 t.unk
theorem oC.below {w w' : World} {B:Nat} {t:gK} {v1 v2 v3:Value} (H:oC w B t v1 v2 v3) (hb:Below w.heap.size w w'):oC w' B t v1 v2 v3:=⟨H.1.below hb,H.2.1.below hb,H.2.2.below hb⟩
theorem oC.mono {w:World} {B B' : Nat} {t:gK} {v1 v2 v3:Value} (H:oC w B t v1 v2 v3) (h:B'≤B):oC w B' t v1 v2 v3:=⟨H.1.mono h,H.2.1.mono h,H.2.2.mono h⟩
theorem oC.far {w w' : World} {B:Nat} {t:gK} {v1 v2 v3:Value} (H:oC w B t v1 v2 v3) (hb:∀ k,B≤k→k < w.heap.size→w'.heap[k]? = w.heap[k]?):oC w' B t v1 v2 v3:=⟨H.1.far hb,H.2.1.far hb,H.2.2.far hb⟩
theorem oC.one {w:World} {B:Nat} {t:gK} {v1 v2 v3:Value} (H:oC w B t v1 v2 v3):(nV t v1 v2 v3).all (·.oneCell')=true:=by
 obtain ⟨A1,c1,rfl,_⟩:=H.1;obtain ⟨A2,c2,rfl,_⟩:=H.2.1;obtain ⟨A3,c3,rfl,_⟩:=H.2.2;exact nZ _ _ _ _ _ _ _ _ _ _
section
variable {w:World} {st:eW} {vl vd vf vc:Value}
theorem aAo (S:nS w st vl vd vf vc) (O:aAv st) (comp s:ByteArray) (hs:s.size≤900000) :
 Calls Tryz.prog 49 #[.agg #[vl,vd,vf,vc],.string comp,.string s] w fun e w' =>
  ∃ v1 v2 v3,e = .returned (iH (tQ (wOf st comp (pathOf s false))) v1 v2 v3)∧oC w' w.heap.size (tQ (wOf st comp (pathOf s false))) v1 v2 v3∧Below w.heap.size w w':=by
 obtain ⟨x,hx⟩:∃ x,wOf st comp (pathOf s false)=x:=⟨_,rfl⟩
 have HO:Aside0 (wH x):=cB (hx▸aK1 st comp s false hs);rw[hx];have HSI:=cB S;have HF:=cB O;obtain ⟨Al,cl,rfl,_,_⟩:=S.l;obtain ⟨Ad,cd,rfl,_,_⟩:=S.d;obtain ⟨Af,cf,rfl,_,_⟩:=S.f;obtain ⟨Ac,cc,rfl,_,_⟩:=S.c;clear S O;have hB1:Below w.heap.size w (w.alloc (.cells #[.slice Al st.langs.length cl,.slice Ad st.dis.length cd,.slice Af st.fmts.length cf,.slice Ac st.cont.length cc] 25)):=(Below.refl _ _).alloc (Nat.le_refl _) _;have hR1:=Row.new w [.slice Al st.langs.length cl,.slice Ad st.dis.length cd,.slice Af st.fmts.length cf,.slice Ac st.cont.length cc] 25;have hs1:w.heap.size < (w.alloc (.cells #[.slice Al st.langs.length cl,.slice Ad st.dis.length cd,.slice Af st.fmts.length cf,.slice Ac st.cont.length cc] 25)).heap.size:=by simp
 go_enter Tryz.func49,Tryz.ntmps49;go_upto_region 1 with fail
 obtain ⟨w1,hw1⟩:∃ w1,w.alloc (.cells #[.slice Al st.langs.length cl,.slice Ad st.dis.length cd,.slice Af st.fmts.length cf,.slice Ac st.cont.length cc] 25)=w1:=⟨_,rfl⟩
 have hz1:w1.heap.size=w.heap.size+1:=by rw[← hw1];simp
 rw[hw1] at hB1 hR1 hs1 ⊢;clear hw1;have hB2:Below w1.heap.size w1 (w1.alloc (.cells eZ.toArray 35)):=(Below.refl _ _).alloc (Nat.le_refl _) _;have hR2:Row (w1.alloc (.cells eZ.toArray 35)) w1.heap.size eZ:=Row.new w1 eZ _;rw[show eZ.toArray=TZ from rfl] at hB2 hR2
 obtain ⟨w2,hw2⟩:∃ w2,w1.alloc (.cells TZ 35)=w2:=⟨_,rfl⟩
 rw[hw2] at hB2 hR2;change Code.wp _ _ _ _ (w1.alloc (.cells TZ 35));rw[hw2];clear hw2;rw[hz1] at hR2;have hB:Below w.heap.size w w2:=hB1.trans (hB2.mono bA);have hRs:=hR1.below hB2 hs1;have r0:=hRs.at 0 _ rfl;have r1:=hRs.at 1 _ rfl;have r2:=hRs.at 2 _ rfl;have r3:=hRs.at 3 _ rfl;have HB:=cB hB;have HR2:=cB hR2;have hlt2:w.heap.size+1 < w2.heap.size:=hR2.lt bF;have cp:=aCk (HSI.out.below hB) HF.out comp s false hs;rw[hx] at cp;clear hx hB1 hR1 hs1 hB2 hR2 hB hRs hz1 HF;go_wp2_with fail
 refine cp.mono ?_;rintro e w3 ⟨v0,v1,v2,rfl,q0,q1,q2,hb3⟩;obtain ⟨A0,c0,e0,_⟩:=id q0;obtain ⟨A1,c1,e1,_⟩:=id q1;obtain ⟨A2,c2,e2,_⟩:=id q2;subst e0 e1 e2;have ca:=aB7 HO.out (q0.mono (Nat.zero_le _)) (q1.mono (Nat.zero_le _)) (q2.mono (Nat.zero_le _));have HQ0:=cB q0;have HQ1:=cB q1;have HQ2:=cB q2;have HB3:=cB hb3;clear cp q0 q1 q2 hb3 r0 r1 r2 r3;go_wp2_with fail
 refine ca.mono ?_;rintro e w4 ⟨rfl,hb4⟩;have HB4:=cB (eD HB3.out hb4);have S1:=cB (HQ0.out.below hb4);have S2:=cB (HQ1.out.below hb4);have S3:=cB (HQ2.out.below hb4);clear ca hb4 HQ0 HQ1 HQ2 HB3
 obtain ⟨C,hC⟩:∃ C:Array Value,nV (tQ x) (.slice A2 x.langs.length c2) (.slice A0 x.ids.length c0) (.slice A1 x.unk.length c1)=C:=⟨_,rfl⟩
 have hval:iH (tQ x) (.slice A2 x.langs.length c2) (.slice A0 x.ids.length c0) (.slice A1 x.unk.length c1) = .agg C:=by rw[← hC];rfl
 have hCs:C.size=31:=by rw[← hC];rfl
 have hl:C.toList.length=31:=by simpa using hCs
 have hone:C.all (·.oneCell')=true:=by rw[← hC];exact nZ _ _ _ _ _ _ _ _ _ _
 have HV:=cB hval;rw[hval];clear hval;have HC:=cB hC;have hRf:=HR2.out.below HB4.out hlt2;have ht:World.there _ (w.heap.size+1) 0 31:=hRf.there
 dsimp only
 refine (show ∀ (a:Act) (w:World),wpList _ _ _ _ a w→_ from by assumption) _ _ ?_;refine wpList_store_mid rfl 35 _ _ rfl (w.heap.size+1) 0 C rfl rfl (by rw[hCs];exact ht) (by rw[hCs];kernel_rfl) hone ?_;have hr:=World.rangeAt_setCells_same _ (w.heap.size+1) 0 C.toList (by rw[hl];exact ht);have hld:=run_loadVar_mid (P:=Tryz.prog) _ (w.heap.size+1) 0 35 C.toList _ hr Tryz.underlying35 rfl (by rw[hl];kernel_rfl);have hfar:∀ k,k≠w.heap.size+1→(w4.setCells (w.heap.size+1) 0 C.toList).heap[k]? = w4.heap[k]?:=fun k hk=>hO _ _ k hk;have hbel:Below w.heap.size w (w4.setCells (w.heap.size+1) 0 C.toList):=below_setCells (Nat.le_succ _) _ _ _ (HB.out.trans (HB4.out.mono HB.out.size))
 obtain ⟨W,hW⟩:∃ W,w4.setCells (w.heap.size+1) 0 C.toList=W:=⟨_,rfl⟩
 rw[hW] at hld hbel hfar ⊢;have hz:=HB.out.size;have s1:=cB (S1.out.far fun k hk _=>hfar k bA);have s2:=cB (S2.out.far fun k hk _=>hfar k bA);have s3:=cB (S3.out.far fun k hk _=>hfar k bA);have HBel:=cB hbel;clear hbel hfar hW hr hone hl hCs ht hRf S1 S2 S3;go_wp2_with fail
 refine bodyPost_ret (v:=.agg C) (oX Tryz.results49 rfl (by simpa using hld)) rfl ⟨_,_,_,?_,⟨s3.out.mono hz,s1.out.mono hz,s2.out.mono hz⟩,HBel.out⟩;rw[HV.out]
end
open Go.ZW.PrintLast
theorem rQ {P:Program} {fn:Func} {tmps:Array Value} {a b u:Nat} {t:TypeId} {v1 v2:Value} {w:World} {x y:Addr} (hf:fn.results = #[.cell a t,.cell b t,.tmp u]) (l1:(loadVar t x).run P w = .ok v1 w) (l2:(loadVar t y).run P w = .ok v2 w) (ha:tmps.getD a undef = .pointer (some x):=by first | rfl | assumption) (hb:tmps.getD b undef = .pointer (some y):=by first | rfl | assumption) :
 (results fn tmps).run P w = .ok (.tuple #[v1,v2,tmps.getD u undef]) w:=by
 unfold results;rw[hf];have ha' : tmps[a]?.getD undef = .pointer (some x):=by simpa using ha
 have hb' : tmps[b]?.getD undef = .pointer (some y):=by simpa using hb
 simp[Sem.run_bind,ha',hb',l1,l2,asAddr]
theorem lZ {w:World} {b b' : Nat} {cs:List Value} (H:Row w b cs) (hne:b≠b') (C:Array Value):Row (w.setCells b' 0 C.toList) b cs:=H.step (hO _ _ _ hne)
theorem qD {w:World} {b:Nat} {C:Array Value} (hR:Row w b C.toList) (hC:C.size=31):(loadVar 35 ⟨b,0,none⟩).run Tryz.prog w = .ok (.agg C) w:=by
 have hl:C.toList.length=31:=by simpa using hC
 have hr:w.rangeAt b 0 C.toList:=by
  intro j v hv;rw[Nat.zero_add];exact hR.at j v hv
 have hld:=run_loadVar_mid (P:=Tryz.prog) _ b 0 35 C.toList _ hr Tryz.underlying35 rfl (by rw[hl];kernel_rfl)
 simpa using hld
theorem aAp {ops:Array Oper} {oi:Oper} {a:Act} {w:World} {K:Act→World→Prop} {Q:Exit→Act→World→Prop} {b:Nat} {C:Array Value} {cs:List Value} (hw:Region.wanted oi (yielded ops a.tmps)=true) (hN:oi.dst=none) (x y:Operand) (ho:oi.op = .store 35 x y)
 (hx:a.eval x = .pointer (some ⟨b,0,none⟩)) (hy:a.eval y = .agg C) (hR:Row w b cs) (hcs:cs.length=31) (hC:C.size=31) (hone:C.all (·.oneCell')=true) (h:K a (w.setCells b 0 C.toList)) :
 if Region.wanted oi (yielded ops a.tmps)=true then Oper.wp Tryz.prog oi a w K Q else K (a.put none undef) w:=by
 have ht:w.there b 0 31:=hcs▸hR.there;rw[if_pos hw];refine wp_store_mid 35 x y ho b 0 C hx hy (by rw[hC];exact ht) (by rw[hC];kernel_rfl) hone ?_;rw[hN];exact h
theorem aHw {st:eW} {comp s:ByteArray} (h:shortS st comp s=true):aAv st:=by
 obtain ⟨_,_,_,h1,h2,h3,h4,h5,h6,_,h7⟩:=tA h;have hlen:(st.fmts.map mkF).length=st.fmts.length:=by simp
 exact ⟨aM,aM,aM,aM,fun x hx=>Nat.le_trans (h5 x hx) bA,fun x hx=>Nat.le_trans (h6 x hx) bA,fun x hx=>Nat.le_trans (h7 x hx) bA⟩
theorem aJn {st:eW} {comp s:ByteArray} (K:lF st comp s):tQ (wOf st comp (pathOf s false))=gL (gB (eJ st) comp (norm s)):=by
 obtain ⟨h1,h2,h3⟩:=aEi K (wOf st comp (pathOf s false)).typ false;have e:{ gB (eJ st) comp (norm s) with typ:=(wOf st comp (pathOf s false)).typ,trim:=false }=gB (eJ st) comp (norm s):=by rw[← h2,← h3]
 rw[e] at h1;rw[h1,aG5]
section
variable {w:World} {st:eW} {vl vd vf vc:Value}
theorem aEq (S:mM w st vl vd vf vc) (hf:rB st=true) (comp s:ByteArray) (hc:comp.size≤MM) (hs:s.size≤MM) :
 ∃ ok:Bool,(ok=true→jF st∧asc s∧asc comp∧s.size≤400∧comp.size≤2000∧lF st comp s) ∧
 Calls Tryz.prog 41 #[.agg #[vl,vd,vf,vc],.string comp,.string s] w fun e w' =>
  ∃ t v1 v2 v3 u1 u2 u3,e = .returned (.tuple #[iH t v1 v2 v3,iH t u1 u2 u3,.bool ok])∧oC w' w.heap.size t v1 v2 v3∧oC w' w.heap.size t u1 u2 u3 ∧
   (ok=true→t=gL (gB (eJ st) comp (norm s)))∧Below w.heap.size w w':=by
 obtain ⟨b1,hb1⟩:∃ b1,shortS st comp s=b1:=⟨_,rfl⟩
 obtain ⟨b2,hb2,hk2⟩:∃ b2:Bool,(b1=true→b2=true→asc s∧asc comp∧s.size≤400∧lF st comp s)∧(b1=true→∀ w',Below w.heap.size w w'→Calls Tryz.prog 38 #[.agg #[vl,vd,vf,vc],.string comp,.string s] w' fun e w''=>e = .returned (.bool b2)∧Below w'.heap.size w' w''):=by
  cases b1 with
  | false=>exact ⟨false,fun h=>(by cases h),fun h=>(by cases h)⟩
  | true =>
   obtain ⟨r,h1,h2⟩:=tM S comp s hb1;exact ⟨r,fun _=>h1,fun _=>h2⟩
 refine ⟨b1 && b2,fun h=>?_,?_⟩
 ·simp only[Bool.and_eq_true] at h;obtain ⟨h1,h2⟩:=h;rw[h1] at hb1;have h3:=tA hb1;have h4:=hb2 h1 h2;exact ⟨h3.1,h4.1,h4.2.1,h4.2.2.1,h3.2.1,h4.2.2.2⟩
 have HSA:=cB S;have HB1:=cB hb1;have HB2:=cB hb2;have HK2:=cB hk2;obtain ⟨Al,cl,rfl,_,_⟩:=S.l;obtain ⟨Ad,cd,rfl,_,_⟩:=S.d;obtain ⟨Af,cf,rfl,_,_⟩:=S.f;obtain ⟨Ac,cc,rfl,_,_⟩:=S.c;clear S hb1 hb2 hk2;have hB1:Below w.heap.size w (w.alloc (.cells #[.slice Al st.langs.length cl,.slice Ad st.dis.length cd,.slice Af st.fmts.length cf,.slice Ac st.cont.length cc] 25)):=(Below.refl _ _).alloc (Nat.le_refl _) _;have hR1:=Row.new w [.slice Al st.langs.length cl,.slice Ad st.dis.length cd,.slice Af st.fmts.length cf,.slice Ac st.cont.length cc] 25;have hs1:w.heap.size < (w.alloc (.cells #[.slice Al st.langs.length cl,.slice Ad st.dis.length cd,.slice Af st.fmts.length cf,.slice Ac st.cont.length cc] 25)).heap.size:=by simp
 go_enter Tryz.func41,Tryz.ntmps41;go_upto_region 1 with fail
 obtain ⟨w1,hw1⟩:∃ w1,w.alloc (.cells #[.slice Al st.langs.length cl,.slice Ad st.dis.length cd,.slice Af st.fmts.length cf,.slice Ac st.cont.length cc] 25)=w1:=⟨_,rfl⟩
 have hz1:w1.heap.size=w.heap.size+1:=by rw[← hw1];simp
 rw[hw1] at hB1 hR1 hs1 ⊢;clear hw1;have hBa:Below w1.heap.size w1 (w1.alloc (.cells eZ.toArray 35)):=(Below.refl _ _).alloc (Nat.le_refl _) _;have hRa:Row (w1.alloc (.cells eZ.toArray 35)) w1.heap.size eZ:=Row.new w1 eZ _;have hBb:Below w1.heap.size w1 ((w1.alloc (.cells eZ.toArray 35)).alloc (.cells eZ.toArray 35)):=hBa.alloc bI _;have hRb:Row ((w1.alloc (.cells eZ.toArray 35)).alloc (.cells eZ.toArray 35)) (w1.alloc (.cells eZ.toArray 35)).heap.size eZ:=Row.new _ eZ _;have hRa':=hRa.alloc (hRa.lt bF) (.cells eZ.toArray 35);rw[show (w1.alloc (.cells eZ.toArray 35)).heap.size=w.heap.size+2 by simp[hz1]] at hRb;rw[hz1] at hRa';rw[show eZ.toArray=TZ from rfl] at hBb hRb hRa';clear hBa hRa
 obtain ⟨w2,hw2⟩:∃ w2,(w1.alloc (.cells TZ 35)).alloc (.cells TZ 35)=w2:=⟨_,rfl⟩
 rw[hw2] at hBb hRb hRa';change Code.wp _ _ _ _ ((w1.alloc (.cells TZ 35)).alloc (.cells TZ 35));rw[hw2];clear hw2;have hB:Below w.heap.size w w2:=hB1.trans (hBb.mono bA);have hRs:=hR1.below hBb hs1;have HRS:=cB hRs;have r0:=hRs.at 0 _ rfl;have r1:=hRs.at 1 _ rfl;have r2:=hRs.at 2 _ rfl;have r3:=hRs.at 3 _ rfl;have HB:=cB hB;have HRA:=cB hRa';have HRB:=cB hRb;have hlt2:w.heap.size+2 < w2.heap.size:=hRb.lt bF;have hS2:=HSA.out.below hB;have cs:=aFq hS2 hf comp s bA;rw[HB1.out] at cs;clear hB1 hR1 hs1 hBb hRb hRa' hB hRs hz1 hS2;go_wp2_with fail
 refine cs.mono ?_;rintro e w3 ⟨rfl,hb3⟩;have HB3:=cB hb3;clear cs r0 r1 r2 r3;have hRs:=HRS.out.below hb3 bA;have r0:=hRs.at 0 _ rfl;have r1:=hRs.at 1 _ rfl;have r2:=hRs.at 2 _ rfl;have r3:=hRs.at 3 _ rfl;clear hb3 hRs;cases b1
 ·have HRa:=cB (HRA.out.below HB3.out bA);have HRb:=cB (HRB.out.below HB3.out hlt2);go_upto_region 2 with fail
  clear r0 r1 r2 r3
  go_wp2_with (first | (refine kZ rfl (.tmp 6) (.tmp 21) rfl (w.heap.size+1) TZ rfl rfl ?q4 (cs:=eZ) rfl rfl bB ?_;(case q4=>exact HRa.out)) | (refine kZ rfl (.tmp 7) (.tmp 22) rfl (w.heap.size+2) TZ rfl rfl ?q4 (cs:=eZ) rfl rfl bB ?_;(case q4=>exact lZ HRb.out (Nat.succ_ne_self _) _)) | fail)
  have hbel:Below w.heap.size w ((w3.setCells (w.heap.size+1) 0 TZ.toList).setCells (w.heap.size+2) 0 TZ.toList):=below_setCells bA _ _ _ (below_setCells bA _ _ _ (HB.out.trans (HB3.out.mono HB.out.size)));refine bodyPost_ret (rQ Tryz.results41 (qD (lZ (Row.setAll (ds:=TZ.toList) HRa.out rfl) bA _) rfl) (qD (Row.setAll (ds:=TZ.toList) (lZ HRb.out (Nat.succ_ne_self _) TZ) rfl) rfl)) rfl ⟨aCq,.slice none 0 0,.slice none 0 0,.slice none 0 0,.slice none 0 0,.slice none 0 0,.slice none 0 0,rfl,⟨eV.nil _ _ _ _,eV.nil _ _ _ _,eV.nil _ _ _ _⟩,⟨eV.nil _ _ _ _,eV.nil _ _ _ _,eV.nil _ _ _ _⟩,(fun h=>by cases h),hbel⟩
 have cp:=HK2.out rfl w3 (HB.out.trans (HB3.out.mono HB.out.size));go_wp2_with fail
 refine cp.mono ?_;rintro e w4 ⟨rfl,hb4⟩;have HB4:=cB (eD HB3.out hb4);clear cp r0 r1 r2 r3;have hRs:=(HRS.out.below HB3.out bA).below hb4 (by have:=HB3.out.size;omega);have r0:=hRs.at 0 _ rfl;have r1:=hRs.at 1 _ rfl;have r2:=hRs.at 2 _ rfl;have r3:=hRs.at 3 _ rfl;clear hb4 hRs;have HRa:=cB (HRA.out.below HB4.out bA);have HRb:=cB (HRB.out.below HB4.out hlt2);cases b2
 ·go_upto_region 2 with fail
  clear r0 r1 r2 r3
  go_wp2_with (first | (refine kZ rfl (.tmp 6) (.tmp 21) rfl (w.heap.size+1) TZ rfl rfl ?q4 (cs:=eZ) rfl rfl bB ?_;(case q4=>exact HRa.out)) | (refine kZ rfl (.tmp 7) (.tmp 22) rfl (w.heap.size+2) TZ rfl rfl ?q4 (cs:=eZ) rfl rfl bB ?_;(case q4=>exact lZ HRb.out (Nat.succ_ne_self _) _)) | fail)
  have hbel:Below w.heap.size w ((w4.setCells (w.heap.size+1) 0 TZ.toList).setCells (w.heap.size+2) 0 TZ.toList):=below_setCells bA _ _ _ (below_setCells bA _ _ _ (HB.out.trans (HB4.out.mono HB.out.size)));refine bodyPost_ret (rQ Tryz.results41 (qD (lZ (Row.setAll (ds:=TZ.toList) HRa.out rfl) bA _) rfl) (qD (Row.setAll (ds:=TZ.toList) (lZ HRb.out (Nat.succ_ne_self _) TZ) rfl) rfl)) rfl ⟨aCq,.slice none 0 0,.slice none 0 0,.slice none 0 0,.slice none 0 0,.slice none 0 0,.slice none 0 0,rfl,⟨eV.nil _ _ _ _,eV.nil _ _ _ _,eV.nil _ _ _ _⟩,⟨eV.nil _ _ _ _,eV.nil _ _ _ _,eV.nil _ _ _ _⟩,(fun h=>by cases h),hbel⟩
 have hok:=HB2.out bM bM;have ho:=tA HB1.out;have hfew:=aHw HB1.out;have HB4d:Aside0 (Below w2.heap.size w2 w4.drew):=cB HB4.out.drew;have HSI:=cB (HSA.out.toSiteIn.below (HB.out.trans (HB4d.out.mono HB.out.size)));have HOK:=cB hok;have HOS:=cB ho.1;have HFW:=cB hfew;have hs9:Aside0 (s.size≤900000):=cB bA;have hz4:w2.heap.size≤w4.heap.size:=HB4.out.size;clear hok ho hfew;go_upto_region 3 with fail
 refine iJ (n:=11) (S:=fun w'=>w'.cell? ⟨w.heap.size,0,none⟩=some (.slice Al st.langs.length cl)∧w'.cell? ⟨w.heap.size,1,none⟩=some (.slice Ad st.dis.length cd)∧w'.cell? ⟨w.heap.size,2,none⟩=some (.slice Af st.fmts.length cf)∧w'.cell? ⟨w.heap.size,3,none⟩=some (.slice Ac st.cont.length cc)) (ds:=[8,9]) _ bB rfl rfl ⟨r0,r1,r2,r3⟩ (fun hHeld=>?_);refine sA1 1 (some 24) sB1 ?_
 refine sA1 2 (some 25) sB1 ?_
 refine sA1 5 (some 28) sB1 ?_
 refine sA1 6 (some 29) sB1 ?_
 refine sC1 0 (some 23) sP1 ?_
 refine sC1 4 (some 27) sP1 ?_
 refine sF1 3 (some 26) sG1 (fun K hK=>?_);refine lS Tryz.func40 bB rfl #[.agg #[.slice Al st.langs.length cl,.slice Ad st.dis.length cd,.slice Af st.fmts.length cf,.slice Ac st.cont.length cc],.string comp,.string s] bH rfl rfl bJ ?_
 with_reducible refine ((oP HSI.out HOS.out comp s hs9.out HOK.out.1)).mono ?_
 rintro e w5 ⟨v1,v2,v3,rfl,hT,hb5⟩;refine ⟨_,rfl,?_⟩;have HT:Aside0 (oC w5 w4.heap.size (gL (gB (eJ st) comp (norm s))) v1 v2 v3):=cB hT;have HB5:=cB (eD HB4d.out hb5);have r0_5:=cell_far (w:=w4.drew) r0 hb5;have r1_5:=cell_far (w:=w4.drew) r1 hb5;have r2_5:=cell_far (w:=w4.drew) r2 hb5;have r3_5:=cell_far (w:=w4.drew) r3 hb5;have HS5:=cB (HSI.out.below hb5);have hz5:w4.heap.size≤w5.heap.size:=hb5.size;clear hT;generalize hC:iH (gL (gB (eJ st) comp (norm s))) v1 v2 v3=TV;have HTV:=cB hC;clear hC;refine hK.out _ _ ⟨r0_5,r1_5,r2_5,r3_5⟩ (fun hHeld=>?_);clear hK K;refine gM sJ1 ?_
 refine sF1 7 (some 30) sG1 (fun K hK=>?_);refine lS Tryz.func49 bB rfl #[.agg #[.slice Al st.langs.length cl,.slice Ad st.dis.length cd,.slice Af st.fmts.length cf,.slice Ac st.cont.length cc],.string comp,.string s] bH rfl rfl bJ ?_
 with_reducible refine ((aJn HOK.out.2.2.2▸aAo ⟨HS5.out.l,HS5.out.d,HS5.out.f,HS5.out.c⟩ HFW.out comp s hs9.out)).mono ?_
 rintro e w6 ⟨u1,u2,u3,rfl,hU,hb6⟩;refine ⟨_,rfl,?_⟩;have HU:=cB hU;have HT6:=cB (HT.out.below hb6);have HB6:=cB (eD HB5.out hb6);have HRa:=cB (HRA.out.below HB6.out bA);have HRb:=cB (HRB.out.below HB6.out hlt2);have hz6:w5.heap.size≤w6.heap.size:=hb6.size
 obtain ⟨t,ht⟩:∃ t,gL (gB (eJ st) comp (norm s))=t:=⟨_,rfl⟩
 rw[ht] at HT6 HU HTV ⊢
 obtain ⟨A,hA⟩:∃ A:Array Value,nV t v1 v2 v3=A:=⟨_,rfl⟩
 obtain ⟨D,hD⟩:∃ D:Array Value,nV t u1 u2 u3=D:=⟨_,rfl⟩
 have HAS:=cB (show A.size=31 by rw[← hA];rfl);have HDS:=cB (show D.size=31 by rw[← hD];rfl);have HAO:=cB (show A.all (·.oneCell')=true by rw[← hA];exact HT6.out.one);have HDO:=cB (show D.all (·.oneCell')=true by rw[← hD];exact HU.out.one);have hval:iH t u1 u2 u3 = .agg D:=by rw[← hD];rfl
 have HV:=cB hval;obtain rfl:TV = .agg A:=by rw[← HTV.out,← hA];rfl
 have HTR:=cB ht;rw[hval];clear hval hA hD ht hU;refine hK.out _ _ ⟨(cell_far (w:=w5) r0_5 hb6),(cell_far (w:=w5) r1_5 hb6),(cell_far (w:=w5) r2_5 hb6),(cell_far (w:=w5) r3_5 hb6)⟩ (fun hHeld=>?_);clear hK K;refine gM sJ1 ?_
 refine sH1 8 none sI1 (fun K hK=>?_);refine aAp bH rfl (.tmp 6) (.tmp 26) rfl rfl rfl HRa.out rfl HAS.out HAO.out ?_;refine hK.out _ _ ?_;clear hK K;refine sH1 9 none sI1 (fun K hK=>?_);refine aAp bH rfl (.tmp 7) (.tmp 30) rfl rfl rfl (lZ HRb.out (Nat.succ_ne_self _) A) rfl HDS.out HDO.out ?_;refine hK.out _ _ ?_;clear hK K;refine sA1 10 (some 8) sB1 ?_
 refine iV bB ?_;have hbel:Below w.heap.size w ((w6.setCells (w.heap.size+1) 0 A.toList).setCells (w.heap.size+2) 0 D.toList):=below_setCells bA _ _ _ (below_setCells bA _ _ _ (HB.out.trans (HB6.out.mono HB.out.size)));have hfar:∀ k,w4.heap.size≤k→((w6.setCells (w.heap.size+1) 0 A.toList).setCells (w.heap.size+2) 0 D.toList).heap[k]? = w6.heap[k]?:=fun k hk=>(hO _ _ k bA).trans (hO _ _ k bA);have s1:=HT6.out.far fun k hk _=>hfar k hk;have s2:=HU.out.far fun k hk _=>hfar k bA;have hzw:w.heap.size≤w4.heap.size:=by omega
 have l1:=qD (lZ (Row.setAll (ds:=A.toList) HRa.out (by rw[Array.length_toList,HAS.out];rfl)) (show w.heap.size+1≠w.heap.size+2 by omega) D) HAS.out;have l2:=qD (Row.setAll (ds:=D.toList) (lZ HRb.out (Nat.succ_ne_self _) A) (by rw[Array.length_toList,HDS.out];rfl)) HDS.out;have HBEL:=cB hbel;have HS1:=cB s1;have HS2:=cB s2;clear hbel hfar s1 s2 r0 r1 r2 r3 r0_5 r1_5 r2_5 r3_5
 obtain ⟨W,hW⟩:∃ W,(w6.setCells (w.heap.size+1) 0 A.toList).setCells (w.heap.size+2) 0 D.toList=W:=⟨_,rfl⟩
 rw[hW] at l1 l2 HBEL HS1 HS2 ⊢;clear hW;have HL1:=cB l1;have HL2:=cB l2;clear l1 l2;go_wp2_with fail
 refine bodyPost_ret (rQ Tryz.results41 HL1.out HL2.out) rfl ⟨t,v1,v2,v3,u1,u2,u3,?_,HS1.out.mono hzw,HS2.out.mono bA,fun _=>HTR.out.symm,HBEL.out⟩;rw[HV.out,HTV.out];rfl
end
end Go.Proofs.YtcdgldnphhidlaaGreatDoor.Path
