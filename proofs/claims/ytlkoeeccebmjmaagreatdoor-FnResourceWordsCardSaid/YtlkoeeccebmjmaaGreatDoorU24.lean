/- Texts that the law leans on: Typed, SpecResource. Condition: as told at each. -/
import Derived.Test.YtlkoeeccebmjmaaGreatDoorUa
import Derived.Test.YtlkoeeccebmjmaaGreatDoorU21
import Derived.Test.YtlkoeeccebmjmaaGreatDoorU22
set_option linter.unusedVariables false
set_option linter.unusedSimpArgs false
set_option maxRecDepth 100000
set_option maxHeartbeats 16000000
namespace Go.Proofs.YtlkoeeccebmjmaaGreatDoor.Path
open Go.RowKit Go.WideMaps Go.ZW.PrintWords Go.Proofs.YtlkoeeccebmjmaaGreatDoor.Base Go.Proofs.YtlkoeeccebmjmaaGreatDoor.Lower Go.Proofs.YtlkoeeccebmjmaaGreatDoor.Total Go.Proofs.YtlkoeeccebmjmaaGreatDoor.PCore
theorem aJh {x:WV} (O:pV x) (t:Int):pV { x with typ:=t }:=⟨O.path,O.head,O.name,O.nEnd,O.ext,O.extz,O.ids,O.unk,O.langs⟩
section
variable {w:World} {x:WV} {A0 A1 A2:Option Addr} {c0 c1 c2:Nat}
theorem aD8 (O:pV x) (t:Int) (S0:fA w 0 (.slice A0 x.ids.length c0) x.ids) (S1:fA w 0 (.slice A1 x.unk.length c1) x.unk) (S2:fA w 0 (.slice A2 x.langs.length c2) x.langs) :
 Calls Tryz.prog 52 #[.agg #[.string x.comp,.string x.path,.string x.name,.int .i64 (x.nEnd:Int),.slice A0 x.ids.length c0,.slice A1 x.unk.length c1,.slice A2 x.langs.length c2,.string x.ext,.string x.fmt,.string x.kind,.string x.lay,.string x.lang,.string x.cust,.bool x.dis,.int .i64 x.typ],.int .i64 t] w fun e w'=>e = .returned (fY (nL x t) (.slice A2 x.langs.length c2) (.slice A0 x.ids.length c0) (.slice A1 x.unk.length c1))∧Below w.heap.size w w':=by
 have HS0:=bX S0;have HS1:=bX S1;have HS2:=bX S2;have HO:=bX O;clear S0 S1 S2 O;have hR1:=Row.new w [.string x.comp,.string x.path,.string x.name,.int .i64 (x.nEnd:Int),.slice A0 x.ids.length c0,.slice A1 x.unk.length c1,.slice A2 x.langs.length c2,.string x.ext,.string x.fmt,.string x.kind,.string x.lay,.string x.lang,.string x.cust,.bool x.dis,.int .i64 x.typ] 58;have hB1:Below w.heap.size w (w.alloc (.cells #[.string x.comp,.string x.path,.string x.name,.int .i64 (x.nEnd:Int),.slice A0 x.ids.length c0,.slice A1 x.unk.length c1,.slice A2 x.langs.length c2,.string x.ext,.string x.fmt,.string x.kind,.string x.lay,.string x.lang,.string x.cust,.bool x.dis,.int .i64 x.typ] 58)):=(Below.refl _ _).alloc (Nat.le_refl _) _;go_enter Tryz.func52,Tryz.ntmps52;go_upto_region 1 with fail
 obtain ⟨w1,hw1⟩:∃ z,w.alloc (.cells #[.string x.comp,.string x.path,.string x.name,.int .i64 (x.nEnd:Int),.slice A0 x.ids.length c0,.slice A1 x.unk.length c1,.slice A2 x.langs.length c2,.string x.ext,.string x.fmt,.string x.kind,.string x.lay,.string x.lang,.string x.cust,.bool x.dis,.int .i64 x.typ] 58)=z:=⟨_,rfl⟩
 rw[hw1] at hR1 hB1 ⊢;have hz1:w1.heap.size=w.heap.size+1:=by rw[← hw1];simp
 clear hw1;have hR2:=Row.new w1 eX 28;have hB2:Below w1.heap.size w1 (w1.alloc (.cells eX.toArray 28)):=(Below.refl _ _).alloc (Nat.le_refl _) _;change Code.wp _ _ _ _ (w1.alloc (.cells eX.toArray 28))
 obtain ⟨w2,hw2⟩:∃ z,w1.alloc (.cells eX.toArray 28)=z:=⟨_,rfl⟩
 have hz2:w2.heap.size=w.heap.size+2:=by rw[← hw2];simp[hz1]
 rw[hw2] at hR2 hB2 ⊢;rw[hz1] at hR2 hB2;clear hw2;have HW2:=bX (hR1.below hB2 bA);have HZ2:=bX hR2;have HB2:=bX (hB1.trans (hB2.mono bA));clear hR1 hB1 hR2 hB2 hz1;have rc0:=HW2.out.at 0 _ rfl;have rc1:=HW2.out.at 1 _ rfl;have rc2:=HW2.out.at 2 _ rfl;have rc3:=HW2.out.at 3 _ rfl;have rc4:=HW2.out.at 4 _ rfl;have rc5:=HW2.out.at 5 _ rfl;have rc6:=HW2.out.at 6 _ rfl;have rc7:=HW2.out.at 7 _ rfl;have rc8:=HW2.out.at 8 _ rfl;have rc9:=HW2.out.at 9 _ rfl;have rc10:=HW2.out.at 10 _ rfl;have rc11:=HW2.out.at 11 _ rfl;have rc12:=HW2.out.at 12 _ rfl;have rc13:=HW2.out.at 13 _ rfl;have rc14:=HW2.out.at 14 _ rfl;have cs:=sI HO.out (HS0.out.below HB2.out) (HS1.out.below HB2.out) (HS2.out.below HB2.out);go_wp2_with fail
 refine cs.mono ?_;rintro e w3 ⟨rfl,hb3⟩;have HW3:=bX (HW2.out.below hb3 bA);have HZ3:=bX (HZ2.out.below hb3 bA);have HB3:=bX (HB2.out.trans (hb3.mono bA));have hz3:w.heap.size+2≤w3.heap.size:=by have:=hb3.size;omega
 clear cs hb3 HW2 HZ2 HB2 rc0 rc1 rc2 rc3 rc4 rc5 rc6 rc7 rc8 rc9 rc10 rc11 rc12 rc13 rc14;have rc14:=HW3.out.at 14 _ rfl;have rf14:=HW3.out.free 14 (show 14 < 15 by decide);go_upto_region 3 with fail
 have hW4:Row (w3.setCell ⟨w.heap.size,14,none⟩ (.int .i64 t)) w.heap.size [.string x.comp,.string x.path,.string x.name,.int .i64 (x.nEnd:Int),.slice A0 x.ids.length c0,.slice A1 x.unk.length c1,.slice A2 x.langs.length c2,.string x.ext,.string x.fmt,.string x.kind,.string x.lay,.string x.lang,.string x.cust,.bool x.dis,.int .i64 t]:=HW3.out.set 14 (.int .i64 t) (show 14 < 15 by decide);have HZ4:=bX (HZ3.out.other (a:=⟨w.heap.size,14,none⟩) (by show w.heap.size≠w.heap.size+1;omega) (.int .i64 t));have HB4:=bX (HB3.out.setCell (p:=⟨w.heap.size,14,none⟩) (Nat.le_refl _) (.int .i64 t));have hz4:w.heap.size+2≤(w3.setCell ⟨w.heap.size,14,none⟩ (.int .i64 t)).heap.size:=by simpa using hz3
 obtain ⟨w4,hw4⟩:∃ z,w3.setCell ⟨w.heap.size,14,none⟩ (.int .i64 t)=z:=⟨_,rfl⟩
 rw[hw4] at hW4 HZ4 HB4 hz4 ⊢;have HW4:=bX hW4;clear hw4 hW4 rc14 rf14 HW3 HZ3 HB3 hz3;have rc0:=HW4.out.at 0 _ rfl;have rc1:=HW4.out.at 1 _ rfl;have rc2:=HW4.out.at 2 _ rfl;have rc3:=HW4.out.at 3 _ rfl;have rc4:=HW4.out.at 4 _ rfl;have rc5:=HW4.out.at 5 _ rfl;have rc6:=HW4.out.at 6 _ rfl;have rc7:=HW4.out.at 7 _ rfl;have rc8:=HW4.out.at 8 _ rfl;have rc9:=HW4.out.at 9 _ rfl;have rc10:=HW4.out.at 10 _ rfl;have rc11:=HW4.out.at 11 _ rfl;have rc12:=HW4.out.at 12 _ rfl;have rc13:=HW4.out.at 13 _ rfl;have rc14:=HW4.out.at 14 _ rfl;have ca:=tX (x:={ x with typ:=t }) (aJh HO.out t) (HS0.out.below HB4.out) (HS1.out.below HB4.out) (HS2.out.below HB4.out);go_wp2_with fail
 refine ca.mono ?_;rintro e w5 ⟨rfl,hb5⟩;have HZ5:=bX (HZ4.out.below hb5 bA);have HB5:=bX (HB4.out.trans (hb5.mono bA));have hz5:w.heap.size+2≤w5.heap.size:=by have:=hb5.size;omega
 clear ca hb5 HW4 HZ4 HB4 hz4 rc0 rc1 rc2 rc3 rc4 rc5 rc6 rc7 rc8 rc9 rc10 rc11 rc12 rc13 rc14
 obtain ⟨C,hC⟩:∃ C:Array Value,oR (pA { x with typ:=t }) (.slice A2 x.langs.length c2) (.slice A0 x.ids.length c0) (.slice A1 x.unk.length c1)=C:=⟨_,rfl⟩
 have hval:fY (pA { x with typ:=t }) (.slice A2 x.langs.length c2) (.slice A0 x.ids.length c0) (.slice A1 x.unk.length c1) = .agg C:=by rw[← hC];rfl
 have HCS:=bX (show C.size=31 by rw[← hC];rfl);have HON:=bX (show C.all (·.oneCell')=true by rw[← hC];exact nN _ _ _ _ _ _ _ _ _ _);rw[hval];have HC:=bX hC;clear hval hC;have hRZ:=Row.new w5 eX 28;have HRT:=bX (Row.setAll (ds:=C.toList) hRZ (by rw[Array.length_toList,HCS.out];rfl));have hbn:Below w5.heap.size w5 ((w5.alloc (.cells eX.toArray 28)).setCells w5.heap.size 0 C.toList):=below_setCells (Nat.le_refl _) _ _ _ ((Below.refl _ _).alloc (Nat.le_refl _) _);have HZ6:=bX (HZ5.out.below hbn bA);have HB6:=bX (HB5.out.trans (hbn.mono bA));have hth:(w5.alloc (.cells eX.toArray 28)).there w5.heap.size 0 C.size:=by rw[HCS.out];exact hRZ.there
 have hin:(Tryz.prog.info? 28).map (·.size)=some C.size:=by rw[HCS.out];kernel_rfl
 go_upto_region 4 with (first | (refine wpList_store_mid rfl 28 (.tmp 6) (.tmp 12) rfl w5.heap.size 0 C rfl rfl hth hin HON.out ?_) | fail)
 clear hth hin;change Code.wp _ _ _ _ ((w5.alloc (.cells eX.toArray 28)).setCells w5.heap.size 0 C.toList)
 obtain ⟨w6,hw6⟩:∃ z,(w5.alloc (.cells eX.toArray 28)).setCells w5.heap.size 0 C.toList=z:=⟨_,rfl⟩
 rw[hw6] at HRT HZ6 HB6 ⊢
 obtain ⟨bt,hbt⟩:∃ b,w5.heap.size=b:=⟨_,rfl⟩
 rw[hbt] at HRT hz5 ⊢;clear hw6 hbt hRZ hbn HZ5 HB5
 obtain ⟨sec,hsec⟩:∃ z,pR x.path x.typ=z:=⟨_,rfl⟩
 rw[hsec];have HSE:=bX hsec;clear hsec;have k3:=HRT.out.at 3 (.string (pA { x with typ:=t }).section_) (by rw[← HC.out];rfl);have f3:=HRT.out.free 3 (by rw[Array.length_toList,HCS.out];decide);go_upto_region 5 with fail
 have HRX:=bX (HRT.out.set 3 (.string sec) (by rw[Array.length_toList,HCS.out];decide));have HZ7:=bX (HZ6.out.other (a:=⟨bt,3,none⟩) (by show bt≠w.heap.size+1;omega) (.string sec));have HB7:=bX (HB6.out.setCell (p:=⟨bt,3,none⟩) (by show w.heap.size≤bt;omega) (.string sec))
 obtain ⟨w7,hw7⟩:∃ z,w6.setCell ⟨bt,3,none⟩ (.string sec)=z:=⟨_,rfl⟩
 rw[hw7] at HRX HZ7 HB7 ⊢;clear hw7 k3 f3 HRT HZ6 HB6
 obtain ⟨CL,hCL⟩:∃ c,C.toList.set 3 (.string sec)=c:=⟨_,rfl⟩
 rw[hCL] at HRX;have hv:fY (nL x t) (.slice A2 x.langs.length c2) (.slice A0 x.ids.length c0) (.slice A1 x.unk.length c1) = .agg CL.toArray:=by rw[← hCL,← HC.out,← HSE.out];rfl
 have hlen:CL.length=31:=by rw[← hCL,List.length_set,Array.length_toList,HCS.out]
 have hone:CL.toArray.all (·.oneCell')=true:=by rw[← hCL,← HC.out,← HSE.out];kernel_rfl
 have hinf:(Tryz.prog.info? 28).map (·.size)=some CL.length:=by rw[hlen];kernel_rfl
 have hinf2:(Tryz.prog.info? 28).map (·.size)=some CL.toArray.size:=by rw[List.size_toArray];exact hinf
 have hsz:CL.toArray.size=31:=by rw[List.size_toArray];exact hlen
 have hrng:w7.rangeAt bt 0 CL:=by
  intro j v hj;rw[Nat.zero_add];exact HRX.out.at j v hj
 have hthere:w7.there (w.heap.size+1) 0 CL.toArray.size:=by rw[hsz];exact HZ7.out.there
 have hr:=World.rangeAt_setCells_same w7 (w.heap.size+1) 0 CL.toArray.toList (by simpa using hthere);have hld:=run_loadVar_mid (P:=Tryz.prog) _ (w.heap.size+1) 0 28 CL.toArray.toList _ hr Tryz.underlying28 rfl (by simpa using hinf);have HLD:=bX hld;have HBF:=bX (show Below w.heap.size w (w7.setCells (w.heap.size+1) 0 CL.toArray.toList) from below_setCells (Nat.le_succ _) _ _ _ HB7.out);have HV:=bX hv;clear hCL hlen hsz hr hld hv HRX HZ7 HB7
 go_wp2_with (first | (refine wpList_load_mid rfl 28 _ rfl bt 0 rfl CL _ hrng Tryz.underlying28 rfl hinf ?_) | (refine wpList_store_mid rfl 28 _ _ rfl (w.heap.size+1) 0 CL.toArray rfl rfl hthere hinf2 hone ?_) | fail)
 refine bodyPost_ret (v:=.agg CL.toArray.toList.toArray) (kW Tryz.results52 rfl (by simpa using HLD.out)) rfl ⟨?_,HBF.out⟩;rw[HV.out]
end
theorem aC2 {w:World} {x:WV} {A0 A1 A2:Option Addr} {c0 c1 c2:Nat} (O:pV x) (t:Int) (S0:fA w 0 (.slice A0 x.ids.length c0) x.ids) (S1:fA w 0 (.slice A1 x.unk.length c1) x.unk) (S2:fA w 0 (.slice A2 x.langs.length c2) x.langs) :
 Calls Tryz.prog 52 #[.agg (wv x (.slice A0 x.ids.length c0) (.slice A1 x.unk.length c1) (.slice A2 x.langs.length c2)).toArray,.int .i64 t] w fun e w'=>e = .returned (fY (nL x t) (.slice A2 x.langs.length c2) (.slice A0 x.ids.length c0) (.slice A1 x.unk.length c1))∧Below w.heap.size w w':=aD8 O t S0 S1 S2
section
variable {w:World} {st:fM} {vl vd vf vc:Value}
theorem vP (S:mG w st vl vd vf vc) (O:xC st) (comp s:ByteArray) (hs:s.size≤900000) :
 Calls Tryz.prog 35 #[.agg #[vl,vd,vf,vc],.string comp,.string s] w fun e w' =>
  ∃ v1 v2 v3,e = .returned (fY (nL (wOf st comp (pathOf s false)) (nT (wOf st comp (pathOf s false)).typ)) v1 v2 v3)∧lC w' w.heap.size (nL (wOf st comp (pathOf s false)) (nT (wOf st comp (pathOf s false)).typ)) v1 v2 v3∧Below w.heap.size w w':=by
 obtain ⟨x,hx⟩:∃ x,wOf st comp (pathOf s false)=x:=⟨_,rfl⟩
 have HO:Aside0 (pV x):=bX (hx▸aGt st comp s false hs);rw[hx]
 obtain ⟨kt,hkt⟩:∃ k,nT x.typ=k:=⟨_,rfl⟩
 rw[hkt];have HKT:=bX hkt;clear hkt;have HSI:=bX S;have HF:=bX O;obtain ⟨Al,cl,rfl,_,_⟩:=S.l;obtain ⟨Ad,cd,rfl,_,_⟩:=S.d;obtain ⟨Af,cf,rfl,_,_⟩:=S.f;obtain ⟨Ac,cc,rfl,_,_⟩:=S.c;clear S O;have hB1:Below w.heap.size w (w.alloc (.cells #[.slice Al st.langs.length cl,.slice Ad st.dis.length cd,.slice Af st.fmts.length cf,.slice Ac st.cont.length cc] 25)):=(Below.refl _ _).alloc (Nat.le_refl _) _;have hR1:=Row.new w [.slice Al st.langs.length cl,.slice Ad st.dis.length cd,.slice Af st.fmts.length cf,.slice Ac st.cont.length cc] 25;have hs1:w.heap.size < (w.alloc (.cells #[.slice Al st.langs.length cl,.slice Ad st.dis.length cd,.slice Af st.fmts.length cf,.slice Ac st.cont.length cc] 25)).heap.size:=by simp
 go_enter Tryz.func35,Tryz.ntmps35;go_upto_region 1 with fail
 obtain ⟨w1,hw1⟩:∃ w1,w.alloc (.cells #[.slice Al st.langs.length cl,.slice Ad st.dis.length cd,.slice Af st.fmts.length cf,.slice Ac st.cont.length cc] 25)=w1:=⟨_,rfl⟩
 have hz1:w1.heap.size=w.heap.size+1:=by rw[← hw1];simp
 rw[hw1] at hB1 hR1 hs1 ⊢;clear hw1;have hB2:Below w1.heap.size w1 (w1.alloc (.cells eX.toArray 28)):=(Below.refl _ _).alloc (Nat.le_refl _) _;have hR2:Row (w1.alloc (.cells eX.toArray 28)) w1.heap.size eX:=Row.new w1 eX _;rw[show eX.toArray=TZ from rfl] at hB2 hR2
 obtain ⟨w2,hw2⟩:∃ w2,w1.alloc (.cells TZ 28)=w2:=⟨_,rfl⟩
 rw[hw2] at hB2 hR2;change Code.wp _ _ _ _ (w1.alloc (.cells TZ 28));rw[hw2];clear hw2;rw[hz1] at hR2;have hB:Below w.heap.size w w2:=hB1.trans (hB2.mono bA);have hRs:=hR1.below hB2 hs1;have r0:=hRs.at 0 _ rfl;have r1:=hRs.at 1 _ rfl;have r2:=hRs.at 2 _ rfl;have r3:=hRs.at 3 _ rfl;have HB:=bX hB;have HR2:=bX hR2;have hlt2:w.heap.size+1 < w2.heap.size:=hR2.lt bG;have cp:=uF (HSI.out.below hB) HF.out comp s false hs;rw[hx] at cp;clear hx hB1 hR1 hs1 hB2 hR2 hB hRs hz1 HF;go_wp2_with fail
 refine cp.mono ?_;rintro e w3 ⟨v0,v1,v2,rfl,q0,q1,q2,hb3⟩;obtain ⟨A0,c0,e0,_⟩:=id q0;obtain ⟨A1,c1,e1,_⟩:=id q1;obtain ⟨A2,c2,e2,_⟩:=id q2;subst e0 e1 e2;have HQ0:=bX q0;have HQ1:=bX q1;have HQ2:=bX q2;have HB3:=bX hb3;have hz3:=hb3.size
 obtain ⟨C,hC⟩:∃ C:Array Value,(wv x (.slice A0 x.ids.length c0) (.slice A1 x.unk.length c1) (.slice A2 x.langs.length c2)).toArray=C:=⟨_,rfl⟩
 rw[hC];have HCS:=bX (show C.size=15 by rw[← hC];rfl);have HON:=bX (show C.all (·.oneCell')=true by rw[← hC];kernel_rfl);have hRZ:=Row.new w3 WZ.toList 58;have HRT:=bX (Row.setAll (ds:=C.toList) hRZ (by rw[Array.length_toList,HCS.out];rfl));have hbn:Below w3.heap.size w3 ((w3.alloc (.cells WZ.toList.toArray 58)).setCells w3.heap.size 0 C.toList):=below_setCells (Nat.le_refl _) _ _ _ ((Below.refl _ _).alloc (Nat.le_refl _) _);have hth:(w3.alloc (.cells WZ.toList.toArray 58)).there w3.heap.size 0 C.size:=by rw[HCS.out];exact hRZ.there
 have hin:(Tryz.prog.info? 58).map (·.size)=some C.size:=by rw[HCS.out];kernel_rfl
 have k14:=HRT.out.at 14 (.int .i64 x.typ) (by rw[← hC];rfl);have HCC:=bX hC;clear cp q0 q1 q2 hb3 r0 r1 r2 r3 hRZ hC;rw[show WZ.toList.toArray=WZ from rfl] at HRT hbn hth k14
 go_upto_region 2 with (first | (refine wpList_store_mid rfl 58 (.tmp 7) (.tmp 11) rfl w3.heap.size 0 C rfl rfl hth hin HON.out ?_) | fail)
 clear hth hin;change Code.wp _ _ _ _ ((w3.alloc (.cells WZ 58)).setCells w3.heap.size 0 C.toList)
 obtain ⟨w4,hw4⟩:∃ z,(w3.alloc (.cells WZ 58)).setCells w3.heap.size 0 C.toList=z:=⟨_,rfl⟩
 rw[hw4] at HRT hbn k14 ⊢
 obtain ⟨bw,hbw⟩:∃ b,w3.heap.size=b:=⟨_,rfl⟩
 rw[hbw] at HRT k14 ⊢;have HS0:=bX (HQ0.out.below hbn);have HS1:=bX (HQ1.out.below hbn);have HS2:=bX (HQ2.out.below hbn);have HB4:=bX (eB HB3.out hbn);have hrng:w4.rangeAt bw 0 C.toList:=fun j v hj=>by rw[Nat.zero_add];exact HRT.out.at j v hj
 have hinf:(Tryz.prog.info? 58).map (·.size)=some C.toList.length:=by rw[Array.length_toList,HCS.out];kernel_rfl
 have ct1:=aC2 (w:=w4) HO.out 1 (HS0.out.mono (Nat.zero_le _)) (HS1.out.mono (Nat.zero_le _)) (HS2.out.mono (Nat.zero_le _));have ct0:=aC2 (w:=w4) HO.out 0 (HS0.out.mono (Nat.zero_le _)) (HS1.out.mono (Nat.zero_le _)) (HS2.out.mono (Nat.zero_le _));rw[HCC.out,show C=C.toList.toArray from (Array.toArray_toList).symm] at ct1 ct0
 obtain ⟨ty,hty⟩:∃ t,x.typ=t:=⟨_,rfl⟩
 rw[hty] at k14;have HTY:=bX hty;clear hw4 hbw hty hbn HQ0 HQ1 HQ2 HB3
 by_cases g1:1≤ty
 ·by_cases g5:ty≤5
  ·obtain rfl:kt=1:=by rw[← HKT.out];rw[HTY.out];exact if_pos ⟨g1,g5⟩
   go_wp2_with (first | (refine wpList_load_mid rfl 58 _ rfl bw 0 rfl C.toList _ hrng Tryz.underlying58 rfl hinf ?_) | fail)
   refine ct1.mono ?_;rintro e w5 ⟨rfl,hb5⟩;have HB5:=bX (eB HB4.out hb5);have S1:=bX (HS0.out.below hb5);have S2:=bX (HS1.out.below hb5);have S3:=bX (HS2.out.below hb5);clear ct0 ct1 hb5 hrng hinf k14 HCC HRT HCS HON
   obtain ⟨D,hD⟩:∃ D:Array Value,oR (nL x 1) (.slice A2 x.langs.length c2) (.slice A0 x.ids.length c0) (.slice A1 x.unk.length c1)=D:=⟨_,rfl⟩
   have hval:fY (nL x 1) (.slice A2 x.langs.length c2) (.slice A0 x.ids.length c0) (.slice A1 x.unk.length c1) = .agg D:=by rw[← hD];rfl
   have hDs:D.size=31:=by rw[← hD];rfl
   have hl:D.toList.length=31:=by simpa using hDs
   have hone:D.all (·.oneCell')=true:=by rw[← hD];exact nN _ _ _ _ _ _ _ _ _ _
   have HV:=bX hval;rw[hval];clear hval;have HDD:=bX hD;have hRf:=HR2.out.below HB5.out hlt2;have ht:World.there _ (w.heap.size+1) 0 31:=hRf.there
   dsimp only
   refine (show ∀ (a:Act) (w:World),wpList _ _ _ _ a w→_ from by assumption) _ _ ?_;refine wpList_store_mid rfl 28 _ _ rfl (w.heap.size+1) 0 D rfl rfl (by rw[hDs];exact ht) (by rw[hDs];kernel_rfl) hone ?_;have hr:=World.rangeAt_setCells_same _ (w.heap.size+1) 0 D.toList (by rw[hl];exact ht);have hld:=run_loadVar_mid (P:=Tryz.prog) _ (w.heap.size+1) 0 28 D.toList _ hr Tryz.underlying28 rfl (by rw[hl];kernel_rfl);have hfar:∀ k,k≠w.heap.size+1→(w5.setCells (w.heap.size+1) 0 D.toList).heap[k]? = w5.heap[k]?:=fun k hk=>jC _ _ k hk;have hbel:Below w.heap.size w (w5.setCells (w.heap.size+1) 0 D.toList):=below_setCells (Nat.le_succ _) _ _ _ (HB.out.trans (HB5.out.mono HB.out.size))
   obtain ⟨W,hW⟩:∃ W,w5.setCells (w.heap.size+1) 0 D.toList=W:=⟨_,rfl⟩
   rw[hW] at hld hbel hfar ⊢;have hz:=HB.out.size;have s1:=bX (S1.out.far fun k hk _=>hfar k bA);have s2:=bX (S2.out.far fun k hk _=>hfar k bA);have s3:=bX (S3.out.far fun k hk _=>hfar k bA);have HBel:=bX hbel;clear hbel hfar hW hr hone hl hDs ht hRf S1 S2 S3;go_wp2_with fail
   refine bodyPost_ret (v:=.agg D) (kW Tryz.results35 rfl (by simpa using hld)) rfl ⟨_,_,_,?_,⟨s3.out.mono hz,s1.out.mono hz,s2.out.mono hz⟩,HBel.out⟩;rw[HV.out]
  obtain rfl:kt=0:=by rw[← HKT.out];rw[HTY.out];exact if_neg fun h=>g5 h.2
  go_wp2_with (first | (refine wpList_load_mid rfl 58 _ rfl bw 0 rfl C.toList _ hrng Tryz.underlying58 rfl hinf ?_) | fail)
  refine ct0.mono ?_;rintro e w5 ⟨rfl,hb5⟩;have HB5:=bX (eB HB4.out hb5);have S1:=bX (HS0.out.below hb5);have S2:=bX (HS1.out.below hb5);have S3:=bX (HS2.out.below hb5);clear ct0 ct1 hb5 hrng hinf k14 HCC HRT HCS HON
  obtain ⟨D,hD⟩:∃ D:Array Value,oR (nL x 0) (.slice A2 x.langs.length c2) (.slice A0 x.ids.length c0) (.slice A1 x.unk.length c1)=D:=⟨_,rfl⟩
  have hval:fY (nL x 0) (.slice A2 x.langs.length c2) (.slice A0 x.ids.length c0) (.slice A1 x.unk.length c1) = .agg D:=by rw[← hD];rfl
  have hDs:D.size=31:=by rw[← hD];rfl
  have hl:D.toList.length=31:=by simpa using hDs
  have hone:D.all (·.oneCell')=true:=by rw[← hD];exact nN _ _ _ _ _ _ _ _ _ _
  have HV:=bX hval;rw[hval];clear hval;have HDD:=bX hD;have hRf:=HR2.out.below HB5.out hlt2;have ht:World.there _ (w.heap.size+1) 0 31:=hRf.there
  dsimp only
  refine (show ∀ (a:Act) (w:World),wpList _ _ _ _ a w→_ from by assumption) _ _ ?_;refine wpList_store_mid rfl 28 _ _ rfl (w.heap.size+1) 0 D rfl rfl (by rw[hDs];exact ht) (by rw[hDs];kernel_rfl) hone ?_;have hr:=World.rangeAt_setCells_same _ (w.heap.size+1) 0 D.toList (by rw[hl];exact ht);have hld:=run_loadVar_mid (P:=Tryz.prog) _ (w.heap.size+1) 0 28 D.toList _ hr Tryz.underlying28 rfl (by rw[hl];kernel_rfl);have hfar:∀ k,k≠w.heap.size+1→(w5.setCells (w.heap.size+1) 0 D.toList).heap[k]? = w5.heap[k]?:=fun k hk=>jC _ _ k hk;have hbel:Below w.heap.size w (w5.setCells (w.heap.size+1) 0 D.toList):=below_setCells (Nat.le_succ _) _ _ _ (HB.out.trans (HB5.out.mono HB.out.size))
  obtain ⟨W,hW⟩:∃ W,w5.setCells (w.heap.size+1) 0 D.toList=W:=⟨_,rfl⟩
  rw[hW] at hld hbel hfar ⊢;have hz:=HB.out.size;have s1:=bX (S1.out.far fun k hk _=>hfar k bA);have s2:=bX (S2.out.far fun k hk _=>hfar k bA);have s3:=bX (S3.out.far fun k hk _=>hfar k bA);have HBel:=bX hbel;clear hbel hfar hW hr hone hl hDs ht hRf S1 S2 S3;go_wp2_with fail
  refine bodyPost_ret (v:=.agg D) (kW Tryz.results35 rfl (by simpa using hld)) rfl ⟨_,_,_,?_,⟨s3.out.mono hz,s1.out.mono hz,s2.out.mono hz⟩,HBel.out⟩;rw[HV.out]
 obtain rfl:kt=0:=by rw[← HKT.out];rw[HTY.out];exact if_neg fun h=>g1 h.1
 go_wp2_with (first | (refine wpList_load_mid rfl 58 _ rfl bw 0 rfl C.toList _ hrng Tryz.underlying58 rfl hinf ?_) | fail)
 refine ct0.mono ?_;rintro e w5 ⟨rfl,hb5⟩;have HB5:=bX (eB HB4.out hb5);have S1:=bX (HS0.out.below hb5);have S2:=bX (HS1.out.below hb5);have S3:=bX (HS2.out.below hb5);clear ct0 ct1 hb5 hrng hinf k14 HCC HRT HCS HON
 obtain ⟨D,hD⟩:∃ D:Array Value,oR (nL x 0) (.slice A2 x.langs.length c2) (.slice A0 x.ids.length c0) (.slice A1 x.unk.length c1)=D:=⟨_,rfl⟩
 have hval:fY (nL x 0) (.slice A2 x.langs.length c2) (.slice A0 x.ids.length c0) (.slice A1 x.unk.length c1) = .agg D:=by rw[← hD];rfl
 have hDs:D.size=31:=by rw[← hD];rfl
 have hl:D.toList.length=31:=by simpa using hDs
 have hone:D.all (·.oneCell')=true:=by rw[← hD];exact nN _ _ _ _ _ _ _ _ _ _
 have HV:=bX hval;rw[hval];clear hval;have HDD:=bX hD;have hRf:=HR2.out.below HB5.out hlt2;have ht:World.there _ (w.heap.size+1) 0 31:=hRf.there
 dsimp only
 refine (show ∀ (a:Act) (w:World),wpList _ _ _ _ a w→_ from by assumption) _ _ ?_;refine wpList_store_mid rfl 28 _ _ rfl (w.heap.size+1) 0 D rfl rfl (by rw[hDs];exact ht) (by rw[hDs];kernel_rfl) hone ?_;have hr:=World.rangeAt_setCells_same _ (w.heap.size+1) 0 D.toList (by rw[hl];exact ht);have hld:=run_loadVar_mid (P:=Tryz.prog) _ (w.heap.size+1) 0 28 D.toList _ hr Tryz.underlying28 rfl (by rw[hl];kernel_rfl);have hfar:∀ k,k≠w.heap.size+1→(w5.setCells (w.heap.size+1) 0 D.toList).heap[k]? = w5.heap[k]?:=fun k hk=>jC _ _ k hk;have hbel:Below w.heap.size w (w5.setCells (w.heap.size+1) 0 D.toList):=below_setCells (Nat.le_succ _) _ _ _ (HB.out.trans (HB5.out.mono HB.out.size))
 obtain ⟨W,hW⟩:∃ W,w5.setCells (w.heap.size+1) 0 D.toList=W:=⟨_,rfl⟩
 rw[hW] at hld hbel hfar ⊢;have hz:=HB.out.size;have s1:=bX (S1.out.far fun k hk _=>hfar k bA);have s2:=bX (S2.out.far fun k hk _=>hfar k bA);have s3:=bX (S3.out.far fun k hk _=>hfar k bA);have HBel:=bX hbel;clear hbel hfar hW hr hone hl hDs ht hRf S1 S2 S3;go_wp2_with fail
 refine bodyPost_ret (v:=.agg D) (kW Tryz.results35 rfl (by simpa using hld)) rfl ⟨_,_,_,?_,⟨s3.out.mono hz,s1.out.mono hz,s2.out.mono hz⟩,HBel.out⟩;rw[HV.out]
end
end Go.Proofs.YtlkoeeccebmjmaaGreatDoor.Path
