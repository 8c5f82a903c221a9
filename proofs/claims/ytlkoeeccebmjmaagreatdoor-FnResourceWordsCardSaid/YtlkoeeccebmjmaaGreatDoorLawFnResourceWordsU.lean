/- Of any path, seen otherwise: what it answers is what the reference tells. Condition: none but the statement's own. -/
import Derived.Deep.QuietTactic
import Derived.BigQuiet
import Derived.Test.YtlkoeeccebmjmaaGreatDoorUa
import Derived.Test.YtlkoeeccebmjmaaGreatDoorU24
import Derived.Test.YtlkoeeccebmjmaaGreatDoorU27
set_option linter.unusedVariables false
set_option linter.unusedSimpArgs false
set_option maxRecDepth 100000
set_option maxHeartbeats 16000000
namespace Go.Proofs.YtlkoeeccebmjmaaGreatDoor.fnResourceWords
open Go.ChangeShapes Go.WideShapes Go.ChangeAt Go.RowKit Go.WideMaps Go.ZW.PrintWords Go.Proofs.YtlkoeeccebmjmaaGreatDoor.Base Go.Proofs.YtlkoeeccebmjmaaGreatDoor.Lower Go.Proofs.YtlkoeeccebmjmaaGreatDoor.Total Go.Proofs.YtlkoeeccebmjmaaGreatDoor.Path Go.Proofs.YtlkoeeccebmjmaaGreatDoor.PCore
open Go.ZW.PrintLast
theorem lens_of {p:eG} (I:PathIn p):(kV p).length≤1000000∧(kM p).length≤1000000∧(lM p).length≤1000000:=⟨by unfold kV;rw[List.length_map];exact I.ll,by unfold kM;rw[List.length_map];exact I.kl,by unfold lM;rw[List.length_map];exact I.ul⟩
theorem words_t {w:World} {T:gG} {v1 v2 v3 u1 u2 u3:Value} {B1 B2:Nat} {w1 w2:World} (T1:lC w1 B1 T v1 v2 v3) (T2:lC w2 B2 T u1 u2 u3) :
 Calls Tryz.prog 23 #[fY T v1 v2 v3,fY T u1 u2 u3] w fun e w'=>e = .returned (.bool true)∧Below w.heap.size w w':=by
 obtain ⟨a1,c1,rfl,_⟩:=T1.1;obtain ⟨a2,c2,rfl,_⟩:=T1.2.1;obtain ⟨a3,c3,rfl,_⟩:=T1.2.2;obtain ⟨b1,d1,rfl,_⟩:=T2.1;obtain ⟨b2,d2,rfl,_⟩:=T2.2.1;obtain ⟨b3,d3,rfl,_⟩:=T2.2.2;exact xA (f0:=T.component) (f1:=T.container) (f2:=T.containerDir) (f3:=T.section_) (f4:=T.name) (f5:=T.nameNoExt) (f6:=T.baseName) (f7:=T.nameNoId) (f8:=T.dir) (f9:=T.path) (f10:=T.pathNoLang) (f11:=T.pathNoId) (f12:=T.pathBefore) (f13:=T.base) (f14:=T.idBase) (f15:=T.ext) (f16:=T.fmt) (f17:=T.kind) (f18:=T.layout) (f19:=T.lang) (f20:=T.custom) (f24:=T.disabled) (f25:=T.isContent) (f26:=T.isBundle) (f27:=T.isBranch) (f28:=T.isLeaf) (f29:=T.isData) (f30:=T.typ)
section
variable {w:World} {st:fM} {vl vd vf vc:Value}
theorem walk (S:mQ w st vl vd vf vc) (comp s:ByteArray):Calls Tryz.prog 10 #[.agg #[vl,vd,vf,vc],.string comp,.string s] w fun e w'=>e = .returned (.bool true)∧Below w.heap.size w w':=by
 have HSA:=bX S;obtain ⟨Al,cl,rfl,_,_⟩:=S.l;obtain ⟨Ad,cd,rfl,_,_⟩:=S.d;obtain ⟨Af,cf,rfl,_,_⟩:=S.f;obtain ⟨Ac,cc,rfl,_,_⟩:=S.c;clear S;have hB1:Below w.heap.size w (w.alloc (.cells #[.slice Al st.langs.length cl,.slice Ad st.dis.length cd,.slice Af st.fmts.length cf,.slice Ac st.cont.length cc] 25)):=(Below.refl _ _).alloc (Nat.le_refl _) _;have hR1:=Row.new w [.slice Al st.langs.length cl,.slice Ad st.dis.length cd,.slice Af st.fmts.length cf,.slice Ac st.cont.length cc] 25;have hs1:w.heap.size < (w.alloc (.cells #[.slice Al st.langs.length cl,.slice Ad st.dis.length cd,.slice Af st.fmts.length cf,.slice Ac st.cont.length cc] 25)).heap.size:=by simp
 go_enter Tryz.func10,Tryz.ntmps10;go_upto_region 1 with fail
 obtain ⟨w1,hw1⟩:∃ w1,w.alloc (.cells #[.slice Al st.langs.length cl,.slice Ad st.dis.length cd,.slice Af st.fmts.length cf,.slice Ac st.cont.length cc] 25)=w1:=⟨_,rfl⟩
 rw[hw1] at hB1 hR1 hs1 ⊢;clear hw1;have HB1:=bX hB1;have HRS:=bX hR1;have r0:=hR1.at 0 _ rfl;have r1:=hR1.at 1 _ rfl;have r2:=hR1.at 2 _ rfl;have r3:=hR1.at 3 _ rfl;have cz:=vV (HSA.out.below hB1)
 obtain ⟨ft,hft⟩:∃ f,aBd st=f:=⟨_,rfl⟩
 rw[hft] at cz;have HFT:=bX hft
 obtain ⟨q1,hq1⟩:∃ q,decide ((2147483647:Int) < (comp.size:Int))=q:=⟨_,rfl⟩
 obtain ⟨q2,hq2⟩:∃ q,decide ((2147483647:Int) < (s.size:Int))=q:=⟨_,rfl⟩
 have HQ1:=bX hq1;have HQ2:=bX hq2;have hq1' : decide (2147483647 < comp.size)=q1:=by rw[← hq1];by_cases c:2147483647 < comp.size <;> simp[c] <;> omega
 have hq2' : decide (2147483647 < s.size)=q2:=by rw[← hq2];by_cases c:2147483647 < s.size <;> simp[c] <;> omega
 clear hB1 hR1 hft
 go_cut [21] from 9 to 21 (fun sx wx=>sx = .bool (!ft || (q1 || q2))∧Aside0 (Below w1.heap.size w1 wx))
 case first =>
  go_wp2_with fail
  refine cz.mono ?_;rintro e w2 ⟨rfl,hb2⟩;have HB2:=bX hb2;clear hb2 cz;cases ft
  ·go_wp2_with fail
   go_meet
   case rel=>exact ⟨rfl,HB2⟩
  cases q1
  ·go_wp2_with fail
   go_meet
   case rel=>exact ⟨rfl,HB2⟩
  go_wp2_with fail
  go_meet
  case rel=>exact ⟨rfl,HB2⟩
 obtain ⟨rfl,HB2⟩:=hcut
 obtain ⟨w2,rfl⟩:∃ x,x=wc:=⟨_,rfl⟩
 clear cz hq1 hq2 hq1' hq2' r0 r1 r2 r3;have HBA:=bX (HB1.out.trans (HB2.out.mono HB1.out.size))
 obtain ⟨g,hg⟩:∃ g,(!ft || (q1 || q2))=g:=⟨_,rfl⟩
 rw[hg];have HG:=bX hg;clear hg;cases g;rotate_left
 ·go_wp2_with fail
  go_ret;exact ⟨rfl,HBA.out⟩
 have hf:ft=true∧q1=false∧q2=false:=by have h9:=HG.out;revert h9;cases ft <;> cases q1 <;> cases q2 <;> simp
 obtain ⟨rfl,rfl,rfl⟩:=hf;have hcs:comp.size≤MM:=by have:=of_decide_eq_false HQ1.out;unfold MM;omega
 have hss:s.size≤MM:=by have:=of_decide_eq_false HQ2.out;unfold MM;omega
 have hRs:=HRS.out.below HB2.out hs1;have r0:=hRs.at 0 _ rfl;have r1:=hRs.at 1 _ rfl;have r2:=hRs.at 2 _ rfl;have r3:=hRs.at 3 _ rfl;have HS1:=HSA.out.below HBA.out;have cs:=wZ HS1 HFT.out comp s bA
 obtain ⟨b1,hb1'⟩:∃ b1,shortS st comp s=b1:=⟨_,rfl⟩
 obtain ⟨b2,hb2',hk2⟩:∃ b2:Bool,(b1=true→b2=true→asc s∧asc comp∧s.size≤400∧oW st comp s)∧(b1=true→∀ w',Below w2.heap.size w2 w'→Calls Tryz.prog 33 #[.agg #[.slice Al st.langs.length cl,.slice Ad st.dis.length cd,.slice Af st.fmts.length cf,.slice Ac st.cont.length cc],.string comp,.string s] w' fun e w''=>e = .returned (.bool b2)∧Below w'.heap.size w' w''):=by
  cases b1 with
  | false=>exact ⟨false,fun h=>(by cases h),fun h=>(by cases h)⟩
  | true =>
   have hb1:=hb1';have:=qD hb1;obtain ⟨r,h1,h2⟩:=sD HS1 comp s hb1;exact ⟨r,fun _=>h1,fun _=>h2⟩
 rw[hb1'] at cs;have HB1':=bX hb1';have HBB:=bX hb2';have HK2:=bX hk2;have HRS2:=bX hRs;clear hRs hb1' hb2' hk2 HS1;go_wp2_with fail
 refine cs.mono ?_;rintro e w3 ⟨rfl,hb3⟩;have HB3:=bX (eB HBA.out hb3);have HL3:=bX hb3;clear cs hb3 r0 r1 r2 r3;cases b1
 ·go_wp2_with fail
  go_ret;exact ⟨rfl,HB3.out⟩
 have ck:=HK2.out rfl w3 HL3.out;have hRs:=HRS2.out.below HL3.out (Nat.lt_of_lt_of_le hs1 HB2.out.size);have r0:=hRs.at 0 _ rfl;have r1:=hRs.at 1 _ rfl;have r2:=hRs.at 2 _ rfl;have r3:=hRs.at 3 _ rfl;clear hRs;go_wp2_with fail
 refine ck.mono ?_;rintro e w4 ⟨rfl,hb4⟩;have HB4:=bX (eB HB3.out hb4);have HL4:=bX (eB HL3.out hb4);clear ck hb4 r0 r1 r2 r3;cases b2
 ·go_wp2_with fail
  go_ret;exact ⟨rfl,HB4.out⟩
 obtain ⟨hasc,hascc,hs400,K⟩:=HBB.out (by first | rfl | trivial) (by first | rfl | trivial);have ho:=qD HB1'.out;have OS:=ho.1;have FW:=zZ HB1'.out;have HSW:∀ W,Below w4.heap.size w4 W→mQ W st _ _ _ _:=fun W hW=>HSA.out.below (HBA.out.trans ((eB HL4.out hW).mono HBA.out.size))
 obtain ⟨T,hT⟩:∃ T,nF { hJ (eJ st) comp (norm s) with typ:=nT (hJ (eJ st) comp (norm s)).typ }=T:=⟨_,rfl⟩
 have HZZ:T.langs.length≤1000000∧T.ids.length≤1000000∧T.unk.length≤1000000:=by
  subst hT;have hlens:=lens_of (p:=hJ (eJ st) comp (norm s)) (tO (eJ st) comp (norm s) (by first | omega | (rw[norm_size];omega))).1.toPathIn;exact hlens
 have HZ1:=bX HZZ.1;have HZ2:=bX HZZ.2.1;have HZ3:=bX HZZ.2.2;clear HZZ;have cI:Aside0 (∀ W,Below w4.heap.size w4 W→Calls Tryz.prog 34 #[.agg #[.slice Al st.langs.length cl,.slice Ad st.dis.length cd,.slice Af st.fmts.length cf,.slice Ac st.cont.length cc],.string comp,.string s] W fun e w'=>∃ v1 v2 v3,e = .returned (fY T v1 v2 v3)∧lC w' W.heap.size T v1 v2 v3∧Below W.heap.size W w'):=bX (fun W hW=>by subst hT;exact (uW (HSW W hW).toSiteIn OS comp s bA hasc).mono (fun e w' ⟨v1,v2,v3,h1,h2,h3⟩=>⟨v1,v2,v3,h1,h2,h3⟩))
 have cS:Aside0 (∀ W,Below w4.heap.size w4 W→Calls Tryz.prog 35 #[.agg #[.slice Al st.langs.length cl,.slice Ad st.dis.length cd,.slice Af st.fmts.length cf,.slice Ac st.cont.length cc],.string comp,.string s] W fun e w'=>∃ v1 v2 v3,e = .returned (fY T v1 v2 v3)∧lC w' W.heap.size T v1 v2 v3∧Below W.heap.size W w'):=bX (fun W hW=>(((aFp K _).trans (by rw[aHy K])).symm.trans hT)▸vP ⟨(HSW W hW).l,(HSW W hW).d,(HSW W hW).f,(HSW W hW).c⟩ FW comp s bA);have hRs:=HRS2.out.below HL4.out (Nat.lt_of_lt_of_le hs1 HB2.out.size);have r0:=hRs.at 0 _ rfl;have r1:=hRs.at 1 _ rfl;have r2:=hRs.at 2 _ rfl;have r3:=hRs.at 3 _ rfl;clear hRs hasc hascc hs400 K ho OS FW HSW hT
 obtain ⟨x1,x2,p,q,hx1,hx2,hp',hq'⟩:∃ (x1 x2:Value) (p q:Nat),x1=x1∧x2=x2∧p=p∧q=q:=⟨undef,undef,0,0,rfl,rfl,rfl,rfl⟩
 clear hx1 hx2 hp' hq';have HN:Aside0 (VN w4 T false false false false (x1,x2,p,q) w4.drew):=bX (VN.start (Below.refl _ _).drew _);go_upto_region 5 with fail
 refine hZ (n:=12) (S:=fun w'=>w'.cell? ⟨w.heap.size,0,none⟩=some (.slice Al st.langs.length cl)∧w'.cell? ⟨w.heap.size,1,none⟩=some (.slice Ad st.dis.length cd)∧w'.cell? ⟨w.heap.size,2,none⟩=some (.slice Af st.fmts.length cf)∧w'.cell? ⟨w.heap.size,3,none⟩=some (.slice Ac st.cont.length cc)) (ds:=[10,11]) _ bB rfl rfl ⟨r0,r1,r2,r3⟩ (fun hHeld=>?_);refine sA1 1 (some 35) sB1 ?_
 refine sA1 2 (some 36) sB1 ?_
 refine sA1 5 (some 39) sB1 ?_
 refine sA1 6 (some 40) sB1 ?_
 refine sC1 0 (some 34) sP1 ?_
 refine sC1 4 (some 38) sP1 ?_
 refine lJ (σ:=Value×Value×Nat×Nat) 2 #[true,true,true,true,true,true,true,true,true,true,false,false] (fun s_=>[(37,s_.1),(41,s_.2.1),(7,.pointer (some ⟨s_.2.2.1,0,none⟩)),(8,.pointer (some ⟨s_.2.2.2,0,none⟩))]) (fun s_ w'=>(w'.cell? ⟨w.heap.size,0,none⟩=some (.slice Al st.langs.length cl)∧w'.cell? ⟨w.heap.size,1,none⟩=some (.slice Ad st.dis.length cd)∧w'.cell? ⟨w.heap.size,2,none⟩=some (.slice Af st.fmts.length cf)∧w'.cell? ⟨w.heap.size,3,none⟩=some (.slice Ac st.cont.length cc))∧VN w4 T true true true true s_ w') ?_ ?_;rotate_left
 ·intro hJ3_7_8_9;refine lJ (σ:=Value×Value×Nat×Nat) 3 #[true,true,true,true,true,true,true,true,true,false,false,false] (fun s_=>[(37,s_.1),(41,s_.2.1),(7,.pointer (some ⟨s_.2.2.1,0,none⟩))]) (fun s_ w'=>(w'.cell? ⟨w.heap.size,0,none⟩=some (.slice Al st.langs.length cl)∧w'.cell? ⟨w.heap.size,1,none⟩=some (.slice Ad st.dis.length cd)∧w'.cell? ⟨w.heap.size,2,none⟩=some (.slice Af st.fmts.length cf)∧w'.cell? ⟨w.heap.size,3,none⟩=some (.slice Ac st.cont.length cc))∧VN w4 T true true true false s_ w') ?_ ?_;rotate_left
  ·intro hJ3_7_8;refine lJ (σ:=Value×Value×Nat×Nat) 3 #[true,true,true,true,true,true,true,true,false,true,false,false] (fun s_=>[(37,s_.1),(41,s_.2.1),(8,.pointer (some ⟨s_.2.2.2,0,none⟩))]) (fun s_ w'=>(w'.cell? ⟨w.heap.size,0,none⟩=some (.slice Al st.langs.length cl)∧w'.cell? ⟨w.heap.size,1,none⟩=some (.slice Ad st.dis.length cd)∧w'.cell? ⟨w.heap.size,2,none⟩=some (.slice Af st.fmts.length cf)∧w'.cell? ⟨w.heap.size,3,none⟩=some (.slice Ac st.cont.length cc))∧VN w4 T true true false true s_ w') ?_ ?_;rotate_left
   ·intro hJ3_7_9;refine lJ (σ:=Value×Value×Nat×Nat) 3 #[true,true,true,true,true,true,true,false,true,true,false,false] (fun s_=>[(37,s_.1),(7,.pointer (some ⟨s_.2.2.1,0,none⟩)),(8,.pointer (some ⟨s_.2.2.2,0,none⟩))]) (fun s_ w'=>(w'.cell? ⟨w.heap.size,0,none⟩=some (.slice Al st.langs.length cl)∧w'.cell? ⟨w.heap.size,1,none⟩=some (.slice Ad st.dis.length cd)∧w'.cell? ⟨w.heap.size,2,none⟩=some (.slice Af st.fmts.length cf)∧w'.cell? ⟨w.heap.size,3,none⟩=some (.slice Ac st.cont.length cc))∧VN w4 T true false true true s_ w') ?_ ?_;rotate_left
    ·intro hJ3_8_9;refine lJ (σ:=Value×Value×Nat×Nat) 4 #[true,true,true,true,true,true,true,true,false,false,false,false] (fun s_=>[(37,s_.1),(41,s_.2.1)]) (fun s_ w'=>(w'.cell? ⟨w.heap.size,0,none⟩=some (.slice Al st.langs.length cl)∧w'.cell? ⟨w.heap.size,1,none⟩=some (.slice Ad st.dis.length cd)∧w'.cell? ⟨w.heap.size,2,none⟩=some (.slice Af st.fmts.length cf)∧w'.cell? ⟨w.heap.size,3,none⟩=some (.slice Ac st.cont.length cc))∧VN w4 T true true false false s_ w') ?_ ?_;rotate_left
     ·intro hJ3_7;refine lJ (σ:=Value×Value×Nat×Nat) 4 #[true,true,true,true,true,true,true,false,true,false,false,false] (fun s_=>[(37,s_.1),(7,.pointer (some ⟨s_.2.2.1,0,none⟩))]) (fun s_ w'=>(w'.cell? ⟨w.heap.size,0,none⟩=some (.slice Al st.langs.length cl)∧w'.cell? ⟨w.heap.size,1,none⟩=some (.slice Ad st.dis.length cd)∧w'.cell? ⟨w.heap.size,2,none⟩=some (.slice Af st.fmts.length cf)∧w'.cell? ⟨w.heap.size,3,none⟩=some (.slice Ac st.cont.length cc))∧VN w4 T true false true false s_ w') ?_ ?_;rotate_left
      ·intro hJ3_8;refine lJ (σ:=Value×Value×Nat×Nat) 4 #[true,true,true,true,true,true,true,false,false,true,false,false] (fun s_=>[(37,s_.1),(8,.pointer (some ⟨s_.2.2.2,0,none⟩))]) (fun s_ w'=>(w'.cell? ⟨w.heap.size,0,none⟩=some (.slice Al st.langs.length cl)∧w'.cell? ⟨w.heap.size,1,none⟩=some (.slice Ad st.dis.length cd)∧w'.cell? ⟨w.heap.size,2,none⟩=some (.slice Af st.fmts.length cf)∧w'.cell? ⟨w.heap.size,3,none⟩=some (.slice Ac st.cont.length cc))∧VN w4 T true false false true s_ w') ?_ ?_;rotate_left
       ·intro hJ3_9;refine lJ (σ:=Value×Value×Nat×Nat) 4 #[true,true,true,false,true,true,true,false,true,true,false,false] (fun s_=>[(7,.pointer (some ⟨s_.2.2.1,0,none⟩)),(8,.pointer (some ⟨s_.2.2.2,0,none⟩))]) (fun s_ w'=>(w'.cell? ⟨w.heap.size,0,none⟩=some (.slice Al st.langs.length cl)∧w'.cell? ⟨w.heap.size,1,none⟩=some (.slice Ad st.dis.length cd)∧w'.cell? ⟨w.heap.size,2,none⟩=some (.slice Af st.fmts.length cf)∧w'.cell? ⟨w.heap.size,3,none⟩=some (.slice Ac st.cont.length cc))∧VN w4 T false false true true s_ w') ?_ ?_;rotate_left
        ·intro hJ8_9;refine lJ (σ:=Value×Value×Nat×Nat) 5 #[true,true,true,true,true,true,true,false,false,false,false,false] (fun s_=>[(37,s_.1)]) (fun s_ w'=>(w'.cell? ⟨w.heap.size,0,none⟩=some (.slice Al st.langs.length cl)∧w'.cell? ⟨w.heap.size,1,none⟩=some (.slice Ad st.dis.length cd)∧w'.cell? ⟨w.heap.size,2,none⟩=some (.slice Af st.fmts.length cf)∧w'.cell? ⟨w.heap.size,3,none⟩=some (.slice Ac st.cont.length cc))∧VN w4 T true false false false s_ w') ?_ ?_;rotate_left
         ·intro hJ3;refine lJ (σ:=Value×Value×Nat×Nat) 5 #[true,true,true,false,true,true,true,false,true,false,false,false] (fun s_=>[(7,.pointer (some ⟨s_.2.2.1,0,none⟩))]) (fun s_ w'=>(w'.cell? ⟨w.heap.size,0,none⟩=some (.slice Al st.langs.length cl)∧w'.cell? ⟨w.heap.size,1,none⟩=some (.slice Ad st.dis.length cd)∧w'.cell? ⟨w.heap.size,2,none⟩=some (.slice Af st.fmts.length cf)∧w'.cell? ⟨w.heap.size,3,none⟩=some (.slice Ac st.cont.length cc))∧VN w4 T false false true false s_ w') ?_ ?_;rotate_left
          ·intro hJ8;refine lJ (σ:=Value×Value×Nat×Nat) 5 #[true,true,true,false,true,true,true,false,false,true,false,false] (fun s_=>[(8,.pointer (some ⟨s_.2.2.2,0,none⟩))]) (fun s_ w'=>(w'.cell? ⟨w.heap.size,0,none⟩=some (.slice Al st.langs.length cl)∧w'.cell? ⟨w.heap.size,1,none⟩=some (.slice Ad st.dis.length cd)∧w'.cell? ⟨w.heap.size,2,none⟩=some (.slice Af st.fmts.length cf)∧w'.cell? ⟨w.heap.size,3,none⟩=some (.slice Ac st.cont.length cc))∧VN w4 T false false false true s_ w') ?_ ?_;rotate_left
           ·intro hJ9;refine yT (i:=3) (j:=8) (k:=9) (Ni:=some 37) (Nj:=some 7) (Nk:=some 8) #[true,true,true,true,true,true,true,false,false,false,false,false] #[true,true,true,false,true,true,true,false,true,false,false,false] #[true,true,true,false,true,true,true,false,false,true,false,false] rfl rfl rfl rfl rfl rfl bB bG bG bG (fun K hK=>?_) (fun K hK=>?_) (fun K hK=>?_)
            ·skip
             refine iR Tryz.func34 bB rfl #[.agg #[.slice Al st.langs.length cl,.slice Ad st.dis.length cd,.slice Af st.fmts.length cf,.slice Ac st.cont.length cc],.string comp,.string s] bJ rfl rfl bH ?_
             with_reducible refine ((cI.out w4.drew HN.out.below)).mono ?_
             rintro e wm ⟨v1,v2,v3,rfl,hT,hb⟩;refine ⟨_,rfl,?_⟩;replace HN:=bX (HN.out.call1 hb hT);refine hK.out _ _ ⟨(eD (w:=w4.drew) hHeld.1 hb),(eD (w:=w4.drew) hHeld.2.1 hb),(eD (w:=w4.drew) hHeld.2.2.1 hb),(eD (w:=w4.drew) hHeld.2.2.2 hb)⟩ (fun hHeld=>?_);clear hK K;refine eM sJ1 ?_
             exact eM bE (hJ3 (fY T v1 v2 v3,x2,p,q) _ ⟨hHeld,HN.out⟩)
            ·skip
             refine gV (w1:=?_) (v:=?_) bJ rfl ?_ ?_;rotate_left 2
             ·go_simp;constructor
              ·rfl
              rfl
             have hb:Below w4.drew.heap.size w4.drew (w4.drew.alloc (.cells eX.toArray 28)):=(Below.refl _ _).alloc (Nat.le_refl _) _;replace HN:=bX HN.out.alloc1;refine hK.out _ _ ⟨(eD (w:=w4.drew) hHeld.1 hb),(eD (w:=w4.drew) hHeld.2.1 hb),(eD (w:=w4.drew) hHeld.2.2.1 hb),(eD (w:=w4.drew) hHeld.2.2.2 hb)⟩ (fun hHeld=>?_);clear hK K;refine eM sJ1 ?_
             exact eM bE (hJ8 (x1,x2,w4.drew.heap.size,q) _ ⟨hHeld,HN.out⟩)
            skip
            refine gV (w1:=?_) (v:=?_) bJ rfl ?_ ?_;rotate_left 2
            ·go_simp;constructor
             ·rfl
             rfl
            have hb:Below w4.drew.heap.size w4.drew (w4.drew.alloc (.cells eX.toArray 28)):=(Below.refl _ _).alloc (Nat.le_refl _) _;replace HN:=bX HN.out.alloc2;refine hK.out _ _ ⟨(eD (w:=w4.drew) hHeld.1 hb),(eD (w:=w4.drew) hHeld.2.1 hb),(eD (w:=w4.drew) hHeld.2.2.1 hb),(eD (w:=w4.drew) hHeld.2.2.2 hb)⟩ (fun hHeld=>?_);clear hK K;refine eM sJ1 ?_
            exact eM bE (hJ9 (x1,x2,p,w4.drew.heap.size) _ ⟨hHeld,HN.out⟩)
           skip
           rintro ⟨x1,x2,p,q⟩ wn ⟨hHeld,hN⟩;replace HN:=bX hN;clear hN;refine eM (a':=?_) ?_ ?_;rotate_left
           ·simp only[jQ,Act.put,List.setIfInBounds_toArray,List.set_cons_zero,List.set_cons_succ];rfl
           refine sQ (i:=3) (j:=8) (Ni:=some 37) (Nj:=some 7) #[true,true,true,true,true,true,true,false,false,true,false,false] #[true,true,true,false,true,true,true,false,true,true,false,false] rfl rfl rfl rfl bB bG bG (fun K hK=>?_) (fun K hK=>?_)
           ·skip
            refine iR Tryz.func34 bB rfl #[.agg #[.slice Al st.langs.length cl,.slice Ad st.dis.length cd,.slice Af st.fmts.length cf,.slice Ac st.cont.length cc],.string comp,.string s] bJ rfl rfl bH ?_
            with_reducible refine ((cI.out wn HN.out.below)).mono ?_
            rintro e wm ⟨v1,v2,v3,rfl,hT,hb⟩;refine ⟨_,rfl,?_⟩;replace HN:=bX (HN.out.call1 hb hT);refine hK.out _ _ ⟨(eD (w:=wn) hHeld.1 hb),(eD (w:=wn) hHeld.2.1 hb),(eD (w:=wn) hHeld.2.2.1 hb),(eD (w:=wn) hHeld.2.2.2 hb)⟩ (fun hHeld=>?_);clear hK K;refine eM sJ1 ?_
            exact eM bE (hJ3_9 (fY T v1 v2 v3,x2,p,q) _ ⟨hHeld,HN.out⟩)
           skip
           refine gV (w1:=?_) (v:=?_) bJ rfl ?_ ?_;rotate_left 2
           ·go_simp;constructor
            ·rfl
            rfl
           have hb:Below wn.heap.size wn (wn.alloc (.cells eX.toArray 28)):=(Below.refl _ _).alloc (Nat.le_refl _) _;replace HN:=bX HN.out.alloc1;refine hK.out _ _ ⟨(eD (w:=wn) hHeld.1 hb),(eD (w:=wn) hHeld.2.1 hb),(eD (w:=wn) hHeld.2.2.1 hb),(eD (w:=wn) hHeld.2.2.2 hb)⟩ (fun hHeld=>?_);clear hK K;refine eM sJ1 ?_
           exact eM bE (hJ8_9 (x1,x2,wn.heap.size,q) _ ⟨hHeld,HN.out⟩)
          skip
          rintro ⟨x1,x2,p,q⟩ wn ⟨hHeld,hN⟩;replace HN:=bX hN;clear hN;refine eM (a':=?_) ?_ ?_;rotate_left
          ·simp only[jQ,Act.put,List.setIfInBounds_toArray,List.set_cons_zero,List.set_cons_succ];rfl
          refine sQ (i:=3) (j:=9) (Ni:=some 37) (Nj:=some 8) #[true,true,true,true,true,true,true,false,true,false,false,false] #[true,true,true,false,true,true,true,false,true,true,false,false] rfl rfl rfl rfl bB bG bG (fun K hK=>?_) (fun K hK=>?_)
          ·skip
           refine iR Tryz.func34 bB rfl #[.agg #[.slice Al st.langs.length cl,.slice Ad st.dis.length cd,.slice Af st.fmts.length cf,.slice Ac st.cont.length cc],.string comp,.string s] bJ rfl rfl bH ?_
           with_reducible refine ((cI.out wn HN.out.below)).mono ?_
           rintro e wm ⟨v1,v2,v3,rfl,hT,hb⟩;refine ⟨_,rfl,?_⟩;replace HN:=bX (HN.out.call1 hb hT);refine hK.out _ _ ⟨(eD (w:=wn) hHeld.1 hb),(eD (w:=wn) hHeld.2.1 hb),(eD (w:=wn) hHeld.2.2.1 hb),(eD (w:=wn) hHeld.2.2.2 hb)⟩ (fun hHeld=>?_);clear hK K;refine eM sJ1 ?_
           exact eM bE (hJ3_8 (fY T v1 v2 v3,x2,p,q) _ ⟨hHeld,HN.out⟩)
          skip
          refine gV (w1:=?_) (v:=?_) bJ rfl ?_ ?_;rotate_left 2
          ·go_simp;constructor
           ·rfl
           rfl
          have hb:Below wn.heap.size wn (wn.alloc (.cells eX.toArray 28)):=(Below.refl _ _).alloc (Nat.le_refl _) _;replace HN:=bX HN.out.alloc2;refine hK.out _ _ ⟨(eD (w:=wn) hHeld.1 hb),(eD (w:=wn) hHeld.2.1 hb),(eD (w:=wn) hHeld.2.2.1 hb),(eD (w:=wn) hHeld.2.2.2 hb)⟩ (fun hHeld=>?_);clear hK K;refine eM sJ1 ?_
          exact eM bE (hJ8_9 (x1,x2,p,wn.heap.size) _ ⟨hHeld,HN.out⟩)
         skip
         rintro ⟨x1,x2,p,q⟩ wn ⟨hHeld,hN⟩;replace HN:=bX hN;clear hN;refine eM (a':=?_) ?_ ?_;rotate_left
         ·simp only[jQ,Act.put,List.setIfInBounds_toArray,List.set_cons_zero,List.set_cons_succ];rfl
         refine yT (i:=7) (j:=8) (k:=9) (Ni:=some 41) (Nj:=some 7) (Nk:=some 8) #[true,true,true,true,true,true,true,true,false,false,false,false] #[true,true,true,true,true,true,true,false,true,false,false,false] #[true,true,true,true,true,true,true,false,false,true,false,false] rfl rfl rfl rfl rfl rfl bB bG bG bG (fun K hK=>?_) (fun K hK=>?_) (fun K hK=>?_)
         ·skip
          refine iR Tryz.func35 bB rfl #[.agg #[.slice Al st.langs.length cl,.slice Ad st.dis.length cd,.slice Af st.fmts.length cf,.slice Ac st.cont.length cc],.string comp,.string s] bJ rfl rfl bH ?_
          with_reducible refine ((cS.out wn HN.out.below)).mono ?_
          rintro e wm ⟨v1,v2,v3,rfl,hT,hb⟩;refine ⟨_,rfl,?_⟩;replace HN:=bX (HN.out.call2 hb hT);refine hK.out _ _ ⟨(eD (w:=wn) hHeld.1 hb),(eD (w:=wn) hHeld.2.1 hb),(eD (w:=wn) hHeld.2.2.1 hb),(eD (w:=wn) hHeld.2.2.2 hb)⟩ (fun hHeld=>?_);clear hK K;refine eM sJ1 ?_
          exact eM bE (hJ3_7 (x1,fY T v1 v2 v3,p,q) _ ⟨hHeld,HN.out⟩)
         ·skip
          refine gV (w1:=?_) (v:=?_) bJ rfl ?_ ?_;rotate_left 2
          ·go_simp;constructor
           ·rfl
           rfl
          have hb:Below wn.heap.size wn (wn.alloc (.cells eX.toArray 28)):=(Below.refl _ _).alloc (Nat.le_refl _) _;replace HN:=bX HN.out.alloc1;refine hK.out _ _ ⟨(eD (w:=wn) hHeld.1 hb),(eD (w:=wn) hHeld.2.1 hb),(eD (w:=wn) hHeld.2.2.1 hb),(eD (w:=wn) hHeld.2.2.2 hb)⟩ (fun hHeld=>?_);clear hK K;refine eM sJ1 ?_
          exact eM bE (hJ3_8 (x1,x2,wn.heap.size,q) _ ⟨hHeld,HN.out⟩)
         skip
         refine gV (w1:=?_) (v:=?_) bJ rfl ?_ ?_;rotate_left 2
         ·go_simp;constructor
          ·rfl
          rfl
         have hb:Below wn.heap.size wn (wn.alloc (.cells eX.toArray 28)):=(Below.refl _ _).alloc (Nat.le_refl _) _;replace HN:=bX HN.out.alloc2;refine hK.out _ _ ⟨(eD (w:=wn) hHeld.1 hb),(eD (w:=wn) hHeld.2.1 hb),(eD (w:=wn) hHeld.2.2.1 hb),(eD (w:=wn) hHeld.2.2.2 hb)⟩ (fun hHeld=>?_);clear hK K;refine eM sJ1 ?_
         exact eM bE (hJ3_9 (x1,x2,p,wn.heap.size) _ ⟨hHeld,HN.out⟩)
        skip
        rintro ⟨x1,x2,p,q⟩ wn ⟨hHeld,hN⟩;replace HN:=bX hN;clear hN;refine eM (a':=?_) ?_ ?_;rotate_left
        ·simp only[jQ,Act.put,List.setIfInBounds_toArray,List.set_cons_zero,List.set_cons_succ];rfl
        refine sF1 3 (some 37) sG1 (fun K hK=>?_);refine iR Tryz.func34 bB rfl #[.agg #[.slice Al st.langs.length cl,.slice Ad st.dis.length cd,.slice Af st.fmts.length cf,.slice Ac st.cont.length cc],.string comp,.string s] bJ rfl rfl bH ?_
        with_reducible refine ((cI.out wn HN.out.below)).mono ?_
        rintro e wm ⟨v1,v2,v3,rfl,hT,hb⟩;refine ⟨_,rfl,?_⟩;replace HN:=bX (HN.out.call1 hb hT);refine hK.out _ _ ⟨(eD (w:=wn) hHeld.1 hb),(eD (w:=wn) hHeld.2.1 hb),(eD (w:=wn) hHeld.2.2.1 hb),(eD (w:=wn) hHeld.2.2.2 hb)⟩ (fun hHeld=>?_);clear hK K;refine eM sJ1 ?_
        exact eM bE (hJ3_8_9 (fY T v1 v2 v3,x2,p,q) _ ⟨hHeld,HN.out⟩)
       skip
       rintro ⟨x1,x2,p,q⟩ wn ⟨hHeld,hN⟩;replace HN:=bX hN;clear hN;refine eM (a':=?_) ?_ ?_;rotate_left
       ·simp only[jQ,Act.put,List.setIfInBounds_toArray,List.set_cons_zero,List.set_cons_succ];rfl
       refine sQ (i:=7) (j:=8) (Ni:=some 41) (Nj:=some 7) #[true,true,true,true,true,true,true,true,false,true,false,false] #[true,true,true,true,true,true,true,false,true,true,false,false] rfl rfl rfl rfl bB bG bG (fun K hK=>?_) (fun K hK=>?_)
       ·skip
        refine iR Tryz.func35 bB rfl #[.agg #[.slice Al st.langs.length cl,.slice Ad st.dis.length cd,.slice Af st.fmts.length cf,.slice Ac st.cont.length cc],.string comp,.string s] bJ rfl rfl bH ?_
        with_reducible refine ((cS.out wn HN.out.below)).mono ?_
        rintro e wm ⟨v1,v2,v3,rfl,hT,hb⟩;refine ⟨_,rfl,?_⟩;replace HN:=bX (HN.out.call2 hb hT);refine hK.out _ _ ⟨(eD (w:=wn) hHeld.1 hb),(eD (w:=wn) hHeld.2.1 hb),(eD (w:=wn) hHeld.2.2.1 hb),(eD (w:=wn) hHeld.2.2.2 hb)⟩ (fun hHeld=>?_);clear hK K;refine eM sJ1 ?_
        exact eM bE (hJ3_7_9 (x1,fY T v1 v2 v3,p,q) _ ⟨hHeld,HN.out⟩)
       skip
       refine gV (w1:=?_) (v:=?_) bJ rfl ?_ ?_;rotate_left 2
       ·go_simp;constructor
        ·rfl
        rfl
       have hb:Below wn.heap.size wn (wn.alloc (.cells eX.toArray 28)):=(Below.refl _ _).alloc (Nat.le_refl _) _;replace HN:=bX HN.out.alloc1;refine hK.out _ _ ⟨(eD (w:=wn) hHeld.1 hb),(eD (w:=wn) hHeld.2.1 hb),(eD (w:=wn) hHeld.2.2.1 hb),(eD (w:=wn) hHeld.2.2.2 hb)⟩ (fun hHeld=>?_);clear hK K;refine eM sJ1 ?_
       exact eM bE (hJ3_8_9 (x1,x2,wn.heap.size,q) _ ⟨hHeld,HN.out⟩)
      skip
      rintro ⟨x1,x2,p,q⟩ wn ⟨hHeld,hN⟩;replace HN:=bX hN;clear hN;refine eM (a':=?_) ?_ ?_;rotate_left
      ·simp only[jQ,Act.put,List.setIfInBounds_toArray,List.set_cons_zero,List.set_cons_succ];rfl
      refine sQ (i:=7) (j:=9) (Ni:=some 41) (Nj:=some 8) #[true,true,true,true,true,true,true,true,true,false,false,false] #[true,true,true,true,true,true,true,false,true,true,false,false] rfl rfl rfl rfl bB bG bG (fun K hK=>?_) (fun K hK=>?_)
      ·skip
       refine iR Tryz.func35 bB rfl #[.agg #[.slice Al st.langs.length cl,.slice Ad st.dis.length cd,.slice Af st.fmts.length cf,.slice Ac st.cont.length cc],.string comp,.string s] bJ rfl rfl bH ?_
       with_reducible refine ((cS.out wn HN.out.below)).mono ?_
       rintro e wm ⟨v1,v2,v3,rfl,hT,hb⟩;refine ⟨_,rfl,?_⟩;replace HN:=bX (HN.out.call2 hb hT);refine hK.out _ _ ⟨(eD (w:=wn) hHeld.1 hb),(eD (w:=wn) hHeld.2.1 hb),(eD (w:=wn) hHeld.2.2.1 hb),(eD (w:=wn) hHeld.2.2.2 hb)⟩ (fun hHeld=>?_);clear hK K;refine eM sJ1 ?_
       exact eM bE (hJ3_7_8 (x1,fY T v1 v2 v3,p,q) _ ⟨hHeld,HN.out⟩)
      skip
      refine gV (w1:=?_) (v:=?_) bJ rfl ?_ ?_;rotate_left 2
      ·go_simp;constructor
       ·rfl
       rfl
      have hb:Below wn.heap.size wn (wn.alloc (.cells eX.toArray 28)):=(Below.refl _ _).alloc (Nat.le_refl _) _;replace HN:=bX HN.out.alloc2;refine hK.out _ _ ⟨(eD (w:=wn) hHeld.1 hb),(eD (w:=wn) hHeld.2.1 hb),(eD (w:=wn) hHeld.2.2.1 hb),(eD (w:=wn) hHeld.2.2.2 hb)⟩ (fun hHeld=>?_);clear hK K;refine eM sJ1 ?_
      exact eM bE (hJ3_8_9 (x1,x2,p,wn.heap.size) _ ⟨hHeld,HN.out⟩)
     skip
     rintro ⟨x1,x2,p,q⟩ wn ⟨hHeld,hN⟩;replace HN:=bX hN;clear hN;refine eM (a':=?_) ?_ ?_;rotate_left
     ·simp only[jQ,Act.put,List.setIfInBounds_toArray,List.set_cons_zero,List.set_cons_succ];rfl
     refine sQ (i:=8) (j:=9) (Ni:=some 7) (Nj:=some 8) #[true,true,true,true,true,true,true,true,true,false,false,false] #[true,true,true,true,true,true,true,true,false,true,false,false] rfl rfl rfl rfl bB bG bG (fun K hK=>?_) (fun K hK=>?_)
     ·skip
      refine gV (w1:=?_) (v:=?_) bJ rfl ?_ ?_;rotate_left 2
      ·go_simp;constructor
       ·rfl
       rfl
      have hb:Below wn.heap.size wn (wn.alloc (.cells eX.toArray 28)):=(Below.refl _ _).alloc (Nat.le_refl _) _;replace HN:=bX HN.out.alloc1;refine hK.out _ _ ⟨(eD (w:=wn) hHeld.1 hb),(eD (w:=wn) hHeld.2.1 hb),(eD (w:=wn) hHeld.2.2.1 hb),(eD (w:=wn) hHeld.2.2.2 hb)⟩ (fun hHeld=>?_);clear hK K;refine eM sJ1 ?_
      exact eM bE (hJ3_7_8 (x1,x2,wn.heap.size,q) _ ⟨hHeld,HN.out⟩)
     skip
     refine gV (w1:=?_) (v:=?_) bJ rfl ?_ ?_;rotate_left 2
     ·go_simp;constructor
      ·rfl
      rfl
     have hb:Below wn.heap.size wn (wn.alloc (.cells eX.toArray 28)):=(Below.refl _ _).alloc (Nat.le_refl _) _;replace HN:=bX HN.out.alloc2;refine hK.out _ _ ⟨(eD (w:=wn) hHeld.1 hb),(eD (w:=wn) hHeld.2.1 hb),(eD (w:=wn) hHeld.2.2.1 hb),(eD (w:=wn) hHeld.2.2.2 hb)⟩ (fun hHeld=>?_);clear hK K;refine eM sJ1 ?_
     exact eM bE (hJ3_7_9 (x1,x2,p,wn.heap.size) _ ⟨hHeld,HN.out⟩)
    skip
    rintro ⟨x1,x2,p,q⟩ wn ⟨hHeld,hN⟩;replace HN:=bX hN;clear hN;refine eM (a':=?_) ?_ ?_;rotate_left
    ·simp only[jQ,Act.put,List.setIfInBounds_toArray,List.set_cons_zero,List.set_cons_succ];rfl
    refine sF1 7 (some 41) sG1 (fun K hK=>?_);refine iR Tryz.func35 bB rfl #[.agg #[.slice Al st.langs.length cl,.slice Ad st.dis.length cd,.slice Af st.fmts.length cf,.slice Ac st.cont.length cc],.string comp,.string s] bJ rfl rfl bH ?_
    with_reducible refine ((cS.out wn HN.out.below)).mono ?_
    rintro e wm ⟨v1,v2,v3,rfl,hT,hb⟩;refine ⟨_,rfl,?_⟩;replace HN:=bX (HN.out.call2 hb hT);refine hK.out _ _ ⟨(eD (w:=wn) hHeld.1 hb),(eD (w:=wn) hHeld.2.1 hb),(eD (w:=wn) hHeld.2.2.1 hb),(eD (w:=wn) hHeld.2.2.2 hb)⟩ (fun hHeld=>?_);clear hK K;refine eM sJ1 ?_
    exact eM bE (hJ3_7_8_9 (x1,fY T v1 v2 v3,p,q) _ ⟨hHeld,HN.out⟩)
   skip
   rintro ⟨x1,x2,p,q⟩ wn ⟨hHeld,hN⟩;replace HN:=bX hN;clear hN;refine eM (a':=?_) ?_ ?_;rotate_left
   ·simp only[jQ,Act.put,List.setIfInBounds_toArray,List.set_cons_zero,List.set_cons_succ];rfl
   refine sF1 8 (some 7) sG1 (fun K hK=>?_);refine gV (w1:=?_) (v:=?_) bJ rfl ?_ ?_;rotate_left 2
   ·go_simp;constructor
    ·rfl
    rfl
   have hb:Below wn.heap.size wn (wn.alloc (.cells eX.toArray 28)):=(Below.refl _ _).alloc (Nat.le_refl _) _;replace HN:=bX HN.out.alloc1;refine hK.out _ _ ⟨(eD (w:=wn) hHeld.1 hb),(eD (w:=wn) hHeld.2.1 hb),(eD (w:=wn) hHeld.2.2.1 hb),(eD (w:=wn) hHeld.2.2.2 hb)⟩ (fun hHeld=>?_);clear hK K;refine eM sJ1 ?_
   exact eM bE (hJ3_7_8_9 (x1,x2,wn.heap.size,q) _ ⟨hHeld,HN.out⟩)
  skip
  rintro ⟨x1,x2,p,q⟩ wn ⟨hHeld,hN⟩;replace HN:=bX hN;clear hN;refine eM (a':=?_) ?_ ?_;rotate_left
  ·simp only[jQ,Act.put,List.setIfInBounds_toArray,List.set_cons_zero,List.set_cons_succ];rfl
  refine sF1 9 (some 8) sG1 (fun K hK=>?_);refine gV (w1:=?_) (v:=?_) bJ rfl ?_ ?_;rotate_left 2
  ·go_simp;constructor
   ·rfl
   rfl
  have hb:Below wn.heap.size wn (wn.alloc (.cells eX.toArray 28)):=(Below.refl _ _).alloc (Nat.le_refl _) _;replace HN:=bX HN.out.alloc2;refine hK.out _ _ ⟨(eD (w:=wn) hHeld.1 hb),(eD (w:=wn) hHeld.2.1 hb),(eD (w:=wn) hHeld.2.2.1 hb),(eD (w:=wn) hHeld.2.2.2 hb)⟩ (fun hHeld=>?_);clear hK K;refine eM sJ1 ?_
  exact eM bE (hJ3_7_8_9 (x1,x2,p,wn.heap.size) _ ⟨hHeld,HN.out⟩)
 rintro ⟨x1,x2,p,q⟩ wn ⟨hHeld,hN⟩;replace HN:=bX hN;clear hN;refine eM (a':=?_) ?_ ?_;rotate_left
 ·simp only[jQ,Act.put,List.setIfInBounds_toArray,List.set_cons_zero,List.set_cons_succ];rfl
 refine sH1 10 none sI1 (fun K hK=>?_);obtain ⟨v1,v2,v3,e1,hA⟩:=HN.out.one rfl;obtain ⟨u1,u2,u3,e2,hD⟩:=HN.out.two rfl;change x1=_ at e1;change x2=_ at e2;subst e1;subst e2;obtain ⟨hP,hp0⟩:=HN.out.pa rfl;obtain ⟨hQ,hq0⟩:=HN.out.pb rfl;have hpq:p≠q:=HN.out.ne rfl rfl;have HPQ:=bX hpq;have HB6:=bX HN.out.below;have HPR:=bX hP;have HQR:=bX hQ;have HP0:=bX hp0;have HQ0:=bX hq0;have HTA:=bX hA;have HTD:=bX hD
 obtain ⟨A,hA'⟩:∃ A:Array Value,oR T v1 v2 v3=A:=⟨_,rfl⟩
 obtain ⟨D,hD'⟩:∃ D:Array Value,oR T u1 u2 u3=D:=⟨_,rfl⟩
 have HAS:=bX (show A.size=31 by rw[← hA'];rfl);have HDS:=bX (show D.size=31 by rw[← hD'];rfl);have HAO:=bX (show A.all (·.oneCell')=true by rw[← hA'];exact hA.here.one);have HDO:=bX (show D.all (·.oneCell')=true by rw[← hD'];exact hD.here.one);have hva:fY T v1 v2 v3 = .agg A:=by rw[← hA'];rfl
 have hvd:fY T u1 u2 u3 = .agg D:=by rw[← hD'];rfl
 rw[hva,hvd];have HVA:=bX hva;have HVD:=bX hvd;have HCA:=bX hA';have HCD:=bX hD';clear hP hQ hA hD hA' hD' hva hvd hpq hp0 hq0;refine rA bJ rfl (.tmp 7) (.tmp 37) rfl rfl rfl HPR.out rfl HAS.out HAO.out ?_;refine hK.out _ _ ?_;clear hK K;refine sH1 11 none sI1 (fun K hK=>?_);refine rA bJ rfl (.tmp 8) (.tmp 41) rfl rfl rfl (pK HQR.out (Ne.symm HPQ.out) A) rfl HDS.out HDO.out ?_;refine hK.out _ _ ?_;clear hK K;refine iL bB ?_
 obtain ⟨X,hX⟩:∃ X,(wn.setCells p 0 A.toList).setCells q 0 D.toList=X:=⟨_,rfl⟩
 have HR1:=bX (show Row X p A.toList from hX▸pK (Row.setAll (ds:=A.toList) HPR.out (by rw[Array.length_toList,HAS.out];rfl)) HPQ.out D);have HR2:=bX (show Row X q D.toList from hX▸Row.setAll (ds:=D.toList) (pK HQR.out (Ne.symm HPQ.out) A) (by rw[Array.length_toList,HDS.out];rfl));have hbx:Below w4.heap.size w4 X:=hX▸below_setCells HQ0.out _ _ _ (below_setCells HP0.out _ _ _ HB6.out);have hagr:∀ k,w4.heap.size≤k→k < wn.heap.size→¬ qM true true (Value.agg A,Value.agg D,p,q) k→X.heap[k]? = wn.heap[k]?:=fun k _ _ h=>hX▸(jC _ _ k (fun e=>h (.inr ⟨rfl,e⟩))).trans (jC _ _ k (fun e=>h (.inl ⟨rfl,e⟩)));have HAX:=bX (show lC X w4.heap.size T v1 v2 v3 from HTA.out X hagr);have HDX:=bX (show lC X w4.heap.size T u1 u2 u3 from HTD.out X hagr);rw[hX]
 have HBX:=bX (eB HB4.out hbx);clear hbx hX hagr hHeld r0 r1 r2 r3;have hG1:X.rangeAt p 0 A.toList:=HR1.out.range;have hG2:X.rangeAt q 0 D.toList:=HR2.out.range;have iA:(Tryz.prog.info? 28).map (·.size)=some A.toList.length:=by rw[Array.length_toList,HAS.out];kernel_rfl
 have iD:(Tryz.prog.info? 28).map (·.size)=some D.toList.length:=by rw[Array.length_toList,HDS.out];kernel_rfl
 have ca:=words_t (w:=X) HAX.out HDX.out;rw[show fY T v1 v2 v3 = .agg A.toList.toArray by rw[Array.toArray_toList,HVA.out],show fY T u1 u2 u3 = .agg D.toList.toArray by rw[Array.toArray_toList,HVD.out]] at ca
 go_wp2_with (first | (refine wpList_load_mid rfl 28 (.tmp 7) rfl p 0 rfl A.toList _ hG1 Tryz.underlying28 rfl iA ?_) | (refine wpList_load_mid rfl 28 (.tmp 8) rfl q 0 rfl D.toList _ hG2 Tryz.underlying28 rfl iD ?_) | fail)
 refine ca.mono ?_;rintro e w8 ⟨rfl,hb8⟩;have HB8:=bX (eB HBX.out hb8);have HV8:=bX hb8;clear ca hb8 hG1 hG2 iA iD;obtain ⟨A1,c1,e1,_⟩:=HAX.out.1;obtain ⟨A2,c2,e2,_⟩:=HAX.out.2.1;obtain ⟨A3,c3,e3,_⟩:=HAX.out.2.2;obtain ⟨D1,d1,f1,_⟩:=HDX.out.1;obtain ⟨D2,d2,f2,_⟩:=HDX.out.2.1;obtain ⟨D3,d3,f3,_⟩:=HDX.out.2.2;have HE1:=bX e1;have HE2:=bX e2;have HE3:=bX e3;have HF1:=bX f1;have HF2:=bX f2;have HF3:=bX f3
 obtain ⟨n1,hn1⟩:∃ n,T.langs.length=n:=⟨_,rfl⟩
 obtain ⟨n2,hn2⟩:∃ n,T.ids.length=n:=⟨_,rfl⟩
 obtain ⟨n3,hn3⟩:∃ n,T.unk.length=n:=⟨_,rfl⟩
 have kp21:=eD (HR1.out.at 21 (.slice A1 n1 c1) (by rw[← HCA.out,← hn1,← HE1.out];rfl)) HV8.out;have kp22:=eD (HR1.out.at 22 (.slice A2 n2 c2) (by rw[← HCA.out,← hn2,← HE2.out];rfl)) HV8.out;have kp23:=eD (HR1.out.at 23 (.slice A3 n3 c3) (by rw[← HCA.out,← hn3,← HE3.out];rfl)) HV8.out;have kq21:=eD (HR2.out.at 21 (.slice D1 n1 d1) (by rw[← HCD.out,← hn1,← HF1.out];rfl)) HV8.out;have kq22:=eD (HR2.out.at 22 (.slice D2 n2 d2) (by rw[← HCD.out,← hn2,← HF2.out];rfl)) HV8.out;have kq23:=eD (HR2.out.at 23 (.slice D3 n3 d3) (by rw[← HCD.out,← hn3,← HF3.out];rfl)) HV8.out;clear e1 e2 e3 f1 f2 f3
 have ct:=nZ (w:=w8) ((HE1.out▸HAX.out.1:fA X w4.heap.size (.slice A1 T.langs.length c1) T.langs).below HV8.out |>.mono (Nat.zero_le _)) ((HF1.out▸HDX.out.1:fA X w4.heap.size (.slice D1 T.langs.length d1) T.langs).below HV8.out |>.mono (Nat.zero_le _)) HZ1.out;rw[hn1] at ct;go_wp2_with fail
 refine ct.mono ?_;rintro e w9 ⟨rfl,hb9⟩;have HB9:=bX (eB HB8.out hb9);have HV9:=bX (eB HV8.out hb9);replace kp21:=eD kp21 hb9;replace kp22:=eD kp22 hb9;replace kp23:=eD kp23 hb9;replace kq21:=eD kq21 hb9;replace kq22:=eD kq22 hb9;replace kq23:=eD kq23 hb9;clear ct hb9;have ct:=nZ (w:=w9) ((HE2.out▸HAX.out.2.1:fA X w4.heap.size (.slice A2 T.ids.length c2) T.ids).below HV9.out |>.mono (Nat.zero_le _)) ((HF2.out▸HDX.out.2.1:fA X w4.heap.size (.slice D2 T.ids.length d2) T.ids).below HV9.out |>.mono (Nat.zero_le _)) HZ2.out;rw[hn2] at ct;go_wp2_with fail
 refine ct.mono ?_;rintro e w10 ⟨rfl,hb10⟩;have HB10:=bX (eB HB9.out hb10);have HV10:=bX (eB HV9.out hb10);replace kp21:=eD kp21 hb10;replace kp22:=eD kp22 hb10;replace kp23:=eD kp23 hb10;replace kq21:=eD kq21 hb10;replace kq22:=eD kq22 hb10;replace kq23:=eD kq23 hb10;clear ct hb10;have ct:=nZ (w:=w10) ((HE3.out▸HAX.out.2.2:fA X w4.heap.size (.slice A3 T.unk.length c3) T.unk).below HV10.out |>.mono (Nat.zero_le _)) ((HF3.out▸HDX.out.2.2:fA X w4.heap.size (.slice D3 T.unk.length d3) T.unk).below HV10.out |>.mono (Nat.zero_le _)) HZ3.out;rw[hn3] at ct;go_wp2_with fail
 refine ct.mono ?_;rintro e w11 ⟨rfl,hb11⟩;have HB11:=bX (eB HB10.out hb11);have HV11:=bX (eB HV10.out hb11);replace kp21:=eD kp21 hb11;replace kp22:=eD kp22 hb11;replace kp23:=eD kp23 hb11;replace kq21:=eD kq21 hb11;replace kq22:=eD kq22 hb11;replace kq23:=eD kq23 hb11;clear ct hb11;go_wp2_with fail
 go_ret
 first
 | exact ⟨rfl,HB11.out⟩
 | exact ⟨congrArg (fun b=>Ending.returned (Value.bool b)) (by assumption),HB11.out⟩
end
theorem lifted (os:Os) (started:os.Started) (H:Type) (enc:TypeId×Value→H) :
 ReturnsInHanded {} Tryz.checked os 10 .any (fun w args=>(Rows.fnResourceWordsSpec.pre enc Tryz.prog Tryz.f10 Rows.fnResourceWordsRow.domain false w args∧laidMetH Tryz.prog Rows.fnResourceWordsRow.laid w)∧sizedMet enc Tryz.prog Tryz.f10 (OpenSpec.ofChange Rows.fnResourceWordsSpec) false w args)
  (Rows.fnResourceWordsSpec.post enc Tryz.prog Tryz.f10 false true false false):=by
 refine returnsInHanded_of_change_and (C:=Tryz.checked) (X:=fun w _=>laidMetH Tryz.prog Rows.fnResourceWordsRow.laid w) (fun _ _ _ hh h=>h.of_heap hh) RowKit.own started bB Tryz.func10
  (ChangeSpec.witness_shaped (enc:=enc) (C:=Tryz.checked) (os:=os) (X:=fun w _=>laidMetH Tryz.prog Rows.fnResourceWordsRow.laid w) false (World.laidAll Tryz.prog os Rows.fnResourceWordsRow.laid) #[.agg #[.slice none 0 0,.slice none 0 0,.slice none 0 0,.slice none 0 0],.string ByteArray.empty,.string ByteArray.empty] 8 (World.laidAll_os _ _ _)
   (World.shaped_of_ZipB bB bB) bB bB bB
   (by rw[MakeChecks.laidMetH_plain _ _ _ bB];exact laidMet_laidAll _ bB bB)) ?_
 intro W base args ds gs before hval0 hW _ _ _ _;have hval:∀ (j:Nat) t v,Tryz.f10.params[j]? = some t→args[j]? = some v→Value.okWide Tryz.prog W .any base t v:=hval0;have hW':=hW;obtain ⟨p,q,hA0,hV,rfl,_,_⟩:=hW;have hA:DataW.TrodAll enc Tryz.prog W 0 (fun _=>true) true Tryz.f10.params.toList args.toList ds p:=hA0;rw[Tryz.params10] at hA hval;obtain ⟨v0,vs0,d0,ds0,p0,q0,hargs,rfl,rfl,h0,r0⟩:=trodAll_cons hA;obtain ⟨v1,vs1,d1,ds1,p1,q1,rfl,rfl,rfl,h1,r1⟩:=trodAll_cons r0;obtain ⟨v2,vs2,d2,ds2,p2,q2,rfl,rfl,rfl,h2,r2⟩:=trodAll_cons r1;obtain ⟨rfl,rfl,rfl⟩:=trodAll_nil r2;obtain rfl:args = #[v0,v1,v2]:=by cases args;simp_all
 obtain ⟨rfl,rfl⟩:=trodVars_none hV;have k0:=h0;have lt0:∀ x∈p0,x.block < W.heap.size:=by obtain ⟨m,hm⟩:=k0;exact DataW.trod_lt m _ _ _ hm
 obtain ⟨st0,vl0,vd0,vf0,vc0,rfl,S0⟩:=SiteRow.open_site (hval 0 25 v0 rfl rfl) h0;obtain ⟨a1,rfl,rfl,rfl,y1⟩:=Go.ChangeMaps.open_string Tryz.underlying9 (hval 1 9 v1 rfl rfl) h1;obtain ⟨a2,rfl,rfl,rfl,y2⟩:=Go.ChangeMaps.open_string Tryz.underlying9 (hval 2 9 v2 rfl rfl) h2;clear hA0 hval0;refine (walk (w:=W) S0 a1 a2).mono fun e W' ⟨he,bel⟩=>?_;subst he;exact ⟨_,rfl,_,_,_,[],_,[],hW',trodAll_mk1 (shut_bool Tryz.underlying4 _),(trodAll_cons_mk (Below.trod SiteRow.laidOut bB (of_decide_eq_true bB) k0 bel lt0) (trodAll_cons_mk (Go.ChangeMaps.shut_string Tryz.underlying9 y1) (trodAll_cons_mk (Go.ChangeMaps.shut_string Tryz.underlying9 y2) trodAll_mk0))),rfl,bel.frame _,fun h=>by cases h⟩
theorem said:Rows.FnResourceWordsSaid :=
 OpenClaim.holds_of_wide 10 Tryz.f10 rfl rfl rfl rfl rfl rfl rfl ⟨rfl,rfl,rfl,rfl,rfl⟩ rfl rfl rfl rfl rfl bB Tryz.func10 bB
  (of_decide_eq_true bB) (by unfold Func.isWrapper;first | (rw[if_pos (by decide +kernel)];kernel_rfl) | (rw[if_neg (by decide +kernel)];exact ⟨rfl,rfl⟩))
  (fun os started H enc _=>lifted os started H enc)
theorem plain (f:FuncId) (fn:Func) (hf:Tryz.pinned.checked.prog.funcNamed "pub-trackway/laws.FnResourceWords" = some f) (hfn:Tryz.pinned.checked.prog.funcs[f]? = some fn) :
 false=Tryz.pinned.checked.prog.looks []∧∀ (j:Nat) t,fn.params[j]? = some t→Tryz.pinned.checked.prog.wantsStandIn t=false:=by
 obtain rfl:f=10:=Option.some.inj ((show Tryz.prog.funcNamed "pub-trackway/laws.FnResourceWords" = some 10 by kernel_rfl).symm.trans hf) |>.symm
 obtain rfl:fn=Tryz.f10:=(Option.some.inj (Tryz.func10.symm.trans hfn)).symm;refine ⟨by kernel_rfl,fun j t ht=>?_⟩;rw[Tryz.params10] at ht;have hm:t∈[25,9,9]:=by simpa using Array.mem_of_getElem? ht
 have hall:([25,9,9].all fun u=>!Tryz.prog.wantsStandIn u)=true:=by kernel_rfl
 exact (show Tryz.prog.wantsStandIn t=false by simpa using List.all_eq_true.1 hall t hm)
theorem card:Rows.FnResourceWordsCardSaid :=
 Claim7.holds_tied_plain_at .later [] _ _ _ _ said (fun _ h=>by cases h) bB (fun _ h=>by cases h) fnResourceWords_row_tie rfl ⟨rfl,rfl⟩ bB rfl plain bB
end Go.Proofs.YtlkoeeccebmjmaaGreatDoor.fnResourceWords
namespace Go.Proofs.YtlkoeeccebmjmaaGreatDoor
theorem fnResourceWords_card:Rows.FnResourceWordsCardSaid:=fnResourceWords.card
#print axioms fnResourceWords_card
end Go.Proofs.YtlkoeeccebmjmaaGreatDoor
