/- A path that is normal is the same in its own letters. Condition: none but the statement's own. -/
import Derived.Deep.QuietTactic
import Derived.BigQuiet
import Derived.Test.YtcdgldnphhidlaaGreatDoorVa
import Derived.Test.YtcdgldnphhidlaaGreatDoorV24
set_option linter.unusedVariables false
set_option linter.unusedSimpArgs false
set_option maxRecDepth 100000
set_option maxHeartbeats 16000000
namespace Go.Proofs.YtcdgldnphhidlaaGreatDoor.fnUnnormalizedSame
open Go.ChangeShapes Go.WideShapes Go.ChangeAt Go.RowKit Go.WideMaps Go.ZW.PrintWords Go.Proofs.YtcdgldnphhidlaaGreatDoor.Base Go.Proofs.YtcdgldnphhidlaaGreatDoor.Lower Go.Proofs.YtcdgldnphhidlaaGreatDoor.Total Go.Proofs.YtcdgldnphhidlaaGreatDoor.Path Go.Proofs.YtcdgldnphhidlaaGreatDoor.PCore
open Go.ZW.PrintLast
open Go.Proofs.YtcdgldnphhidlaaGreatDoor.Ext
section
variable {w:World} {st:fD} {vl vd vf vc:Value}
theorem walk (S:lW w st vl vd vf vc) (comp s:ByteArray):Calls Tryz.prog 14 #[.agg #[vl,vd,vf,vc],.string comp,.string s] w fun e w'=>e = .returned (.bool true)∧Below w.heap.size w w':=by
 have HSA:=cH S;obtain ⟨Al,cl,rfl,_,_⟩:=S.l;obtain ⟨Ad,cd,rfl,_,_⟩:=S.d;obtain ⟨Af,cf,rfl,_,_⟩:=S.f;obtain ⟨Ac,cc,rfl,_,_⟩:=S.c;clear S;have hB1:Below w.heap.size w (w.alloc (.cells #[.slice Al st.langs.length cl,.slice Ad st.dis.length cd,.slice Af st.fmts.length cf,.slice Ac st.cont.length cc] 25)):=(Below.refl _ _).alloc (Nat.le_refl _) _;have hR1:=Row.new w [.slice Al st.langs.length cl,.slice Ad st.dis.length cd,.slice Af st.fmts.length cf,.slice Ac st.cont.length cc] 25;have hs1:w.heap.size < (w.alloc (.cells #[.slice Al st.langs.length cl,.slice Ad st.dis.length cd,.slice Af st.fmts.length cf,.slice Ac st.cont.length cc] 25)).heap.size:=by simp
 go_enter Tryz.func14,Tryz.ntmps14;go_upto_region 1 with fail
 obtain ⟨w1,hw1⟩:∃ w1,w.alloc (.cells #[.slice Al st.langs.length cl,.slice Ad st.dis.length cd,.slice Af st.fmts.length cf,.slice Ac st.cont.length cc] 25)=w1:=⟨_,rfl⟩
 rw[hw1] at hB1 hR1 hs1 ⊢;clear hw1;have HB1:=cH hB1;have HRS:=cH hR1;have r0:=hR1.at 0 _ rfl;have r1:=hR1.at 1 _ rfl;have r2:=hR1.at 2 _ rfl;have r3:=hR1.at 3 _ rfl;have cz:=nX (HSA.out.below hB1)
 obtain ⟨ft,hft⟩:∃ f,pY st=f:=⟨_,rfl⟩
 rw[hft] at cz;have HFT:=cH hft
 obtain ⟨q1,hq1⟩:∃ q,decide ((2147483647:Int) < (comp.size:Int))=q:=⟨_,rfl⟩
 obtain ⟨q2,hq2⟩:∃ q,decide ((2147483647:Int) < (s.size:Int))=q:=⟨_,rfl⟩
 have HQ1:=cH hq1;have HQ2:=cH hq2;have hq1' : decide (2147483647 < comp.size)=q1:=by rw[← hq1];by_cases c:2147483647 < comp.size <;> simp[c] <;> omega
 have hq2' : decide (2147483647 < s.size)=q2:=by rw[← hq2];by_cases c:2147483647 < s.size <;> simp[c] <;> omega
 clear hB1 hR1 hft
 go_cut [21] from 9 to 21 (fun sx wx=>sx = .bool (!ft || (q1 || q2))∧Aside0 (Below w1.heap.size w1 wx))
 case first =>
  go_wp2_with fail
  refine cz.mono ?_;rintro e w2 ⟨rfl,hb2⟩;have HB2:=cH hb2;clear hb2 cz;cases ft
  ·go_wp2_with fail
   go_meet
   case rel=>exact ⟨rfl,HB2⟩
  cases q1
  ·go_wp2_with fail
   go_meet
   case rel=>exact ⟨rfl,HB2⟩
  go_wp2_with fail
  go_meet
  case rel=>exact ⟨rfl,HB2⟩
 obtain ⟨rfl,HB2⟩:=hcut
 obtain ⟨w2,rfl⟩:∃ x,x=wc:=⟨_,rfl⟩
 clear cz hq1 hq2 hq1' hq2' r0 r1 r2 r3;have HBA:=cH (HB1.out.trans (HB2.out.mono HB1.out.size))
 obtain ⟨g,hg⟩:∃ g,(!ft || (q1 || q2))=g:=⟨_,rfl⟩
 rw[hg];have HG:=cH hg;clear hg;cases g;rotate_left
 ·go_wp2_with fail
  go_ret;exact ⟨rfl,HBA.out⟩
 have hf:ft=true∧q1=false∧q2=false:=by have h9:=HG.out;revert h9;cases ft <;> cases q1 <;> cases q2 <;> simp
 obtain ⟨rfl,rfl,rfl⟩:=hf;have hcs:comp.size≤2147483647:=by have:=of_decide_eq_false HQ1.out;omega
 have hss:s.size≤2147483647:=by have:=of_decide_eq_false HQ2.out;omega
 have hRs:=HRS.out.below HB2.out hs1;have r0:=hRs.at 0 _ rfl;have r1:=hRs.at 1 _ rfl;have r2:=hRs.at 2 _ rfl;have r3:=hRs.at 3 _ rfl;have HB2:=HBA;have HRS2:=cH hRs;clear hRs r0 r1 r2 r3
 obtain ⟨bq,hq⟩:∃ q,decide ((2000:Int) < (s.size:Int))=q:=⟨_,rfl⟩
 have hq' : decide (2000 < s.size)=bq:=by rw[← hq];by_cases c:2000 < s.size <;> simp[c] <;> omega
 have HQS:=cH hq;cases bq;rotate_left
 ·go_wp2_with fail
  go_ret;exact ⟨rfl,HB2.out⟩
 have hgo:=trivial;have zs:s.size≤2000:=by have:=of_decide_eq_false HQS.out;omega
 obtain ⟨wk,hwk⟩:∃ q,ascii (L s)=q:=⟨_,rfl⟩
 have cw:=zD s w2 bA;rw[hwk] at cw;have HWK:=cH hwk;clear hwk;go_wp2_with fail
 refine (cw).mono ?_;rintro e w3 ⟨rfl,hb⟩;have HB3:=cH (eB HB2.out hb);have HRS3:=cH (HRS2.out.below hb (HRS2.out.lt bJ));clear hb cw hq hq';cases wk
 ·go_wp2_with fail
  go_ret;exact ⟨rfl,HB3.out⟩
 have hgo:=trivial
 obtain ⟨ns,hns⟩:∃ x,norm s=x:=⟨_,rfl⟩
 have HNS:=cH hns;have zns:ns.size≤2000:=by rw[← hns,norm_size];omega
 have CN:Aside0 (∀ W:World,Calls Tryz.prog 43 #[.string s] W fun e w'=>e = .returned (.string ns)∧Below W.heap.size W w'):=cH (fun W=>hns▸zT s W bA HWK.out);have CS:Aside0 (∀ W:World,Calls Tryz.prog 45 #[.string s] W fun e w'=>e = .returned (.string ns)∧Below W.heap.size W w'):=cH (fun W=>hns▸sQ s W bA);have CF:Aside0 (∀ W,Below w3.heap.size w3 W→Calls Tryz.prog 43 #[.string s] W fun e w'=>e = .returned (.string ns)∧Below W.heap.size W w'):=cH (fun W _=>CN.out W);clear hns;obtain ⟨ok,HOK,ck⟩:=tW (HSA.out.below HB3.out) HFT.out comp ns bA;replace HOK:=cH HOK
 obtain ⟨G,hG⟩:∃ G:ToldV→List ByteArray→List ByteArray→List ByteArray→Prop,(fun t l1 l2 l3=>ok=true→t=gQ (fL (eI st) comp (norm ns))∧l1=iT (fL (eI st) comp (norm ns))∧l2=iV (fL (eI st) comp (norm ns))∧l3=kB (fL (eI st) comp (norm ns)))=G:=⟨_,rfl⟩
 have HG:=cH hG
 have CK:Aside0 (∀ W,Below w3.heap.size w3 W→Calls Tryz.prog 29 #[.agg #[.slice Al st.langs.length cl,.slice Ad st.dis.length cd,.slice Af st.fmts.length cf,.slice Ac st.cont.length cc],.string comp,.string ns] W fun e w'=>∃ t l1 l2 l3 v1 v2 v3,e = .returned (.tuple #[iB t v1 v2 v3,.bool ok])∧rI w' W.heap.size v1 v2 v3 l1 l2 l3∧G t l1 l2 l3∧Below W.heap.size W w'):=cH (fun W hW=>(ck W hW).mono (by
  rintro e w' ⟨t,l1,l2,l3,v1,v2,v3,e1,h1,h2,h3⟩
  exact ⟨t,l1,l2,l3,v1,v2,v3,e1,h1,hG▸h2,h3⟩))
 clear ck hG;have r0:=HRS3.out.at 0 _ rfl;have r1:=HRS3.out.at 1 _ rfl;have r2:=HRS3.out.at 2 _ rfl;have r3:=HRS3.out.at 3 _ rfl
 obtain ⟨x1,p,hx1,hp'⟩:∃ (x1:Value) (p:Nat),x1=x1∧p=p:=⟨undef,0,rfl,rfl⟩
 clear hx1 hp';have HN:Aside0 (KN w3 G false false (x1,p) w3.drew):=cH (KN.start (Below.refl _ _).drew _);go_upto_region 5 with fail
 refine iH (n:=11) (S:=fun w'=>w'.cell? ⟨w.heap.size,0,none⟩=some (.slice Al st.langs.length cl)∧w'.cell? ⟨w.heap.size,1,none⟩=some (.slice Ad st.dis.length cd)∧w'.cell? ⟨w.heap.size,2,none⟩=some (.slice Af st.fmts.length cf)∧w'.cell? ⟨w.heap.size,3,none⟩=some (.slice Ac st.cont.length cc)) (ds:=[9]) _ bB rfl rfl ⟨r0,r1,r2,r3⟩ (fun hHeld=>?_);refine sA1 1 (some 32) sB1 ?_
 refine sA1 2 (some 33) sB1 ?_
 refine sC1 0 (some 31) sO1 ?_
 refine nY (σ:=Value×Nat) 2 #[true,true,true,true,true,true,true,true,true,false,false] (fun s_=>[(34,.string ns),(35,.tuple #[s_.1,.bool ok]),(30,.tuple #[s_.1,.bool ok]),(36,s_.1),(37,.bool ok),(7,.pointer (some ⟨s_.2,0,none⟩))]) (fun s_ w'=>(w'.cell? ⟨w.heap.size,0,none⟩=some (.slice Al st.langs.length cl)∧w'.cell? ⟨w.heap.size,1,none⟩=some (.slice Ad st.dis.length cd)∧w'.cell? ⟨w.heap.size,2,none⟩=some (.slice Af st.fmts.length cf)∧w'.cell? ⟨w.heap.size,3,none⟩=some (.slice Ac st.cont.length cc))∧KN w3 G true true s_ w') ?_ ?_;rotate_left
 ·intro hJ3_4_8;refine nY (σ:=Value×Nat) 3 #[true,true,true,true,true,true,true,true,false,false,false] (fun s_=>[(34,.string ns),(35,.tuple #[s_.1,.bool ok]),(30,.tuple #[s_.1,.bool ok]),(36,s_.1),(37,.bool ok)]) (fun s_ w'=>(w'.cell? ⟨w.heap.size,0,none⟩=some (.slice Al st.langs.length cl)∧w'.cell? ⟨w.heap.size,1,none⟩=some (.slice Ad st.dis.length cd)∧w'.cell? ⟨w.heap.size,2,none⟩=some (.slice Af st.fmts.length cf)∧w'.cell? ⟨w.heap.size,3,none⟩=some (.slice Ac st.cont.length cc))∧KN w3 G true false s_ w') ?_ ?_;rotate_left
  ·intro hJ3_4;refine nY (σ:=Value×Nat) 6 #[true,true,true,true,false,false,false,false,true,false,false] (fun s_=>[(34,.string ns),(7,.pointer (some ⟨s_.2,0,none⟩))]) (fun s_ w'=>(w'.cell? ⟨w.heap.size,0,none⟩=some (.slice Al st.langs.length cl)∧w'.cell? ⟨w.heap.size,1,none⟩=some (.slice Ad st.dis.length cd)∧w'.cell? ⟨w.heap.size,2,none⟩=some (.slice Af st.fmts.length cf)∧w'.cell? ⟨w.heap.size,3,none⟩=some (.slice Ac st.cont.length cc))∧KN w3 G false true s_ w') ?_ ?_;rotate_left
   ·intro hJ3_8;refine nY (σ:=Value×Nat) 7 #[true,true,true,true,false,false,false,false,false,false,false] (fun s_=>[(34,.string ns)]) (fun s_ w'=>(w'.cell? ⟨w.heap.size,0,none⟩=some (.slice Al st.langs.length cl)∧w'.cell? ⟨w.heap.size,1,none⟩=some (.slice Ad st.dis.length cd)∧w'.cell? ⟨w.heap.size,2,none⟩=some (.slice Af st.fmts.length cf)∧w'.cell? ⟨w.heap.size,3,none⟩=some (.slice Ac st.cont.length cc))∧KN w3 G false false s_ w') ?_ ?_;rotate_left
    ·intro hJ3;refine nY (σ:=Value×Nat) 7 #[true,true,true,false,false,false,false,false,true,false,false] (fun s_=>[(7,.pointer (some ⟨s_.2,0,none⟩))]) (fun s_ w'=>(w'.cell? ⟨w.heap.size,0,none⟩=some (.slice Al st.langs.length cl)∧w'.cell? ⟨w.heap.size,1,none⟩=some (.slice Ad st.dis.length cd)∧w'.cell? ⟨w.heap.size,2,none⟩=some (.slice Af st.fmts.length cf)∧w'.cell? ⟨w.heap.size,3,none⟩=some (.slice Ac st.cont.length cc))∧KN w3 G false true s_ w') ?_ ?_;rotate_left
     ·intro hJ8;refine zZ (i:=3) (j:=8) (Ni:=some 34) (Nj:=some 7) #[true,true,true,true,false,false,false,false,false,false,false] #[true,true,true,false,false,false,false,false,true,false,false] rfl rfl rfl rfl bB bH bH (fun K hK=>?_) (fun K hK=>?_)
      ·skip
       refine iK Tryz.func43 bB rfl #[.string s] bK rfl rfl bG ?_
       with_reducible refine ((CF.out _ HN.out.below)).mono ?_
       rintro e wm ⟨rfl,hb⟩;refine ⟨_,rfl,?_⟩;replace HN:=cH (HN.out.grow hb);refine hK.out _ _ ⟨(eF (w:=w3.drew) hHeld.1 hb),(eF (w:=w3.drew) hHeld.2.1 hb),(eF (w:=w3.drew) hHeld.2.2.1 hb),(eF (w:=w3.drew) hHeld.2.2.2 hb)⟩ (fun hHeld=>?_);clear hK K;refine eU sJ1 ?_
       exact eU bF (hJ3 (x1,p) _ ⟨hHeld,HN.out⟩)
      skip
      refine jP (w1:=?_) (v:=?_) bK rfl ?_ ?_;rotate_left 2
      ·go_simp;constructor
       ·rfl
       rfl
      have hb:Below w3.drew.heap.size w3.drew (w3.drew.alloc (.cells fY.toArray 35)):=(Below.refl _ _).alloc (Nat.le_refl _) _;replace HN:=cH HN.out.cell;refine hK.out _ _ ⟨(eF (w:=w3.drew) hHeld.1 hb),(eF (w:=w3.drew) hHeld.2.1 hb),(eF (w:=w3.drew) hHeld.2.2.1 hb),(eF (w:=w3.drew) hHeld.2.2.2 hb)⟩ (fun hHeld=>?_);clear hK K;refine eU sJ1 ?_
      exact eU bF (hJ8 (x1,w3.drew.heap.size) _ ⟨hHeld,HN.out⟩)
     skip
     rintro ⟨x1,p⟩ wn ⟨hHeld,hN⟩;replace HN:=cH hN;clear hN;refine eU (a':=?_) ?_ ?_;rotate_left
     ·simp only[lV,Act.put,List.setIfInBounds_toArray,List.set_cons_zero,List.set_cons_succ];rfl
     refine sF1 3 (some 34) sG1 (fun K hK=>?_);refine iK Tryz.func43 bB rfl #[.string s] bK rfl rfl bG ?_
     with_reducible refine ((CF.out _ HN.out.below)).mono ?_
     rintro e wm ⟨rfl,hb⟩;refine ⟨_,rfl,?_⟩;replace HN:=cH (HN.out.grow hb);refine hK.out _ _ ⟨(eF (w:=wn) hHeld.1 hb),(eF (w:=wn) hHeld.2.1 hb),(eF (w:=wn) hHeld.2.2.1 hb),(eF (w:=wn) hHeld.2.2.2 hb)⟩ (fun hHeld=>?_);clear hK K;refine eU sJ1 ?_
     exact eU bF (hJ3_8 (x1,p) _ ⟨hHeld,HN.out⟩)
    skip
    rintro ⟨x1,p⟩ wn ⟨hHeld,hN⟩;replace HN:=cH hN;clear hN;refine eU (a':=?_) ?_ ?_;rotate_left
    ·simp only[lV,Act.put,List.setIfInBounds_toArray,List.set_cons_zero,List.set_cons_succ];rfl
    refine zZ (i:=4) (j:=8) (Ni:=some 35) (Nj:=some 7) #[true,true,true,true,true,false,false,false,false,false,false] #[true,true,true,true,false,false,false,false,true,false,false] rfl rfl rfl rfl bB bH bH (fun K hK=>?_) (fun K hK=>?_)
    ·skip
     refine iK Tryz.func29 bB rfl #[.agg #[.slice Al st.langs.length cl,.slice Ad st.dis.length cd,.slice Af st.fmts.length cf,.slice Ac st.cont.length cc],.string comp,.string ns] bK rfl rfl bG ?_
     with_reducible refine ((CK.out _ HN.out.below)).mono ?_
     rintro e wm ⟨t,l1,l2,l3,v1,v2,v3,rfl,hs9,hg9,hb⟩;refine ⟨_,rfl,?_⟩;replace HN:=cH (HN.out.know hb hs9 hg9);clear hs9 hg9;refine hK.out _ _ ⟨(eF (w:=wn) hHeld.1 hb),(eF (w:=wn) hHeld.2.1 hb),(eF (w:=wn) hHeld.2.2.1 hb),(eF (w:=wn) hHeld.2.2.2 hb)⟩ (fun hHeld=>?_);clear hK K;refine eU sJ1 ?_
     refine sA1 5 (some 30) sB1 ?_
     refine sA1 6 (some 36) sB1 ?_
     refine sA1 7 (some 37) sB1 ?_
     exact eU bF (hJ3_4 (iB t v1 v2 v3,p) _ ⟨hHeld,HN.out⟩)
    skip
    refine jP (w1:=?_) (v:=?_) bK rfl ?_ ?_;rotate_left 2
    ·go_simp;constructor
     ·rfl
     rfl
    have hb:Below wn.heap.size wn (wn.alloc (.cells fY.toArray 35)):=(Below.refl _ _).alloc (Nat.le_refl _) _;replace HN:=cH HN.out.cell;refine hK.out _ _ ⟨(eF (w:=wn) hHeld.1 hb),(eF (w:=wn) hHeld.2.1 hb),(eF (w:=wn) hHeld.2.2.1 hb),(eF (w:=wn) hHeld.2.2.2 hb)⟩ (fun hHeld=>?_);clear hK K;refine eU sJ1 ?_
    exact eU bF (hJ3_8 (x1,wn.heap.size) _ ⟨hHeld,HN.out⟩)
   skip
   rintro ⟨x1,p⟩ wn ⟨hHeld,hN⟩;replace HN:=cH hN;clear hN;refine eU (a':=?_) ?_ ?_;rotate_left
   ·simp only[lV,Act.put,List.setIfInBounds_toArray,List.set_cons_zero,List.set_cons_succ];rfl
   refine sF1 4 (some 35) sG1 (fun K hK=>?_);refine iK Tryz.func29 bB rfl #[.agg #[.slice Al st.langs.length cl,.slice Ad st.dis.length cd,.slice Af st.fmts.length cf,.slice Ac st.cont.length cc],.string comp,.string ns] bK rfl rfl bG ?_
   with_reducible refine ((CK.out _ HN.out.below)).mono ?_
   rintro e wm ⟨t,l1,l2,l3,v1,v2,v3,rfl,hs9,hg9,hb⟩;refine ⟨_,rfl,?_⟩;replace HN:=cH (HN.out.know hb hs9 hg9);clear hs9 hg9;refine hK.out _ _ ⟨(eF (w:=wn) hHeld.1 hb),(eF (w:=wn) hHeld.2.1 hb),(eF (w:=wn) hHeld.2.2.1 hb),(eF (w:=wn) hHeld.2.2.2 hb)⟩ (fun hHeld=>?_);clear hK K;refine eU sJ1 ?_
   refine sA1 5 (some 30) sB1 ?_
   refine sA1 6 (some 36) sB1 ?_
   refine sA1 7 (some 37) sB1 ?_
   exact eU bF (hJ3_4_8 (iB t v1 v2 v3,p) _ ⟨hHeld,HN.out⟩)
  skip
  rintro ⟨x1,p⟩ wn ⟨hHeld,hN⟩;replace HN:=cH hN;clear hN;refine eU (a':=?_) ?_ ?_;rotate_left
  ·simp only[lV,Act.put,List.setIfInBounds_toArray,List.set_cons_zero,List.set_cons_succ];rfl
  refine sF1 8 (some 7) sG1 (fun K hK=>?_);refine jP (w1:=?_) (v:=?_) bK rfl ?_ ?_;rotate_left 2
  ·go_simp;constructor
   ·rfl
   rfl
  have hb:Below wn.heap.size wn (wn.alloc (.cells fY.toArray 35)):=(Below.refl _ _).alloc (Nat.le_refl _) _;replace HN:=cH HN.out.cell;refine hK.out _ _ ⟨(eF (w:=wn) hHeld.1 hb),(eF (w:=wn) hHeld.2.1 hb),(eF (w:=wn) hHeld.2.2.1 hb),(eF (w:=wn) hHeld.2.2.2 hb)⟩ (fun hHeld=>?_);clear hK K;refine eU sJ1 ?_
  exact eU bF (hJ3_4_8 (x1,wn.heap.size) _ ⟨hHeld,HN.out⟩)
 rintro ⟨x1,p⟩ wn ⟨hHeld,hN⟩;replace HN:=cH hN;clear hN;refine eU (a':=?_) ?_ ?_;rotate_left
 ·simp only[lV,Act.put,List.setIfInBounds_toArray,List.set_cons_zero,List.set_cons_succ];rfl
 refine sH1 9 none sI1 (fun K hK=>?_);obtain ⟨t,l1,l2,l3,v1,v2,v3,e1,hr,hg,hfar⟩:=HN.out.res rfl;change x1=_ at e1;subst e1;obtain ⟨hP,hp0⟩:=HN.out.pa rfl;have HPR:=cH hP;have HB6:=cH HN.out.below;have HGG:=cH hg;have HFAR:=cH (hfar rfl);have HP0:=cH hp0
 obtain ⟨C,hC⟩:∃ C:Array Value,oY t v1 v2 v3=C:=⟨_,rfl⟩
 have HCS:=cH (show C.size=31 by rw[← hC];rfl);have HON:=cH (show C.all (·.oneCell')=true by obtain ⟨A1,c1,e1,_⟩:=hr.1;obtain ⟨A2,c2,e2,_⟩:=hr.2.1;obtain ⟨A3,c3,e3,_⟩:=hr.2.2;rw[← hC,e1,e2,e3];exact mF _ _ _ _ _ _ _ _ _ _);have hval:iB t v1 v2 v3 = .agg C:=by rw[← hC];rfl
 rw[hval];have HC:=cH hC;clear hP hp0 hg hfar hr hval hC;refine zY bK rfl (.tmp 7) (.tmp 36) rfl rfl rfl HPR.out rfl HCS.out HON.out ?_;refine hK.out _ _ ?_;clear hK K;refine sA1 10 (some 8) sB1 ?_
 refine iY bB ?_
 obtain ⟨W,hW⟩:∃ W,wn.setCells p 0 C.toList=W:=⟨_,rfl⟩
 have hce:=nM HPR.out rfl HCS.out;have hbw:Below w3.heap.size w3 W:=hW▸below_setCells HP0.out _ _ _ HB6.out;have hsl:=HFAR.out C.toList;rw[hW] at hce hsl ⊢;have HCE:=cH hce;have HSL:Aside0 (eT W w3.heap.size v1 l1∧eT W w3.heap.size v2 l2∧eT W w3.heap.size v3 l3):=cH hsl;have HBX:=cH (eB HB3.out hbw);have HVX:=cH hbw;have HBW:=cH (Below.refl W.heap.size W);have HRS3:=cH (HRS3.out.below hbw (HRS3.out.lt bJ));have HT:Aside0 (ok=true→t=gQ (fL (eI st) comp (norm ns))∧l1=iT (fL (eI st) comp (norm ns))∧l2=iV (fL (eI st) comp (norm ns))∧l3=kB (fL (eI st) comp (norm ns))):=cH (by have h9:=HGG.out;rw[← HG.out] at h9;exact h9)
 obtain ⟨bk,hbk⟩:∃ x,p=x:=⟨_,rfl⟩
 rw[hbk] at HCE ⊢;clear hW hce hbw hsl hHeld hbk r0 r1 r2 r3;cases ok
 ·have r0:=HRS3.out.at 0 _ rfl;have r1:=HRS3.out.at 1 _ rfl;have r2:=HRS3.out.at 2 _ rfl;have r3:=HRS3.out.at 3 _ rfl;go_upto_region 6 with fail
  refine iH (n:=17) (S:=fun w'=>w'.cell? ⟨w.heap.size,0,none⟩=some (.slice Al st.langs.length cl)∧w'.cell? ⟨w.heap.size,1,none⟩=some (.slice Ad st.dis.length cd)∧w'.cell? ⟨w.heap.size,2,none⟩=some (.slice Af st.fmts.length cf)∧w'.cell? ⟨w.heap.size,3,none⟩=some (.slice Ac st.cont.length cc)) (ds:=[]) _ bB rfl rfl ⟨r0,r1,r2,r3⟩ (fun hHeld=>?_);refine sA1 0 (some 38) sB1 ?_
  refine sA1 1 (some 39) sB1 ?_
  refine sA1 2 (some 40) sB1 ?_
  refine sM1 3 (some 41) sN1 ?_
  refine sM1 4 (some 42) sN1 ?_
  refine sM1 5 (some 43) sN1 ?_
  refine sM1 6 (some 44) sN1 ?_
  refine sM1 7 (some 45) sN1 ?_
  refine sM1 8 (some 46) sN1 ?_
  refine sA1 9 (some 47) sB1 ?_
  refine sA1 10 (some 48) sB1 ?_
  refine sM1 11 (some 49) sN1 ?_
  refine sM1 12 (some 50) sN1 ?_
  refine sM1 13 (some 51) sN1 ?_
  refine sM1 14 (some 52) sN1 ?_
  refine sM1 15 (some 53) sN1 ?_
  refine sA1 16 (some 54) sB1 ?_
  refine iY bB ?_;go_wp2_with fail
  go_ret
  first
  | exact ⟨rfl,HBX.out.drew⟩
  | exact ⟨congrArg (fun b=>Ending.returned (Value.bool b)) (by assumption),HBX.out.drew⟩
 have hgo:=trivial;obtain ⟨ht1,rfl,rfl,rfl⟩:=HT.out bL;obtain ⟨OS,HASC,HASCC,hs400,hc2000,hPK⟩:=HOK.out bL;have HPK:=cH hPK;clear hPK
 obtain ⟨p,hp⟩:∃ p,fL (eI st) comp (norm ns)=p:=⟨_,rfl⟩
 rw[hp] at ht1 HSL;subst ht1;have HP:=cH hp;have hpo:=nP (eI st) comp (norm ns) (by rw[norm_size];omega);rw[hp] at hpo;have HPO:=cH hpo;have HPN:=cH (oL (eI st) comp (norm ns));rw[hp] at HPN;have k9:=HCE.out 9 (.string (nrm p.trim p.s)) (by rw[← HC.out];rfl);have hne:=HPN.out;clear hp hpo HT HOK k9 hne;have hnn:norm ns=ns:=by rw[← HNS.out,aFp]
 have HRC:=cH (show W.rangeAt bk 0 C.toList from fun j v hv=>by rw[Nat.zero_add];exact HCE.out j v hv);obtain ⟨kn,cku⟩:=aA9 (HSA.out.below HBX.out).toSiteIn HPK.out.few comp ns bA bA;have CU:=cH cku;have tn:(ns.toList==ns.toList)=true:=by simp
 clear cku;have r0:=HRS3.out.at 0 _ rfl;have r1:=HRS3.out.at 1 _ rfl;have r2:=HRS3.out.at 2 _ rfl;have r3:=HRS3.out.at 3 _ rfl;cases kn
 ·go_upto_region 6 with fail
  refine iH (n:=17) (S:=fun w'=>w'.cell? ⟨w.heap.size,0,none⟩=some (.slice Al st.langs.length cl)∧w'.cell? ⟨w.heap.size,1,none⟩=some (.slice Ad st.dis.length cd)∧w'.cell? ⟨w.heap.size,2,none⟩=some (.slice Af st.fmts.length cf)∧w'.cell? ⟨w.heap.size,3,none⟩=some (.slice Ac st.cont.length cc)) (ds:=[]) _ bB rfl rfl ⟨r0,r1,r2,r3⟩ (fun hHeld=>?_);refine sA1 0 (some 38) sB1 ?_
  refine sA1 1 (some 39) sB1 ?_
  refine sA1 2 (some 40) sB1 ?_
  refine sA1 4 (some 42) sB1 ?_
  refine sA1 5 (some 43) sB1 ?_
  refine sC1 3 (some 41) sO1 ?_
  refine sF1 6 (some 44) sG1 (fun K hK=>?_);refine iK Tryz.func43 bB rfl #[.string s] bK rfl rfl bG ?_
  with_reducible refine ((CN.out _)).mono ?_
  rintro e x1 ⟨rfl,hb1⟩;refine ⟨_,rfl,?_⟩;have r0_1:=eF (w:=W.drew) r0 hb1;have r1_1:=eF (w:=W.drew) r1 hb1;have r2_1:=eF (w:=W.drew) r2 hb1;have r3_1:=eF (w:=W.drew) r3 hb1;have HL1:=cH (eB (Below.refl W.heap.size W).drew hb1);refine hK.out _ _ ⟨r0_1,r1_1,r2_1,r3_1⟩ (fun hHeld=>?_);clear hK K;refine eU sJ1 ?_
  refine sF1 7 (some 45) sG1 (fun K hK=>?_);refine iK Tryz.func44 bB rfl #[.agg #[.slice Al st.langs.length cl,.slice Ad st.dis.length cd,.slice Af st.fmts.length cf,.slice Ac st.cont.length cc],.string comp,.string ns] bK rfl rfl bG ?_
  with_reducible refine ((CU.out _ HL1.out)).mono ?_
  rintro e x2 ⟨rfl,hb2⟩;refine ⟨_,rfl,?_⟩;have r0_2:=eF (w:=x1) r0_1 hb2;have r1_2:=eF (w:=x1) r1_1 hb2;have r2_2:=eF (w:=x1) r2_1 hb2;have r3_2:=eF (w:=x1) r3_1 hb2;have HL2:=cH (eB HL1.out hb2);refine hK.out _ _ ⟨r0_2,r1_2,r2_2,r3_2⟩ (fun hHeld=>?_);clear hK K;refine eU sJ1 ?_
  refine sA1 8 (some 46) sB1 ?_
  refine sA1 9 (some 47) sB1 ?_
  refine sA1 10 (some 48) sB1 ?_
  refine sM1 11 (some 49) sN1 ?_
  refine sM1 12 (some 50) sN1 ?_
  refine sM1 13 (some 51) sN1 ?_
  refine sM1 14 (some 52) sN1 ?_
  refine sM1 15 (some 53) sN1 ?_
  refine sA1 16 (some 54) sB1 ?_
  refine iY bB ?_;have HB7:=cH (eB HBX.out HL2.out);clear hHeld r0 r1 r2 r3 r0_1 r1_1 r2_1 r3_1 r0_2 r1_2 r2_2 r3_2 hb1 hb2;go_wp2_with fail
  refine (CN.out _).mono ?_;rintro e x3 ⟨rfl,hb3⟩;have HB8:=cH (eB HB7.out hb3);clear hb3;go_wp2_with fail
  refine (CS.out _).mono ?_;rintro e x4 ⟨rfl,hb4⟩;have HB9:=cH (eB HB8.out hb4);clear hb4;go_wp2_with fail
  go_ret
  first
  | exact ⟨rfl,HB9.out⟩
  | exact ⟨congrArg (fun b=>Ending.returned (Value.bool b)) (by assumption),HB9.out⟩
 go_upto_region 6 with fail
 refine iH (n:=17) (S:=fun w'=>w'.cell? ⟨w.heap.size,0,none⟩=some (.slice Al st.langs.length cl)∧w'.cell? ⟨w.heap.size,1,none⟩=some (.slice Ad st.dis.length cd)∧w'.cell? ⟨w.heap.size,2,none⟩=some (.slice Af st.fmts.length cf)∧w'.cell? ⟨w.heap.size,3,none⟩=some (.slice Ac st.cont.length cc)) (ds:=[]) _ bB rfl rfl ⟨r0,r1,r2,r3⟩ (fun hHeld=>?_);refine sA1 0 (some 38) sB1 ?_
 refine sA1 1 (some 39) sB1 ?_
 refine sA1 2 (some 40) sB1 ?_
 refine sA1 4 (some 42) sB1 ?_
 refine sA1 5 (some 43) sB1 ?_
 refine sC1 3 (some 41) sO1 ?_
 refine sF1 6 (some 44) sG1 (fun K hK=>?_);refine iK Tryz.func43 bB rfl #[.string s] bK rfl rfl bG ?_
 with_reducible refine ((CN.out _)).mono ?_
 rintro e x1 ⟨rfl,hb1⟩;refine ⟨_,rfl,?_⟩;have r0_1:=eF (w:=W.drew) r0 hb1;have r1_1:=eF (w:=W.drew) r1 hb1;have r2_1:=eF (w:=W.drew) r2 hb1;have r3_1:=eF (w:=W.drew) r3 hb1;have HL1:=cH (eB (Below.refl W.heap.size W).drew hb1);refine hK.out _ _ ⟨r0_1,r1_1,r2_1,r3_1⟩ (fun hHeld=>?_);clear hK K;refine eU sJ1 ?_
 refine sF1 7 (some 45) sG1 (fun K hK=>?_);refine iK Tryz.func44 bB rfl #[.agg #[.slice Al st.langs.length cl,.slice Ad st.dis.length cd,.slice Af st.fmts.length cf,.slice Ac st.cont.length cc],.string comp,.string ns] bK rfl rfl bG ?_
 with_reducible refine ((CU.out _ HL1.out)).mono ?_
 rintro e x2 ⟨rfl,hb2⟩;refine ⟨_,rfl,?_⟩;have r0_2:=eF (w:=x1) r0_1 hb2;have r1_2:=eF (w:=x1) r1_1 hb2;have r2_2:=eF (w:=x1) r2_1 hb2;have r3_2:=eF (w:=x1) r3_1 hb2;have HL2:=cH (eB HL1.out hb2);refine hK.out _ _ ⟨r0_2,r1_2,r2_2,r3_2⟩ (fun hHeld=>?_);clear hK K;refine eU sJ1 ?_
 refine sA1 8 (some 46) sB1 ?_
 refine sA1 9 (some 47) sB1 ?_
 refine sA1 10 (some 48) sB1 ?_
 refine sA1 11 (some 49) sB1 ?_
 refine sA1 13 (some 51) sB1 ?_
 refine sF1 12 (some 50) sG1 (fun K hK=>?_);refine iK Tryz.func43 bB rfl #[.string s] bK rfl rfl bG ?_
 with_reducible refine ((CN.out _)).mono ?_
 rintro e x3 ⟨rfl,hb3⟩;refine ⟨_,rfl,?_⟩;have r0_3:=eF (w:=x2) r0_2 hb3;have r1_3:=eF (w:=x2) r1_2 hb3;have r2_3:=eF (w:=x2) r2_2 hb3;have r3_3:=eF (w:=x2) r3_2 hb3;have HL3:=cH (eB HL2.out hb3);refine hK.out _ _ ⟨r0_3,r1_3,r2_3,r3_3⟩ (fun hHeld=>?_);clear hK K;refine eU sJ1 ?_
 refine sF1 14 (some 52) sG1 (fun K hK=>?_);refine iK Tryz.func45 bB rfl #[.string s] bK rfl rfl bG ?_
 with_reducible refine ((CS.out _)).mono ?_
 rintro e w8 ⟨rfl,hb8⟩;refine ⟨_,rfl,?_⟩;have r0_4:=eF (w:=x3) r0_3 hb8;have r1_4:=eF (w:=x3) r1_3 hb8;have r2_4:=eF (w:=x3) r2_3 hb8;have r3_4:=eF (w:=x3) r3_3 hb8;have HV8:=cH (eB HL3.out hb8);refine hK.out _ _ ⟨r0_4,r1_4,r2_4,r3_4⟩ (fun hHeld=>?_);clear hK K;refine eU sJ1 ?_
 refine sA1 15 (some 53) sB1 ?_
 refine sA1 16 (some 54) sB1 ?_
 refine iY bB ?_;have HB8:=cH (eB HBX.out HV8.out);have HRS8:=cH (HRS3.out.below HV8.out (HRS3.out.lt bJ));have HRC8:=cH (kY HRC.out HV8.out);clear hHeld hb1 hb2 hb3 hb8 r0 r1 r2 r3 r0_1 r1_1 r2_1 r3_1 r0_2 r1_2 r2_2 r3_2 r0_3 r1_3 r2_3 r3_3 r0_4 r1_4 r2_4 r3_4;go_wp2_with fail
 have hS9:w8.drew.rangeAt w.heap.size 0 [.slice Al st.langs.length cl,.slice Ad st.dis.length cd,.slice Af st.fmts.length cf,.slice Ac st.cont.length cc]∧w8.drew.rangeAt bk 0 C.toList:=⟨(World.rangeAt_drew _ _ _ _).2 HRS8.out.range,(World.rangeAt_drew _ _ _ _).2 HRC8.out⟩
 refine wp_region_held_drew (S:=fun w'=>w'.rangeAt w.heap.size 0 [.slice Al st.langs.length cl,.slice Ad st.dis.length cd,.slice Af st.fmts.length cf,.slice Ac st.cont.length cc]∧w'.rangeAt bk 0 C.toList) bB hS9 (fun hH=>?_);have HBV:=cH HB8.out.drew;have HVV:=cH HV8.out.drew
 obtain ⟨V,hV⟩:∃ V,w8.drew=V:=⟨_,rfl⟩
 rw[hV] at hS9 HBV HVV hH ⊢;clear hV;have iC:(Tryz.prog.info? 35).map (·.size)=some C.toList.length:=by rw[Array.length_toList,HCS.out];kernel_rfl
 refine takeD (i:=0) (d:=some 64) (v:=.agg #[.slice Al st.langs.length cl,.slice Ad st.dis.length cd,.slice Af st.fmts.length cf,.slice Ac st.cont.length cc]) rfl rfl bB bB bB (fun _ _ _ h=>h) (yieldsIf_load_mid rfl 25 (.tmp 3) rfl w.heap.size 0 rfl [.slice Al st.langs.length cl,.slice Ad st.dis.length cd,.slice Af st.fmts.length cf,.slice Ac st.cont.length cc] _ (fun _ h=>h.1) Tryz.underlying25 rfl bB) hH ?_;refine takeD (i:=1) (d:=some 65) (v:=.string comp) rfl rfl bB bB bB (fun _ _ _ h=>h) (.inl ⟨rfl,fun w' _=>by go_simp⟩) hH ?_;refine takeD (i:=2) (d:=some 66) (v:=.string s) rfl rfl bB bB bB (fun _ _ _ h=>h) (.inl ⟨rfl,fun w' _=>by go_simp⟩) hH ?_
 refine takeD (i:=5) (d:=some 69) (v:=.agg C.toList.toArray) rfl rfl bB bB bB (fun _ _ _ h=>h) (yieldsIf_load_mid rfl 35 (.tmp 7) rfl bk 0 rfl C.toList _ (fun _ h=>h.2) Tryz.underlying35 rfl iC) hH ?_;refine wpAnyH_ready (rs:=[3]) bB bJ ?_;refine aEf (i:=3) (d:=some 67) (R:=fun v w'=>v = .string ns∧Below V.heap.size V w') rfl rfl rfl (fun K hK=>uY (by go_simp) ((CN.out V).mono fun e w' ⟨h1,h2⟩=>⟨_,h1,rfl,h2⟩) hK) (fun v w' ⟨_,h⟩=>⟨kY hS9.1 h,kY hS9.2 h⟩) ?_ AllReadyH.nil;rintro v w9 ⟨rfl,hb9⟩;have HB9:=cH (eB HBV.out hb9);have HV9:=cH (eB HVV.out hb9)
 have hR9:w9.rangeAt w.heap.size 0 [.slice Al st.langs.length cl,.slice Ad st.dis.length cd,.slice Af st.fmts.length cf,.slice Ac st.cont.length cc]∧w9.rangeAt bk 0 C.toList:=⟨kY hS9.1 hb9,kY hS9.2 hb9⟩
 clear hb9;have cP:=sY (HSA.out.below HB9.out).toSiteIn OS comp ns bA HASC;have hpp:fL (eI st) comp ns=p:=by rw[← HP.out,hnn]
 rw[hpp] at cP;refine wpAnyH_ready (rs:=[4]) bB bJ ?_;refine aEf (i:=4) (d:=some 68) (R:=fun v w'=>∃ u1 u2 u3,v=iB (gQ p) u1 u2 u3∧Path.Told w' w9.heap.size p u1 u2 u3∧Below w9.heap.size w9 w') rfl rfl rfl (fun K hK=>uY (by go_simp) (cP.mono fun e w' ⟨u1,u2,u3,h1,h2,h3⟩=>⟨_,h1,u1,u2,u3,rfl,h2,h3⟩) hK) (fun v w' ⟨_,_,_,_,_,h⟩=>⟨kY hR9.1 h,kY hR9.2 h⟩) ?_ AllReadyH.nil;rintro v w10 ⟨u1,u2,u3,rfl,hT,hb10⟩;have HT:=cH hT;have HB10:=cH (eB HB9.out hb10);have hv:=HBW.out.trans ((eB HV9.out hb10).mono HBW.out.size)
 have U1:Path.Told w10 0 p v1 v2 v3:=⟨(HSL.out.1.below hv).mono (Nat.zero_le _),(HSL.out.2.1.below hv).mono (Nat.zero_le _),(HSL.out.2.2.below hv).mono (Nat.zero_le _)⟩
 have ca:=aEa HPO.out.1.toPathIn HPN.out ⟨HT.out.1.mono (Nat.zero_le _),HT.out.2.1.mono (Nat.zero_le _),HT.out.2.2.mono (Nat.zero_le _)⟩ U1
 obtain ⟨Cx,hCx⟩:∃ Cx:Array Value,oY (gQ p) u1 u2 u3=Cx:=⟨_,rfl⟩
 have hv1:iB (gQ p) u1 u2 u3 = .agg Cx:=by rw[← hCx];rfl
 have hv2:iB (gQ p) v1 v2 v3 = .agg C.toList.toArray:=by rw[Array.toArray_toList,← HC.out];rfl
 rw[hv1];rw[hv1,hv2] at ca
 have hS8:w10.rangeAt w.heap.size 0 [.slice Al st.langs.length cl,.slice Ad st.dis.length cd,.slice Af st.fmts.length cf,.slice Ac st.cont.length cc]∧w10.rangeAt bk 0 C.toList:=⟨kY hR9.1 hb10,kY hR9.2 hb10⟩
 clear cP hT hCx hv1 hv2 U1 hv;refine wpAnyH_ready (rs:=[6]) bB bJ ?_;refine aEf (i:=6) (d:=some 70) (R:=fun v w'=>v = .bool true∧Below w10.heap.size w10 w') rfl rfl rfl (fun K hK=>uY (by go_simp) (ca.mono fun e w' ⟨h1,h2⟩=>⟨_,h1,rfl,h2⟩) hK) (fun v w' ⟨_,h⟩=>⟨kY hS8.1 h,kY hS8.2 h⟩) ?_ AllReadyH.nil;rintro v w11 ⟨rfl,hb11⟩;have HB11:=cH (eB HB10.out hb11)
 have hH:w11.rangeAt w.heap.size 0 [.slice Al st.langs.length cl,.slice Ad st.dis.length cd,.slice Af st.fmts.length cf,.slice Ac st.cont.length cc]∧w11.rangeAt bk 0 C.toList:=⟨kY hS8.1 hb11,kY hS8.2 hb11⟩
 refine takeD (i:=7) (d:=some 6) (v:=.bool true) rfl rfl bB bB bB (fun _ _ _ h=>h) (.inl ⟨rfl,fun w' _=>by go_simp⟩) hH ?_;refine wpAnyH_done bB ?_ _;simp only[Act.put,List.setIfInBounds_toArray,List.set_cons_zero,List.set_cons_succ];go_wp2_with fail
 go_ret;exact ⟨rfl,HB11.out⟩
end
theorem lifted (os:Os) (started:os.Started) (H:Type) (enc:TypeId×Value→H) :
 ReturnsInHanded {} Tryz.checked os 14 .any (fun w args=>(Rows.fnUnnormalizedSameSpec.pre enc Tryz.prog Tryz.f14 Rows.fnUnnormalizedSameRow.domain false w args∧laidMetH Tryz.prog Rows.fnUnnormalizedSameRow.laid w)∧sizedMet enc Tryz.prog Tryz.f14 (OpenSpec.ofChange Rows.fnUnnormalizedSameSpec) false w args)
  (Rows.fnUnnormalizedSameSpec.post enc Tryz.prog Tryz.f14 false true false false):=by
 refine returnsInHanded_of_change_and (C:=Tryz.checked) (X:=fun w _=>laidMetH Tryz.prog Rows.fnUnnormalizedSameRow.laid w) (fun _ _ _ hh h=>h.of_heap hh) RowKit.own started bB Tryz.func14
  (ChangeSpec.witness_shaped (enc:=enc) (C:=Tryz.checked) (os:=os) (X:=fun w _=>laidMetH Tryz.prog Rows.fnUnnormalizedSameRow.laid w) false (World.laidAll Tryz.prog os Rows.fnUnnormalizedSameRow.laid) #[.agg #[.slice none 0 0,.slice none 0 0,.slice none 0 0,.slice none 0 0],.string ByteArray.empty,.string ByteArray.empty] 8 (World.laidAll_os _ _ _)
   (World.shaped_of_ZipB bB bB) bB bB bB
   bN) ?_
 intro W base args ds gs before hval0 hW _ _ _ _;have hval:∀ (j:Nat) t v,Tryz.f14.params[j]? = some t→args[j]? = some v→Value.okWide Tryz.prog W .any base t v:=hval0;have hW':=hW;obtain ⟨p,q,hA0,hV,rfl,_,_⟩:=hW;have hA:DataW.TrodAll enc Tryz.prog W 0 (fun _=>true) true Tryz.f14.params.toList args.toList ds p:=hA0;rw[Tryz.params14] at hA hval;obtain ⟨v0,vs0,d0,ds0,p0,q0,hargs,rfl,rfl,h0,r0⟩:=trodAll_cons hA;obtain ⟨v1,vs1,d1,ds1,p1,q1,rfl,rfl,rfl,h1,r1⟩:=trodAll_cons r0;obtain ⟨v2,vs2,d2,ds2,p2,q2,rfl,rfl,rfl,h2,r2⟩:=trodAll_cons r1;obtain ⟨rfl,rfl,rfl⟩:=trodAll_nil r2;obtain rfl:args = #[v0,v1,v2]:=by cases args;simp_all
 obtain ⟨rfl,rfl⟩:=trodVars_none hV;have k0:=h0;have lt0:∀ x∈p0,x.block < W.heap.size:=by obtain ⟨m,hm⟩:=k0;exact DataW.trod_lt m _ _ _ hm
 obtain ⟨st0,vl0,vd0,vf0,vc0,rfl,S0⟩:=SiteRow.open_site (hval 0 25 v0 rfl rfl) h0;obtain ⟨a1,rfl,rfl,rfl,y1⟩:=Go.ChangeMaps.open_string Tryz.underlying9 (hval 1 9 v1 rfl rfl) h1;obtain ⟨a2,rfl,rfl,rfl,y2⟩:=Go.ChangeMaps.open_string Tryz.underlying9 (hval 2 9 v2 rfl rfl) h2;clear hA0 hval0;refine (walk (w:=W) S0 a1 a2).mono fun e W' ⟨he,bel⟩=>?_;subst he;exact ⟨_,rfl,_,_,_,[],_,[],hW',trodAll_mk1 (shut_bool Tryz.underlying4 _),(trodAll_cons_mk (Below.trod SiteRow.laidOut bB (of_decide_eq_true bB) k0 bel lt0) (trodAll_cons_mk (Go.ChangeMaps.shut_string Tryz.underlying9 y1) (trodAll_cons_mk (Go.ChangeMaps.shut_string Tryz.underlying9 y2) trodAll_mk0))),rfl,bel.frame _,fun h=>by cases h⟩
theorem said:Rows.FnUnnormalizedSameSaid :=
 OpenClaim.holds_of_wide 14 Tryz.f14 rfl rfl rfl rfl rfl rfl rfl ⟨rfl,rfl,rfl,rfl,rfl⟩ rfl rfl rfl rfl rfl bB Tryz.func14 bB
  (of_decide_eq_true bB) bM
  (fun os started H enc _=>lifted os started H enc)
theorem plain (f:FuncId) (fn:Func) (hf:Tryz.pinned.checked.prog.funcNamed "pub-trackway/laws.FnUnnormalizedSame" = some f) (hfn:Tryz.pinned.checked.prog.funcs[f]? = some fn) :
 false=Tryz.pinned.checked.prog.looks []∧∀ (j:Nat) t,fn.params[j]? = some t→Tryz.pinned.checked.prog.wantsStandIn t=false:=by
 obtain rfl:f=14:=Option.some.inj ((show Tryz.prog.funcNamed "pub-trackway/laws.FnUnnormalizedSame" = some 14 by kernel_rfl).symm.trans hf) |>.symm
 obtain rfl:fn=Tryz.f14:=(Option.some.inj (Tryz.func14.symm.trans hfn)).symm;refine ⟨by kernel_rfl,fun j t ht=>?_⟩;rw[Tryz.params14] at ht;have hm:t∈[25,9,9]:=by simpa using Array.mem_of_getElem? ht
 have hall:([25,9,9].all fun u=>!Tryz.prog.wantsStandIn u)=true:=by kernel_rfl
 exact (show Tryz.prog.wantsStandIn t=false by simpa using List.all_eq_true.1 hall t hm)
theorem card:Rows.FnUnnormalizedSameCardSaid :=
 Claim7.holds_tied_plain_at .later [] _ _ _ _ said (fun _ h=>by cases h) bB (fun _ h=>by cases h) fnUnnormalizedSame_row_tie rfl ⟨rfl,rfl⟩ bB rfl plain bB
end Go.Proofs.YtcdgldnphhidlaaGreatDoor.fnUnnormalizedSame
namespace Go.Proofs.YtcdgldnphhidlaaGreatDoor
theorem fnUnnormalizedSame_card:Rows.FnUnnormalizedSameCardSaid:=fnUnnormalizedSame.card
#print axioms fnUnnormalizedSame_card
end Go.Proofs.YtcdgldnphhidlaaGreatDoor
