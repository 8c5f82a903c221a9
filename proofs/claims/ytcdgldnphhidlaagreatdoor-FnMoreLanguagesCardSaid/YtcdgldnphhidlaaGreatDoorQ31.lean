/- Texts that the law leans on: Wide, Known, AtSite, Again, Take2. Condition: as told at each. -/
import Derived.Test.YtcdgldnphhidlaaGreatDoorQa
import Derived.Test.YtcdgldnphhidlaaGreatDoorQ25
import Derived.Test.YtcdgldnphhidlaaGreatDoorQ30
set_option linter.unusedVariables false
set_option linter.unusedSimpArgs false
set_option maxRecDepth 100000
set_option maxHeartbeats 16000000
namespace Go.Proofs.YtcdgldnphhidlaaGreatDoor.Path
open Go.RowKit Go.ZW.PrintWords Go.Proofs.YtcdgldnphhidlaaGreatDoor.Base Go.Proofs.YtcdgldnphhidlaaGreatDoor.Total Go.Proofs.YtcdgldnphhidlaaGreatDoor.Lower Go.Proofs.YtcdgldnphhidlaaGreatDoor.PCore
structure aK5 (st:eW):Prop where
 l:st.langs.length≤4000000000
 d:st.dis.length≤4000000000
 f:st.fmts.length≤4000000000
 c:st.cont.length≤4000000000
 lz:∀ x∈st.langs,x.size≤4000000000
 dz:∀ x∈st.dis,x.size≤4000000000
 cz:∀ x∈st.cont,x.size≤4000000000
 fz:∀ x∈st.fmts,x.1.size≤4000000000∧x.2.size≤4000000000
theorem zE {l:List ByteArray} (h:fits2 l=true):l.length≤4000000000∧∀ x∈l,x.size≤4000000000:=by
 unfold fits2 MM at h;simp only[Bool.and_eq_true,decide_eq_true_eq,List.all_eq_true] at h;exact ⟨aM,fun x hx=>by have:=h.2 x hx;omega⟩
theorem tI {st:eW} (h:rB st=true):aK5 st:=by
 unfold rB Total.fits1 at h;simp only[Bool.and_eq_true] at h;obtain ⟨h1,h2,h3,h4⟩:=h;obtain ⟨a1,a2⟩:=zE h1;obtain ⟨b1,b2⟩:=zE h2;obtain ⟨d1,d2⟩:=zE h4;unfold fits3 MM at h3;simp only[Bool.and_eq_true,decide_eq_true_eq,List.all_eq_true] at h3;rw[List.length_map] at h3;refine ⟨a1,b1,aM,d1,a2,b2,d2,fun x hx=>?_⟩;have:=h3.2 (mkF x) (List.mem_map_of_mem hx);exact ⟨by have:=this.1;simp only[mkF] at this;omega,by have:=this.2;simp only[mkF] at this;omega⟩
open Go.RowKit Go.WideMaps Go.ZW.PrintWords Go.Proofs.YtcdgldnphhidlaaGreatDoor.Base Go.Proofs.YtcdgldnphhidlaaGreatDoor.Lower Go.Proofs.YtcdgldnphhidlaaGreatDoor.Total Go.Proofs.YtcdgldnphhidlaaGreatDoor.PCore
section
variable {w:World} {st:eW} {vl vd vf vc:Value}
theorem uZ (S:mM w st vl vd vf vc) (comp s:ByteArray) {b1 b2:Bool} (hcs:∀ w',Below w.heap.size w w'→Calls Tryz.prog 16 #[.agg #[vl,vd,vf,vc],.string comp,.string s] w' fun e w''=>e = .returned (.bool b1)∧Below w'.heap.size w' w'')
 (hk2:b1=true→∀ w',Below w.heap.size w w'→Calls Tryz.prog 38 #[.agg #[vl,vd,vf,vc],.string comp,.string s] w' fun e w''=>e = .returned (.bool b2)∧Below w'.heap.size w' w'') (hok:b1=true→b2=true→jF st∧asc s∧s.size≤400) :
 Calls Tryz.prog 29 #[.agg #[vl,vd,vf,vc],.string comp,.string s] w fun e w' =>
  ∃ t l1 l2 l3 v1 v2 v3,e = .returned (.tuple #[iH t v1 v2 v3,.bool (b1 && b2)])∧(eV w' w.heap.size v1 l1∧eV w' w.heap.size v2 l2∧eV w' w.heap.size v3 l3) ∧
   ((b1 && b2)=true→t=gL (gB (eJ st) comp (norm s))∧l1=jW (gB (eJ st) comp (norm s))∧l2=kB (gB (eJ st) comp (norm s))∧l3=lK (gB (eJ st) comp (norm s)))∧Below w.heap.size w w':=by
 have HSA:=cB S;have HCK:=cB hcs;have HOK:=cB hok;have HK2:=cB hk2;obtain ⟨Al,cl,rfl,_,_⟩:=S.l;obtain ⟨Ad,cd,rfl,_,_⟩:=S.d;obtain ⟨Af,cf,rfl,_,_⟩:=S.f;obtain ⟨Ac,cc,rfl,_,_⟩:=S.c;clear S hcs hok hk2;have hB1:Below w.heap.size w (w.alloc (.cells #[.slice Al st.langs.length cl,.slice Ad st.dis.length cd,.slice Af st.fmts.length cf,.slice Ac st.cont.length cc] 25)):=(Below.refl _ _).alloc (Nat.le_refl _) _;have hR1:=Row.new w [.slice Al st.langs.length cl,.slice Ad st.dis.length cd,.slice Af st.fmts.length cf,.slice Ac st.cont.length cc] 25;have hs1:w.heap.size < (w.alloc (.cells #[.slice Al st.langs.length cl,.slice Ad st.dis.length cd,.slice Af st.fmts.length cf,.slice Ac st.cont.length cc] 25)).heap.size:=by simp
 go_enter Tryz.func29,Tryz.ntmps29;go_upto_region 1 with fail
 obtain ⟨w1,hw1⟩:∃ w1,w.alloc (.cells #[.slice Al st.langs.length cl,.slice Ad st.dis.length cd,.slice Af st.fmts.length cf,.slice Ac st.cont.length cc] 25)=w1:=⟨_,rfl⟩
 have hz1:w1.heap.size=w.heap.size+1:=by rw[← hw1];simp
 rw[hw1] at hB1 hR1 hs1 ⊢;clear hw1;have hB2:Below w1.heap.size w1 (w1.alloc (.cells eZ.toArray 35)):=(Below.refl _ _).alloc (Nat.le_refl _) _;have hR2:Row (w1.alloc (.cells eZ.toArray 35)) w1.heap.size eZ:=Row.new w1 eZ _;rw[show eZ.toArray=TZ from rfl] at hB2 hR2
 obtain ⟨w2,hw2⟩:∃ w2,w1.alloc (.cells TZ 35)=w2:=⟨_,rfl⟩
 rw[hw2] at hB2 hR2;change Code.wp _ _ _ _ (w1.alloc (.cells TZ 35));rw[hw2];clear hw2;rw[hz1] at hR2;have hB:Below w.heap.size w w2:=hB1.trans (hB2.mono bA);have hRs:=hR1.below hB2 hs1;have HRS:=cB hRs;have r0:=hRs.at 0 _ rfl;have r1:=hRs.at 1 _ rfl;have r2:=hRs.at 2 _ rfl;have r3:=hRs.at 3 _ rfl;have HB:=cB hB;have HR2:=cB hR2;have hlt2:w.heap.size+1 < w2.heap.size:=hR2.lt bF;have cs:=HCK.out w2 hB;clear hB1 hR1 hs1 hB2 hR2 hB hRs hz1;go_wp2_with fail
 refine cs.mono ?_;rintro e w3 ⟨rfl,hb3⟩;have HB3:=cB hb3;clear cs r0 r1 r2 r3;have hRs:=HRS.out.below hb3 bA;have r0:=hRs.at 0 _ rfl;have r1:=hRs.at 1 _ rfl;have r2:=hRs.at 2 _ rfl;have r3:=hRs.at 3 _ rfl;clear hb3 hRs;have HRr:=cB (HR2.out.below HB3.out hlt2);cases b1
 ·go_upto_region 2 with fail
  clear r0 r1 r2 r3
  go_wp2_with (first | (refine kZ rfl _ _ rfl (w.heap.size+1) TZ rfl rfl HRr.out rfl rfl bB ?_) | fail)
  have hbel:Below w.heap.size w (w3.setCells (w.heap.size+1) 0 TZ.toList):=below_setCells (Nat.le_succ _) _ _ _ (HB.out.trans (HB3.out.mono HB.out.size));refine bodyPost_ret (rP Tryz.results29 rfl (uE HRr.out rfl rfl)) rfl ⟨aCq,[],[],[],.slice none 0 0,.slice none 0 0,.slice none 0 0,rfl,⟨eV.nil _ _ _ _,eV.nil _ _ _ _,eV.nil _ _ _ _⟩,(fun h=>by cases h),hbel⟩
 have cp:=HK2.out rfl w3 (HB.out.trans (HB3.out.mono HB.out.size));go_wp2_with fail
 refine cp.mono ?_;rintro e w4 ⟨rfl,hb4⟩;have HB4:=cB (eD HB3.out hb4);clear cp r0 r1 r2 r3;have hRs:=(HRS.out.below HB3.out bA).below hb4 (by have:=HB3.out.size;omega);have r0:=hRs.at 0 _ rfl;have r1:=hRs.at 1 _ rfl;have r2:=hRs.at 2 _ rfl;have r3:=hRs.at 3 _ rfl;clear hb4 hRs;have HRr:=cB (HR2.out.below HB4.out hlt2);cases b2
 ·go_upto_region 2 with fail
  clear r0 r1 r2 r3
  go_wp2_with (first | (refine kZ rfl _ _ rfl (w.heap.size+1) TZ rfl rfl HRr.out rfl rfl bB ?_) | fail)
  have hbel:Below w.heap.size w (w4.setCells (w.heap.size+1) 0 TZ.toList):=below_setCells (Nat.le_succ _) _ _ _ (HB.out.trans (HB4.out.mono HB.out.size));refine bodyPost_ret (rP Tryz.results29 rfl (uE HRr.out rfl rfl)) rfl ⟨aCq,[],[],[],.slice none 0 0,.slice none 0 0,.slice none 0 0,rfl,⟨eV.nil _ _ _ _,eV.nil _ _ _ _,eV.nil _ _ _ _⟩,(fun h=>by cases h),hbel⟩
 have hok:=HOK.out bM bM;have cP:=oP (HSA.out.toSiteIn.below (HB.out.trans (HB4.out.mono HB.out.size))) hok.1 comp s bA hok.2.1;clear hok;go_wp2_with fail
 refine cP.mono ?_;rintro e w5 ⟨v1,v2,v3,rfl,hT,hb5⟩;have HB5:=cB (eD HB4.out hb5);have hz4:w.heap.size+1 < w4.heap.size:=Nat.lt_of_lt_of_le hlt2 HB4.out.size;have HT:=cB hT;obtain ⟨A1,c1,e1,_⟩:=HT.out.1;obtain ⟨A2,c2,e2,_⟩:=HT.out.2.1;obtain ⟨A3,c3,e3,_⟩:=HT.out.2.2;have HR5:=cB (HRr.out.below hb5 hz4);clear cP hb5 r0 r1 r2 r3 hT HRr
 obtain ⟨C,hC⟩:∃ C:Array Value,nV (gL (gB (eJ st) comp (norm s))) v1 v2 v3=C:=⟨_,rfl⟩
 have hval:iH (gL (gB (eJ st) comp (norm s))) v1 v2 v3 = .agg C:=by rw[← hC];rfl
 have hCs:C.size=31:=by rw[← hC];rfl
 have hone:C.all (·.oneCell')=true:=by rw[← hC,e1,e2,e3];exact nZ _ _ _ _ _ _ _ _ _ _
 have HV:=cB hval;have HCS:=cB hCs;have HON:=cB hone;rw[hval];clear hval e1 e2 e3 hC hCs hone
 go_wp2_with (first | (refine kZ rfl _ _ rfl (w.heap.size+1) C rfl rfl HR5.out rfl HCS.out HON.out ?_) | fail)
 have hbel:Below w.heap.size w (w5.setCells (w.heap.size+1) 0 C.toList):=below_setCells (Nat.le_succ _) _ _ _ (HB.out.trans (HB5.out.mono HB.out.size));have hfar:∀ k,w4.heap.size≤k→(w5.setCells (w.heap.size+1) 0 C.toList).heap[k]? = w5.heap[k]?:=fun k hk=>hO _ _ k bA;have s1:=HT.out.1.far fun k hk _=>hfar k hk;have s2:=HT.out.2.1.far fun k hk _=>hfar k hk;have s3:=HT.out.2.2.far fun k hk _=>hfar k hk;have hzw:w.heap.size≤w4.heap.size:=by omega
 refine bodyPost_ret (rP Tryz.results29 rfl (uE HR5.out rfl HCS.out)) rfl ⟨_,_,_,_,v1,v2,v3,?_,⟨s1.mono hzw,s2.mono hzw,s3.mono hzw⟩,fun _=>⟨rfl,rfl,rfl,rfl⟩,hbel⟩;rw[HV.out];rfl
theorem aIl {a b:List ByteArray} {c:List S46} {d:List ByteArray} (K:uO a b c d):wt3 c≤1000:=by
 have h1:=K.lc
 have h2:∀ l:List S46,(∀ x∈l,lR x.f0∧lR x.f1)→wt3 l≤l.length * 41:=by
  intro l
  induction l with
  | nil=>intro _;simp[wt3]
  | cons x r ih =>
   intro h;have:=ih (fun y hy=>h y (List.mem_cons_of_mem _ hy));have h3:=(h x List.mem_cons_self).1.most;have h4:=(h x List.mem_cons_self).2.most;simp only[wt3,List.map_cons,List.sum_cons,List.length_cons] at *;omega
 have:=h2 c K.fmts;omega
theorem aJk (a b:List ByteArray) (c:List S46) (d:List ByteArray) (x y:ByteArray) (h:Total.fits1 a b c d=true) (hxy:x.size+y.size≤4611686018427387904) :
 PEv (fun r=>r=true→xJ a b c d x y=true∨¬ uO a b c d) (fun k=>gG.f k a b c d x y):=by
 by_cases hb:x.size+y.size+wt3 c≤9223372036854775807
 ·exact ⟨_,wN a b c d x y h hb,fun e=>.inl e⟩
 have hn:¬ uO a b c d:=fun K=>by have:=aIl K;omega
 have hh:=h;unfold Total.fits1 at hh;simp only[Bool.and_eq_true] at hh;obtain ⟨ha,hb',hc,hd⟩:=hh
 have hl:c.length≤MM:=by
  unfold fits3 at hc;simp only[Bool.and_eq_true,decide_eq_true_eq] at hc;exact hc.1
 unfold MM at hl
 have main:∀ (n j:Nat) (z:Int),c.length - j=n→j≤c.length→PEv (fun _=>True) (fun k=>gG.l0 k z c (c.length:Int) (j:Int) a b c d):=by
  have fin:∀ z:Int,PEv (fun _=>True) (fun k=>if z≤2000 then ((gO.f k a).bind fun t=>(if t=true then ((gO.f k b).bind fun t=>(if t=true then ((gO.f k d).bind fun t=>(some t)) else (some false))) else (some false))) else (some false)):=by
   intro z;refine PEv.ite (fun _=>?_) (fun _=>PEv.now trivial);refine PEv.bind (P:=fun _=>True) ⟨_,uF a ha,trivial⟩ (fun _ _=>?_);refine PEv.ite (fun _=>?_) (fun _=>PEv.now trivial);refine PEv.bind (P:=fun _=>True) ⟨_,uF b hb',trivial⟩ (fun _ _=>?_);refine PEv.ite (fun _=>?_) (fun _=>PEv.now trivial);exact PEv.bind (P:=fun _=>True) ⟨_,uF d hd,trivial⟩ (fun _ _=>PEv.now trivial)
  intro n
  induction n with
  | zero =>
   intro j z h1 h2;refine PEv.succ ?_;simp only[gG.l0];exact PEv.ite (fun h=>absurd h bA) (fun _=>fin z)
  | succ n ih =>
   intro j z h1 h2;have hj:j < c.length:=by omega
   refine PEv.succ ?_;simp only[gG.l0];refine PEv.ite (fun _=>?_) (fun h=>absurd bA h);refine PEv.ite (fun _=>?_) (fun h=>absurd bA h);refine PEv.ite (fun _=>?_) (fun h=>absurd bA h);rw[w64 (n:=(j:Int)+1) bA bA];exact ih (j+1) _ bA bA
 obtain ⟨r,hr,_⟩:=main c.length 0 (wrap64 ((x.size:Int)+(y.size:Int))) bA bA;exact ⟨r,Ev.congr (fun k=>by unfold gG.f;rfl) hr,fun _=>.inr hn⟩
theorem tX (S:mM w st vl vd vf vc) (hf:rB st=true) (comp s:ByteArray) (hcs:comp.size+s.size≤4611686018427387904) :
 ∃ ok:Bool,(ok=true→jF st∧asc s∧asc comp∧s.size≤400∧comp.size≤2000∧lF st comp s) ∧
 Calls Tryz.prog 29 #[.agg #[vl,vd,vf,vc],.string comp,.string s] w fun e w' =>
  ∃ t l1 l2 l3 v1 v2 v3,e = .returned (.tuple #[iH t v1 v2 v3,.bool ok])∧(eV w' w.heap.size v1 l1∧eV w' w.heap.size v2 l2∧eV w' w.heap.size v3 l3) ∧
   (ok=true→t=gL (gB (eJ st) comp (norm s))∧l1=jW (gB (eJ st) comp (norm s))∧l2=kB (gB (eJ st) comp (norm s))∧l3=lK (gB (eJ st) comp (norm s)))∧Below w.heap.size w w':=by
 have hfs:Total.fits1 st.langs st.dis (st.fmts.map mkF) st.cont=true:=hf;obtain ⟨b1,hr,hp⟩:=aJk st.langs st.dis (st.fmts.map mkF) st.cont comp s hfs hcs;obtain ⟨k,hk⟩:=hr.rounds
 have cs:∀ w',Below w.heap.size w w'→Calls Tryz.prog 16 #[.agg #[vl,vd,vf,vc],.string comp,.string s] w' fun e w''=>e = .returned (.bool b1)∧Below w'.heap.size w' w'':=by
  intro w' hb;have S':=S.below hb;obtain ⟨A0,c0,rfl,h0,r0⟩:=S'.l.kd S.ll;obtain ⟨A1,c1,rfl,h1,r1⟩:=S'.d.kd S.dl;obtain ⟨A2,c2,rfl,h2,r2⟩:=S'.f.kd S.fl;obtain ⟨A3,c3,rfl,h3,r3⟩:=S'.c.kd S.cl;exact gG.calls k A0 c0 _ A1 c1 _ A2 c2 _ A3 c3 _ comp s _ w' r0 h0 r1 h1 r2 h2 r3 h3 hk
 cases b1 with
 | false=>exact ⟨false && false,fun h=>(by cases h),uZ S comp s cs (fun h=>(by cases h)) (fun h=>(by cases h))⟩
 | true =>
  rcases hp rfl with h1 | h1
  ·obtain ⟨r,h2,h3⟩:=tM S comp s h1;have h4:=tA h1
   exact ⟨true && r,fun h=>by
    have h5:=h2 (by simpa using h)
    exact ⟨h4.1,h5.1,h5.2.1,h5.2.2.1,h4.2.1,h5.2.2.2⟩,uZ S comp s cs (fun _=>h3) (fun _ e=>⟨h4.1,(h2 e).1,(h2 e).2.2.1⟩)⟩
  have W:=tI hf;have lf:(st.fmts.map mkF).length≤4000000000:=by rw[List.length_map];exact W.f
  obtain ⟨r,hr2,e⟩:=aD0 st.langs st.dis (st.fmts.map mkF) st.cont comp s W.l W.d lf W.c W.lz W.dz (fun x hx=>by
   obtain ⟨y,hy,rfl⟩:=List.mem_map.1 hx
   exact W.fz y hy) W.cz h1
  subst e;obtain ⟨k2,hk2⟩:=hr2.rounds;refine ⟨true && false,fun h=>(by cases h),uZ S comp s cs (fun _ w' hb=>?_) (fun _ h=>(by cases h))⟩;have S':=S.below hb;obtain ⟨A0,c0,rfl,g0,r0⟩:=S'.l.kd S.ll;obtain ⟨A1,c1,rfl,g1,r1⟩:=S'.d.kd S.dl;obtain ⟨A2,c2,rfl,g2,r2⟩:=S'.f.kd S.fl;obtain ⟨A3,c3,rfl,g3,r3⟩:=S'.c.kd S.cl;exact iS.calls k2 A0 c0 _ A1 c1 _ A2 c2 _ A3 c3 _ comp s _ w' r0 g0 r1 g1 r2 g2 r3 g3 hk2
end
open Go.RowKit Go.WideMaps Go.ZW.PrintWords Go.Proofs.YtcdgldnphhidlaaGreatDoor.Base Go.Proofs.YtcdgldnphhidlaaGreatDoor.Lower Go.Proofs.YtcdgldnphhidlaaGreatDoor.Total Go.Proofs.YtcdgldnphhidlaaGreatDoor.Ext Go.Proofs.YtcdgldnphhidlaaGreatDoor.PCore
structure mN (st:eW):Prop where
 l:st.langs.length≤1000000
 d:st.dis.length≤1000000
 f:st.fmts.length≤1000000
 c:st.cont.length≤1000000
 lz:∀ x∈st.langs,x.size≤4000000000
 dz:∀ x∈st.dis,x.size≤4000000000
 fz:∀ x∈st.fmts,x.1.size≤4000000000∧x.2.size≤4000000000
 cz:∀ x∈st.cont,x.size≤4000000000
theorem lF.few {st:eW} {comp s:ByteArray} (K:lF st comp s):mN st:=by
 have k:=K.site;have l1:=k.la;have l2:=k.lb;have l3:=k.lc;have l4:=k.ld;rw[List.length_map] at l3
 exact ⟨aM,aM,aM,aM,fun x hx=>Nat.le_trans (k.langs x hx).most bA,fun x hx=>Nat.le_trans (k.dis x hx).most bA,
  fun x hx=>⟨Nat.le_trans (k.fmts (mkF x) (List.mem_map_of_mem hx)).1.most bA,Nat.le_trans (k.fmts (mkF x) (List.mem_map_of_mem hx)).2.most bA⟩,fun x hx=>Nat.le_trans (k.cont x hx).most bA⟩
section
variable {w:World} {st:eW} {vl vd vf vc:Value}
theorem pG (S:SiteIn w st vl vd vf vc) (F:mN st) (comp s:ByteArray) (hc:comp.size≤900000) (hs:s.size≤900000):∃ r:Bool,(r=true→asc s∧asc comp∧s.size≤400∧lF st comp s)∧∀ w',Below w.heap.size w w'→Calls Tryz.prog 38 #[.agg #[vl,vd,vf,vc],.string comp,.string s] w' fun e w''=>e = .returned (.bool r)∧Below w'.heap.size w' w'':=by
 have l1:=F.l;have l2:=F.d;have l3:=F.f;have l4:=F.c
 obtain ⟨r,hr,hp⟩:=xN st.langs st.dis (st.fmts.map mkF) st.cont comp s bA bA (by rw[List.length_map];omega) bA F.lz F.dz (fun x hx=>by
  obtain ⟨y,hy,rfl⟩:=List.mem_map.1 hx
  exact F.fz y hy) F.cz hc hs
 obtain ⟨k,hk⟩:=hr.rounds;refine ⟨r,fun e=>⟨zW (hp e).ascY,zW (hp e).ascX,(hp e).most,hp e⟩,fun w' hb=>?_⟩;have S':=S.below hb;obtain ⟨A0,c0,rfl,g0,r0⟩:=S'.l.kd bA;obtain ⟨A1,c1,rfl,g1,r1⟩:=S'.d.kd bA;obtain ⟨A2,c2,rfl,g2,r2⟩:=S'.f.kd bA;obtain ⟨A3,c3,rfl,g3,r3⟩:=S'.c.kd bA;exact iS.calls k A0 c0 _ A1 c1 _ A2 c2 _ A3 c3 _ comp s _ w' r0 g0 r1 g1 r2 g2 r3 g3 hk
theorem qI {st' : eW} (S:SiteIn w st' vl vd vf vc) (OS:jF st') {comp s:ByteArray} (K:lF st comp s) (K' : lF st' comp s) (A:Agree st st' (lastB (pathOf s false))) (hs:s.size≤900000) (ha:asc s) :
 Calls Tryz.prog 40 #[.agg #[vl,vd,vf,vc],.string comp,.string s] w fun e w' =>
  ∃ v1 v2 v3,e = .returned (iH (gL (gB (eJ st) comp (norm s))) v1 v2 v3)∧Told w' w.heap.size (gB (eJ st) comp (norm s)) v1 v2 v3∧Below w.heap.size w w':=by
 have e:=aHb K K' A;refine (oP S OS comp s hs ha).mono ?_;rintro x w' ⟨v1,v2,v3,rfl,hT,hb⟩;refine ⟨v1,v2,v3,by rw[e],?_,hb⟩;have h1:jW (gB (eJ st') comp (norm s))=jW (gB (eJ st) comp (norm s)):=congrArg gK.langs e;have h2:kB (gB (eJ st') comp (norm s))=kB (gB (eJ st) comp (norm s)):=congrArg gK.ids e;have h3:lK (gB (eJ st') comp (norm s))=lK (gB (eJ st) comp (norm s)):=congrArg gK.unk e;unfold Told at hT ⊢;rw[h1,h2,h3] at hT;exact hT
end
theorem mN.langs {st:eW} (F:mN st) {word:ByteArray} (hz:word.size≤4000000000) (h:st.langs.length≤999999):mN { st with langs:=st.langs++[word] } :=
 ⟨by simp;omega,F.d,F.f,F.c,fun x hx=>(List.mem_append.1 hx).elim (F.lz x) (fun h=>by rw[List.mem_singleton.1 h];exact hz),F.dz,F.fz,F.cz⟩
theorem mN.dis {st:eW} (F:mN st) {word:ByteArray} (hz:word.size≤4000000000) (h:st.dis.length≤999999):mN { st with dis:=st.dis++[word] } :=
 ⟨F.l,by simp;omega,F.f,F.c,F.lz,fun x hx=>(List.mem_append.1 hx).elim (F.dz x) (fun h=>by rw[List.mem_singleton.1 h];exact hz),F.fz,F.cz⟩
theorem mN.cont {st:eW} (F:mN st) {word:ByteArray} (hz:word.size≤4000000000) (h:st.cont.length≤999999):mN { st with cont:=st.cont++[word] } :=
 ⟨F.l,F.d,F.f,by simp;omega,F.lz,F.dz,F.fz,fun x hx=>(List.mem_append.1 hx).elim (F.cz x) (fun h=>by rw[List.mem_singleton.1 h];exact hz)⟩
theorem mN.none {st:eW} (F:mN st):mN { st with langs:=[],dis:=[] }:=⟨Nat.zero_le _,Nat.zero_le _,F.f,F.c,(fun x hx=>by cases hx),(fun x hx=>by cases hx),F.fz,F.cz⟩
theorem lF.siteOk {st:eW} {comp s:ByteArray} (K:lF st comp s):jF st:=by
 have k:=K.site;have l1:=k.la;have l2:=k.lb;have l3:=k.lc;have l4:=k.ld;rw[List.length_map] at l3;exact ⟨aM,aM,aM,aM,fun x hx=>Nat.le_trans (k.langs x hx).most bA⟩
theorem aDs (s:ByteArray):low (norm s)=norm s:=by
 refine L_inj ?_;rw[oO,wD,List.map_map];exact List.map_congr_left fun c _=>aDo c
theorem vM {s word:ByteArray} (hw:lR word) (h:inside (L (low (norm word))) (L (low (norm s)))=false):inside (L word) (L (norm s))=false:=by
 rw[aDs,aDs,lR.norm hw] at h;exact h
section
variable {w:World} {st:eW} {vl vd vf vc:Value}
theorem uQ {p:eH} (I:PathIn p) (hne:((nrm p.trim p.s).toList==[])=false) {v1 v2 v3 u1 u2 u3:Value} (T1:Told w 0 p v1 v2 v3) (T2:Told w 0 p u1 u2 u3) :
 Calls Tryz.prog 39 #[iH (gL p) v1 v2 v3,iH (gL p) u1 u2 u3] w fun e w'=>e = .returned (.bool true)∧Below w.heap.size w w':=by
 obtain ⟨S1,S2,S3⟩:=T1;obtain ⟨U1,U2,U3⟩:=T2;have l1:(jW p).length≤1000000:=by unfold jW;rw[List.length_map];exact I.ll
 have l2:(kB p).length≤1000000:=by unfold kB;rw[List.length_map];exact I.kl
 have l3:(lK p).length≤1000000:=by unfold lK;rw[List.length_map];exact I.ul
 obtain ⟨a1,c1,rfl,_⟩:=id S1;obtain ⟨a2,c2,rfl,_⟩:=id S2;obtain ⟨a3,c3,rfl,_⟩:=id S3;obtain ⟨b1,d1,rfl,_⟩:=id U1;obtain ⟨b2,d2,rfl,_⟩:=id U2;obtain ⟨b3,d3,rfl,_⟩:=id U3
 exact yI (f0:=(gL p).component) (f1:=(gL p).container) (f2:=(gL p).containerDir) (f3:=(gL p).section_) (f4:=(gL p).name) (f5:=(gL p).nameNoExt) (f6:=(gL p).baseName) (f7:=(gL p).nameNoId) (f8:=(gL p).dir) (f9:=(gL p).path) (f10:=(gL p).pathNoLang) (f11:=(gL p).pathNoId) (f12:=(gL p).pathBefore) (f13:=(gL p).base) (f14:=(gL p).idBase) (f15:=(gL p).ext) (f16:=(gL p).fmt) (f17:=(gL p).kind) (f18:=(gL p).layout) (f19:=(gL p).lang) (f20:=(gL p).custom) (f24:=(gL p).disabled) (f25:=(gL p).isContent) (f26:=(gL p).isBundle) (f27:=(gL p).isBranch) (f28:=(gL p).isLeaf) (f29:=(gL p).isData) (f30:=(gL p).typ) hne l1 l2 l3 S1 S2 S3 U1 U2 U3
end
open Go.RowKit Go.WideMaps Go.ZW.PrintWords Go.Proofs.YtcdgldnphhidlaaGreatDoor.Base Go.Proofs.YtcdgldnphhidlaaGreatDoor.Lower
section
variable {P:Program} {md:Region.Mode} {ops:Array Oper} {Q:Exit→Act→World→Prop} {S:World→Prop} {fuel:Nat} {listed:Array Bool} {a:Act} {w:World}
theorem xW {i:Nat} {o:Oper} {d:Option Tmp} {R:Value→World→Prop} {rs:List Nat} (ho:ops[i]? = some o) (hd:o.dst=d) (hw:Region.wanted o (yielded ops a.tmps)=true)
 (step:∀ K:Act→World→Prop,(∀ v w',R v w'→K (a.put o.dst v) w')→Oper.wp P o a w K Q) (hS:∀ v w',R v w'→S w')
 (h:∀ v w',R v w'→wpAnyH P md ops Q S fuel (listed.setIfInBounds i true) (a.put d v) w')
 (more:AllReadyH P md ops Q S fuel listed a w rs):AllReadyH P md ops Q S fuel listed a w (i::rs):=by
 subst hd;refine AllReadyH.cons ho (fun K hK=>?_) more;rw[if_pos hw];exact step K (fun v w' hr=>hK.out _ _ (hS v w' hr) (fun _=>h v w' hr))
theorem pZ {o:Oper} {K:Act→World→Prop} {f:FuncId} {args:Array Value} {R:Value→World→Prop} (hx:(execOp a.eval o).run P w = .ok (.enter f args) w)
 (hc:Calls P f args w fun e w'=>∃ v,e = .returned v∧R v w') (hK:∀ v w',R v w'→K (a.put o.dst v) w'):Oper.wp P o a w K Q:=by
 unfold Oper.wp;rw[hx];show Calls P f args w _;refine hc.mono ?_;rintro e w' ⟨v,rfl,hr⟩;exact hK v w' hr
end
end Go.Proofs.YtcdgldnphhidlaaGreatDoor.Path
