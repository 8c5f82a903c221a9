/- Texts that the law leans on: ViewU, Take. Condition: as told at each. -/
import Derived.Test.YtcdgldnphhidlaaGreatDoorVa
import Derived.Test.YtcdgldnphhidlaaGreatDoorV21
set_option linter.unusedVariables false
set_option linter.unusedSimpArgs false
set_option maxRecDepth 100000
set_option maxHeartbeats 16000000
namespace Go.Proofs.YtcdgldnphhidlaaGreatDoor.Path
open Go.RowKit Go.WideMaps Go.ZW.PrintWords Go.Proofs.YtcdgldnphhidlaaGreatDoor.Base Go.Proofs.YtcdgldnphhidlaaGreatDoor.Lower
section
variable {w:World} {B b ub:Nat} {p:eJ} {vk vu vl u:Value}
theorem wB (H:eM w B b p vk vu vl (.pointer (some ⟨ub,0,none⟩))):Calls Tryz.prog 70 #[.pointer (some ⟨b,0,none⟩)] w fun e w'=>e = .returned (.pointer (some ⟨ub,0,none⟩))∧w'=w:=by
 have h:=H.row.at 25 _ rfl;clear H;go_enter Tryz.func70,Tryz.ntmps70;go_wp2_with fail
 go_ret;exact ⟨rfl,rfl⟩
end
section
variable {w:World} {st:fD} {vl vd vf vc:Value}
theorem sY (S:SiteIn w st vl vd vf vc) (OS:jM st) (comp s:ByteArray) (hs:s.size≤900000) (ha:asc s) :
 Calls Tryz.prog 46 #[.agg #[vl,vd,vf,vc],.string comp,.string s] w fun e w' =>
  ∃ v1 v2 v3,e = .returned (iB (gQ (fL (eI st) comp s)) v1 v2 v3)∧Told w' w.heap.size (fL (eI st) comp s) v1 v2 v3∧Below w.heap.size w w':=by
 have HSI:=cH S;have hok:=nP (eI st) comp s hs;have HOK:=cH hok;have HA:=cH ha;obtain ⟨Al,cl,rfl,_,_⟩:=S.l;obtain ⟨Ad,cd,rfl,_,_⟩:=S.d;obtain ⟨Af,cf,rfl,_,_⟩:=S.f;obtain ⟨Ac,cc,rfl,_,_⟩:=S.c;clear S hok ha;have hB1:Below w.heap.size w (w.alloc (.cells #[.slice Al st.langs.length cl,.slice Ad st.dis.length cd,.slice Af st.fmts.length cf,.slice Ac st.cont.length cc] 25)):=(Below.refl _ _).alloc (Nat.le_refl _) _;have hR1:=Row.new w [.slice Al st.langs.length cl,.slice Ad st.dis.length cd,.slice Af st.fmts.length cf,.slice Ac st.cont.length cc] 25;have hs1:w.heap.size < (w.alloc (.cells #[.slice Al st.langs.length cl,.slice Ad st.dis.length cd,.slice Af st.fmts.length cf,.slice Ac st.cont.length cc] 25)).heap.size:=by simp
 go_enter Tryz.func46,Tryz.ntmps46;go_upto_region 1 with fail
 obtain ⟨w1,hw1⟩:∃ w1,w.alloc (.cells #[.slice Al st.langs.length cl,.slice Ad st.dis.length cd,.slice Af st.fmts.length cf,.slice Ac st.cont.length cc] 25)=w1:=⟨_,rfl⟩
 have hz1:w1.heap.size=w.heap.size+1:=by rw[← hw1];simp
 rw[hw1] at hB1 hR1 hs1 ⊢;clear hw1;have hB2:Below w1.heap.size w1 (w1.alloc (.cells fY.toArray 35)):=(Below.refl _ _).alloc (Nat.le_refl _) _;have hR2:Row (w1.alloc (.cells fY.toArray 35)) w1.heap.size fY:=Row.new w1 fY _;rw[show fY.toArray=TZ from rfl] at hB2 hR2
 obtain ⟨w2,hw2⟩:∃ w2,w1.alloc (.cells TZ 35)=w2:=⟨_,rfl⟩
 rw[hw2] at hB2 hR2;change Code.wp _ _ _ _ (w1.alloc (.cells TZ 35));rw[hw2];clear hw2;rw[hz1] at hR2;have hB:Below w.heap.size w w2:=hB1.trans (hB2.mono bA);have hRs:=hR1.below hB2 hs1;have r0:=hRs.at 0 _ rfl;have r1:=hRs.at 1 _ rfl;have r2:=hRs.at 2 _ rfl;have r3:=hRs.at 3 _ rfl;have HB:=cH hB;have HR2:=cH hR2;have hlt2:w.heap.size+1 < w2.heap.size:=hR2.lt bH;have cp:=vO (HSI.out.l.below hB) (HSI.out.d.below hB) (HSI.out.f.below hB) (HSI.out.c.below hB) OS;clear hB1 hR1 hs1 hB2 hR2 hB hRs hz1;go_wp2_with fail
 refine cp.mono ?_;rintro e w3 ⟨pb,mb,sb,fb,rfl,hS,hb3⟩;have cP:=wQ hS OS comp s hs HA.out;have HB3:=cH hb3;clear cp hS hb3 r0 r1 r2 r3;go_wp2_with fail
 refine cP.mono ?_;rintro e w4 ⟨b,ub,vk,vu,vl,rfl,hp,hb4⟩;have cu:=wB hp.1;obtain ⟨vk2,vu2,vl2,u2,hp2⟩:=hp.2;have HP2:=cH hp2;have HB4:=cH (eB HB3.out hb4);clear cP hp hb4 hp2;go_wp2_with fail
 refine cu.mono ?_;rintro e w9 ⟨rfl,hw9⟩;obtain rfl:w4=w9:=hw9.symm;have ct:=zC HP2.out HOK.out.1 HOK.out.2.1 HOK.out.2.2;clear cu;go_wp2_with fail
 refine ct.mono ?_;rintro e w5 ⟨v1,v2,v3,rfl,hs1,hs2,hs3,hb5⟩;have HB5:=cH (eB HB4.out hb5);have hz5:=HB4.out.size;have S1:=cH hs1;have S2:=cH hs2;have S3:=cH hs3;obtain ⟨A1,c1,e1,_⟩:=S1.out;obtain ⟨A2,c2,e2,_⟩:=S2.out;obtain ⟨A3,c3,e3,_⟩:=S3.out;clear ct hb5 hs1 hs2 hs3
 obtain ⟨C,hC⟩:∃ C:Array Value,oY (gQ (fL (eI st) comp s)) v1 v2 v3=C:=⟨_,rfl⟩
 have hval:iB (gQ (fL (eI st) comp s)) v1 v2 v3 = .agg C:=by rw[← hC];rfl
 have hCs:C.size=31:=by rw[← hC];rfl
 have hl:C.toList.length=31:=by simpa using hCs
 have hone:C.all (·.oneCell')=true:=by rw[← hC,e1,e2,e3];exact mF _ _ _ _ _ _ _ _ _ _
 have HV:=cH hval;rw[hval];clear hval e1 e2 e3;have HC:=cH hC;have hRf:=HR2.out.below HB5.out hlt2;have ht:World.there _ (w.heap.size+1) 0 31:=hRf.there
 dsimp only
 refine (show ∀ (a:Act) (w:World),wpList _ _ _ _ a w→_ from by assumption) _ _ ?_;refine wpList_store_mid rfl 35 _ _ rfl (w.heap.size+1) 0 C rfl rfl (by rw[hCs];exact ht) (by rw[hCs];kernel_rfl) hone ?_;have hr:=World.rangeAt_setCells_same _ (w.heap.size+1) 0 C.toList (by rw[hl];exact ht);have hld:=run_loadVar_mid (P:=Tryz.prog) _ (w.heap.size+1) 0 35 C.toList _ hr Tryz.underlying35 rfl (by rw[hl];kernel_rfl);have hfar:∀ k,k≠w.heap.size+1→(w5.setCells (w.heap.size+1) 0 C.toList).heap[k]? = w5.heap[k]?:=fun k hk=>hZ _ _ k hk;have hbel:Below w.heap.size w (w5.setCells (w.heap.size+1) 0 C.toList):=below_setCells (Nat.le_succ _) _ _ _ (HB.out.trans (HB5.out.mono HB.out.size))
 obtain ⟨W,hW⟩:∃ W,w5.setCells (w.heap.size+1) 0 C.toList=W:=⟨_,rfl⟩
 rw[hW] at hld hbel hfar ⊢;have s1:=cH (S1.out.far fun k hk _=>hfar k bA);have s2:=cH (S2.out.far fun k hk _=>hfar k bA);have s3:=cH (S3.out.far fun k hk _=>hfar k bA);have HBel:=cH hbel;have hz4:w.heap.size≤w4.heap.size:=by omega
 clear hbel hfar hW hr hone hl hCs ht hRf S1 S2 S3;go_wp2_with fail
 refine bodyPost_ret (v:=.agg C) (sI Tryz.results46 rfl (by simpa using hld)) rfl ⟨v1,v2,v3,?_,⟨s1.out.mono hz4,s2.out.mono hz4,s3.out.mono hz4⟩,HBel.out⟩;rw[HV.out]
end
section
variable {P:Program} {md:Region.Mode} {ops:Array Oper} {Q:Exit→Act→World→Prop} {S:World→Prop} {fuel:Nat} {listed:Array Bool} {a:Act} {w:World}
theorem takeD {i:Nat} {oi:Oper} {d:Option Tmp} {v:Value} (hi:ops[i]? = some oi) (hd:oi.dst=d)
 (hs:Region.noSelect ops=true) (hf:Region.free md ops listed i=true) (hr:(Region.ready md ops listed).contains i=true)
 (hQ:∀ c a w,Q (.panic c) (a.put d v) w→Q (.panic c) a w) (hy:YieldsIf P ops S oi v a) (hS:S w)
 (h:wpAnyH P md ops Q S fuel (listed.setIfInBounds i true) (a.put d v) w):wpAnyH P md ops Q S (fuel+1) listed a w:=by
 subst hd;exact wpAnyH_take hi hs hf hr hQ hy hS h
theorem sN {i:Nat} {o:Oper} {d:Option Tmp} {v:Value} {w' : World} {rs:List Nat} (ho:ops[i]? = some o) (hd:o.dst=d) (hw:Region.wanted o (yielded ops a.tmps)=true)
 (step:∀ K:Act→World→Prop,K (a.put o.dst v) w'→Oper.wp P o a w K Q) (hS:S w')
 (h:wpAnyH P md ops Q S fuel (listed.setIfInBounds i true) (a.put d v) w')
 (more:AllReadyH P md ops Q S fuel listed a w rs):AllReadyH P md ops Q S fuel listed a w (i::rs):=by
 subst hd;refine AllReadyH.cons ho (fun K hK=>?_) more;rw[if_pos hw];exact step K (hK.out _ _ hS (fun _=>h))
end
section
variable {w:World} {o:Oper} {a:Act} {K:Act→World→Prop} {Q:Exit→Act→World→Prop}
theorem rK (hop:o.op = .alloc 35) (h:K (a.put o.dst (.pointer (some ⟨w.heap.size,0,none⟩))) (w.alloc (.cells TZ 35))):Oper.wp Tryz.prog o a w K Q:=by
 unfold Oper.wp execOp;simp only[hop];go_simp;exact h
end
theorem aCr (w:World):(w.alloc (.cells TZ 35)).there w.heap.size 0 31:=(Row.new w fY _).there
theorem Row.range {w:World} {b:Nat} {cs:List Value} (H:Row w b cs):w.rangeAt b 0 cs:=by
 intro j v hv;rw[Nat.zero_add];obtain ⟨hj,e⟩:=List.getElem?_eq_some_iff.1 hv;rw[(H j hj).1,e]
theorem there_alloc {w:World} {b n:Nat} (h:w.there b 0 n) (o:Obj) (hb:b < w.heap.size):(w.alloc o).there b 0 n:=by
 intro j hj;have hh:(w.alloc o).heap[b]? = w.heap[b]?:=Below.heap_alloc w o b hb;obtain ⟨h1,h2⟩:=h j hj;exact ⟨by rw[World.cell?_of_block (a:=⟨b,0+j,none⟩) hh];exact h1,by rw[World.frozen?_of_block (a:=⟨b,0+j,none⟩) hh];exact h2⟩
theorem sS {w w' : World} {b n:Nat} (h:w.there b 0 n) (hh:w'.heap[b]? = w.heap[b]?):w'.there b 0 n:=by
 intro j hj;obtain ⟨h1,h2⟩:=h j hj;exact ⟨by rw[World.cell?_of_block (a:=⟨b,0+j,none⟩) hh];exact h1,by rw[World.frozen?_of_block (a:=⟨b,0+j,none⟩) hh];exact h2⟩
theorem sR {w w' : World} {b:Nat} {cs:List Value} (h:w.rangeAt b 0 cs) (hh:w'.heap[b]? = w.heap[b]?):w'.rangeAt b 0 cs:=by
 intro j v hv;rw[World.cell?_of_block (a:=⟨b,0+j,none⟩) hh];exact h j v hv
end Go.Proofs.YtcdgldnphhidlaaGreatDoor.Path
