/- Texts that the law leans on: Known, LawKit, Keep, Keep2, Cuts, First, Begins, Holds. Condition: as told at each. -/
import Derived.Test.YtjlaamcklhdhaaaGreatDoorQ19
set_option linter.unusedSimpArgs false
set_option linter.unusedVariables false
namespace Go.Proofs.YtjlaamcklhdhaaaGreatDoor.Path
open Go.RowKit Go.WideMaps Go.Proofs.YtjlaamcklhdhaaaGreatDoorW.PrintWords Go.Proofs.YtjlaamcklhdhaaaGreatDoor.Base Go.Proofs.YtjlaamcklhdhaaaGreatDoor.Lower Go.Proofs.YtjlaamcklhdhaaaGreatDoor.Total Go.Proofs.YtjlaamcklhdhaaaGreatDoor.PCore
theorem results_cell2 {P:Program} {fn:Func} {tmps:Array Value} {a u:Nat} {t:TypeId} {v:Value} {w:World} {x:Addr} (hf:fn.results = #[.cell a t,.tmp u]) (ha:tmps.getD a undef = .pointer (some x)) (hl:(loadVar t x).run P w = .ok v w) :
 (results fn tmps).run P w = .ok (.tuple #[v,tmps.getD u undef]) w:=by
 unfold results;rw[hf];have ha' : tmps[a]?.getD undef = .pointer (some x):=by simpa using ha
 simp[Sem.run_bind,ha',hl,asAddr]
theorem told_store {ops:Array Oper} {rest:List Oper} {op:Oper} {a:Act} {w:World} {Q:Exit→Act→World→Prop} (hgd:op.guard=none) (x y:Operand) (ho:op.op = .store 28 x y) (b:Nat) (C:Array Value)
 (hx:a.eval x = .pointer (some ⟨b,0,none⟩)) (hy:a.eval y = .agg C) {cs:List Value} (hR:Row w b cs) (hcs:cs.length=31) (hC:C.size=31) (hone:C.all (·.oneCell')=true) (h:wpList Tryz.prog ops Q rest (a.put op.dst undef) (w.setCells b 0 C.toList)) :
 wpList Tryz.prog ops Q (op::rest) a w:=by
 have ht:w.there b 0 31:=hcs▸hR.there;exact wpList_store_mid hgd 28 x y ho b 0 C hx hy (by rw[hC];exact ht) (by rw[hC];kernel_rfl) hone h
theorem told_stored {w:World} {b:Nat} {C:Array Value} {cs:List Value} (hR:Row w b cs) (hcs:cs.length=31) (hC:C.size=31):(loadVar 28 ⟨b,0,none⟩).run Tryz.prog (w.setCells b 0 C.toList) = .ok (.agg C) (w.setCells b 0 C.toList):=by
 have ht:w.there b 0 31:=hcs▸hR.there;have hl:C.toList.length=31:=by simpa using hC
 have hr:=World.rangeAt_setCells_same w b 0 C.toList (by rw[hl];exact ht);have hld:=run_loadVar_mid (P:=Tryz.prog) _ b 0 28 C.toList _ hr Tryz.underlying28 rfl (by rw[hl];kernel_rfl)
 simpa using hld
def tZero:ToldV:=⟨⟨#[]⟩,⟨#[]⟩,⟨#[]⟩,⟨#[]⟩,⟨#[]⟩,⟨#[]⟩,⟨#[]⟩,⟨#[]⟩,⟨#[]⟩,⟨#[]⟩,⟨#[]⟩,⟨#[]⟩,⟨#[]⟩,⟨#[]⟩,⟨#[]⟩,⟨#[]⟩,⟨#[]⟩,⟨#[]⟩,⟨#[]⟩,⟨#[]⟩,⟨#[]⟩,[],[],[],false,false,false,false,false,false,0⟩
section
variable {w:World} {st:SiteV} {vl vd vf vc:Value}
set_option maxRecDepth 100000 in
set_option maxHeartbeats 4000000 in
theorem known_calls (S:SiteArg w st vl vd vf vc) (hf:fitsS st=true) (comp s:ByteArray) (hc:comp.size≤MM) (hs:s.size≤MM) :
 ∃ ok:Bool,(ok=true→SiteOk st∧asc s∧asc comp∧s.size≤400∧comp.size≤2000∧PathKS st comp s) ∧
 Calls Tryz.prog 16 #[.agg #[vl,vd,vf,vc],.string comp,.string s] w fun e w' =>
  ∃ t l1 l2 l3 v1 v2 v3,e = .returned (.tuple #[toldVal t v1 v2 v3,.bool ok])∧(StrRow w' w.heap.size v1 l1∧StrRow w' w.heap.size v2 l2∧StrRow w' w.heap.size v3 l3) ∧
   (ok=true→t=mTold (mPath (envOf st) comp (norm s))∧l1=mLangs (mPath (envOf st) comp (norm s))∧l2=mIds (mPath (envOf st) comp (norm s))∧l3=mUnk (mPath (envOf st) comp (norm s)))∧Below w.heap.size w w':=by
 obtain ⟨b1,hb1⟩:∃ b1,shortS st comp s=b1:=⟨_,rfl⟩
 obtain ⟨b2,hb2,hk2⟩:∃ b2:Bool,(b1=true→b2=true→asc s∧asc comp∧s.size≤400∧PathKS st comp s)∧(b1=true→∀ w',Below w.heap.size w w'→Calls Tryz.prog 21 #[.agg #[vl,vd,vf,vc],.string comp,.string s] w' fun e w''=>e = .returned (.bool b2)∧Below w'.heap.size w' w''):=by
  cases b1 with
  | false=>exact ⟨false,fun h=>(by cases h),fun h=>(by cases h)⟩
  | true =>
   obtain ⟨r,h1,h2⟩:=pathKnown_calls S comp s hb1;exact ⟨r,fun _=>h1,fun _=>h2⟩
 refine ⟨b1 && b2,fun h=>?_,?_⟩
 ·simp only[Bool.and_eq_true] at h;obtain ⟨h1,h2⟩:=h;rw[h1] at hb1;have h3:=short_in hb1;have h4:=hb2 h1 h2;exact ⟨h3.1,h4.1,h4.2.1,h4.2.2.1,h3.2.1,h4.2.2.2⟩
 have HSA:=Aside0.mk S;have HB1:=Aside0.mk hb1;have HB2:=Aside0.mk hb2;have HK2:=Aside0.mk hk2;obtain ⟨Al,cl,rfl,_,_⟩:=S.l;obtain ⟨Ad,cd,rfl,_,_⟩:=S.d;obtain ⟨Af,cf,rfl,_,_⟩:=S.f;obtain ⟨Ac,cc,rfl,_,_⟩:=S.c;clear S hb1 hb2 hk2;have hB1:Below w.heap.size w (w.alloc (.cells #[.slice Al st.langs.length cl,.slice Ad st.dis.length cd,.slice Af st.fmts.length cf,.slice Ac st.cont.length cc] 25)):=(Below.refl _ _).alloc (Nat.le_refl _) _;have hR1:=Row.new w [.slice Al st.langs.length cl,.slice Ad st.dis.length cd,.slice Af st.fmts.length cf,.slice Ac st.cont.length cc] 25;have hs1:w.heap.size < (w.alloc (.cells #[.slice Al st.langs.length cl,.slice Ad st.dis.length cd,.slice Af st.fmts.length cf,.slice Ac st.cont.length cc] 25)).heap.size:=by simp
 go_enter Tryz.func16,Tryz.ntmps16;go_upto_region 1 with fail
 obtain ⟨w1,hw1⟩:∃ w1,w.alloc (.cells #[.slice Al st.langs.length cl,.slice Ad st.dis.length cd,.slice Af st.fmts.length cf,.slice Ac st.cont.length cc] 25)=w1:=⟨_,rfl⟩
 have hz1:w1.heap.size=w.heap.size+1:=by rw[← hw1];simp
 rw[hw1] at hB1 hR1 hs1 ⊢;clear hw1;have hB2:Below w1.heap.size w1 (w1.alloc (.cells toldZero.toArray 28)):=(Below.refl _ _).alloc (Nat.le_refl _) _;have hR2:Row (w1.alloc (.cells toldZero.toArray 28)) w1.heap.size toldZero:=Row.new w1 toldZero _;rw[show toldZero.toArray=TZ from rfl] at hB2 hR2
 obtain ⟨w2,hw2⟩:∃ w2,w1.alloc (.cells TZ 28)=w2:=⟨_,rfl⟩
 rw[hw2] at hB2 hR2;change Code.wp _ _ _ _ (w1.alloc (.cells TZ 28));rw[hw2];clear hw2;rw[hz1] at hR2;have hB:Below w.heap.size w w2:=hB1.trans (hB2.mono (by omega));have hRs:=hR1.below hB2 hs1;have HRS:=Aside0.mk hRs;have r0:=hRs.at 0 _ rfl;have r1:=hRs.at 1 _ rfl;have r2:=hRs.at 2 _ rfl;have r3:=hRs.at 3 _ rfl;have HB:=Aside0.mk hB;have HR2:=Aside0.mk hR2;have hlt2:w.heap.size+1 < w2.heap.size:=hR2.lt (by decide);have hS2:=HSA.out.below hB;have cs:=short_calls hS2 hf comp s hc hs;rw[HB1.out] at cs;clear hB1 hR1 hs1 hB2 hR2 hB hRs hz1 hS2;go_wp2_with fail
 refine cs.mono ?_;rintro e w3 ⟨rfl,hb3⟩;have HB3:=Aside0.mk hb3;clear cs r0 r1 r2 r3;have hRs:=HRS.out.below hb3 (by omega);have r0:=hRs.at 0 _ rfl;have r1:=hRs.at 1 _ rfl;have r2:=hRs.at 2 _ rfl;have r3:=hRs.at 3 _ rfl;clear hb3 hRs;have HRr:=Aside0.mk (HR2.out.below HB3.out hlt2);cases b1
 ·go_upto_region 2 with fail
  clear r0 r1 r2 r3
  go_wp2_with (first | (refine told_store rfl _ _ rfl (w.heap.size+1) TZ rfl rfl HRr.out rfl rfl (by kernel_rfl) ?_) | fail)
  have hbel:Below w.heap.size w (w3.setCells (w.heap.size+1) 0 TZ.toList):=below_setCells (Nat.le_succ _) _ _ _ (HB.out.trans (HB3.out.mono HB.out.size));refine bodyPost_ret (results_cell2 Tryz.results16 rfl (told_stored HRr.out rfl rfl)) rfl ⟨tZero,[],[],[],.slice none 0 0,.slice none 0 0,.slice none 0 0,rfl,⟨StrRow.nil _ _ _ _,StrRow.nil _ _ _ _,StrRow.nil _ _ _ _⟩,(fun h=>by cases h),hbel⟩
 ·have cp:=HK2.out rfl w3 (HB.out.trans (HB3.out.mono HB.out.size));go_wp2_with fail
  refine cp.mono ?_;rintro e w4 ⟨rfl,hb4⟩;have HB4:=Aside0.mk (below_step HB3.out hb4);clear cp r0 r1 r2 r3;have hRs:=(HRS.out.below HB3.out (by omega)).below hb4 (by have:=HB3.out.size;omega);have r0:=hRs.at 0 _ rfl;have r1:=hRs.at 1 _ rfl;have r2:=hRs.at 2 _ rfl;have r3:=hRs.at 3 _ rfl;clear hb4 hRs;have HRr:=Aside0.mk (HR2.out.below HB4.out hlt2);cases b2
  ·go_upto_region 2 with fail
   clear r0 r1 r2 r3
   go_wp2_with (first | (refine told_store rfl _ _ rfl (w.heap.size+1) TZ rfl rfl HRr.out rfl rfl (by kernel_rfl) ?_) | fail)
   have hbel:Below w.heap.size w (w4.setCells (w.heap.size+1) 0 TZ.toList):=below_setCells (Nat.le_succ _) _ _ _ (HB.out.trans (HB4.out.mono HB.out.size));refine bodyPost_ret (results_cell2 Tryz.results16 rfl (told_stored HRr.out rfl rfl)) rfl ⟨tZero,[],[],[],.slice none 0 0,.slice none 0 0,.slice none 0 0,rfl,⟨StrRow.nil _ _ _ _,StrRow.nil _ _ _ _,StrRow.nil _ _ _ _⟩,(fun h=>by cases h),hbel⟩
  ·have hok:=HB2.out (by first | rfl | trivial) (by first | rfl | trivial);have ho:=short_in HB1.out;have cP:=implParse_calls (HSA.out.toSiteIn.below (HB.out.trans (HB4.out.mono HB.out.size))) ho.1 comp s (by omega) hok.1;clear hok ho;go_wp2_with fail
   refine cP.mono ?_;rintro e w5 ⟨v1,v2,v3,rfl,hT,hb5⟩;have HB5:=Aside0.mk (below_step HB4.out hb5);have hz4:w.heap.size+1 < w4.heap.size:=Nat.lt_of_lt_of_le hlt2 HB4.out.size;have HT:=Aside0.mk hT;obtain ⟨A1,c1,e1,_⟩:=HT.out.1;obtain ⟨A2,c2,e2,_⟩:=HT.out.2.1;obtain ⟨A3,c3,e3,_⟩:=HT.out.2.2;have HR5:=Aside0.mk (HRr.out.below hb5 hz4);clear cP hb5 r0 r1 r2 r3 hT HRr
   obtain ⟨C,hC⟩:∃ C:Array Value,toldC (mTold (mPath (envOf st) comp (norm s))) v1 v2 v3=C:=⟨_,rfl⟩
   have hval:toldVal (mTold (mPath (envOf st) comp (norm s))) v1 v2 v3 = .agg C:=by rw[← hC];rfl
   have hCs:C.size=31:=by rw[← hC];rfl
   have hone:C.all (·.oneCell')=true:=by rw[← hC,e1,e2,e3];exact toldC_one _ _ _ _ _ _ _ _ _ _
   have HV:=Aside0.mk hval;have HCS:=Aside0.mk hCs;have HON:=Aside0.mk hone;rw[hval];clear hval e1 e2 e3 hC hCs hone
   go_wp2_with (first | (refine told_store rfl _ _ rfl (w.heap.size+1) C rfl rfl HR5.out rfl HCS.out HON.out ?_) | fail)
   have hbel:Below w.heap.size w (w5.setCells (w.heap.size+1) 0 C.toList):=below_setCells (Nat.le_succ _) _ _ _ (HB.out.trans (HB5.out.mono HB.out.size));have hfar:∀ k,w4.heap.size≤k→(w5.setCells (w.heap.size+1) 0 C.toList).heap[k]? = w5.heap[k]?:=fun k hk=>setCells_far _ _ k (by omega);have s1:=HT.out.1.far fun k hk _=>hfar k hk;have s2:=HT.out.2.1.far fun k hk _=>hfar k hk;have s3:=HT.out.2.2.far fun k hk _=>hfar k hk;have hzw:w.heap.size≤w4.heap.size:=by omega
   refine bodyPost_ret (results_cell2 Tryz.results16 rfl (told_stored HR5.out rfl HCS.out)) rfl ⟨_,_,_,_,v1,v2,v3,?_,⟨s1.mono hzw,s2.mono hzw,s3.mono hzw⟩,fun _=>⟨rfl,rfl,rfl,rfl⟩,hbel⟩;rw[HV.out];rfl
end
end Go.Proofs.YtjlaamcklhdhaaaGreatDoor.Path
set_option linter.unusedSimpArgs false
set_option linter.unusedVariables false
namespace Go.Proofs.YtjlaamcklhdhaaaGreatDoor.Path
open Go.RowKit Go.WideMaps Go.Proofs.YtjlaamcklhdhaaaGreatDoorW.PrintWords Go.Proofs.YtjlaamcklhdhaaaGreatDoor.Base Go.Proofs.YtjlaamcklhdhaaaGreatDoor.Lower
theorem told_cells {w:World} {b:Nat} {C:Array Value} {cs:List Value} (hR:Row w b cs) (hcs:cs.length=31) (hC:C.size=31):∀ (j:Nat) (v:Value),C.toList[j]? = some v→(w.setCells b 0 C.toList).cell? ⟨b,j,none⟩=some v:=by
 have ht:w.there b 0 31:=hcs▸hR.there;have hl:C.toList.length=31:=by simpa using hC
 have hr:=World.rangeAt_setCells_same w b 0 C.toList (by rw[hl];exact ht);intro j v hv;have:=hr j v hv;rwa[Nat.zero_add] at this
theorem told_world (w:World) (C:Array Value):Below w.heap.size w ((w.alloc (.cells toldZero.toArray 28)).setCells w.heap.size 0 C.toList) :=
 below_setCells (Nat.le_refl _) _ _ _ ((Below.refl _ _).alloc (Nat.le_refl _) _)
end Go.Proofs.YtjlaamcklhdhaaaGreatDoor.Path
namespace Go.Proofs.YtjlaamcklhdhaaaGreatDoor.Path
open Go.RowKit Go.Proofs.YtjlaamcklhdhaaaGreatDoorW.PrintWords Go.Proofs.YtjlaamcklhdhaaaGreatDoor.Base
theorem mApply_keeps {E:Env} {lay:Bool} {p q:PathV} {pre v:ByteArray} {x:Int×Int} (h:mApply E lay p pre x v=some q):Same p q:=by
 unfold mApply at h
 repeat' split at h
 all_goals first | (cases h;exact ⟨rfl,rfl,rfl,rfl,rfl,rfl,rfl,rfl,rfl⟩) | cases h
theorem mWord_keeps (E:Env) (p:PathV) (comp:ByteArray) (lo ld:Nat) (nd:Int) (last:Bool):Same p (mWord E p comp lo ld nd last).1:=by
 unfold mWord;simp only;split
 ·unfold mWrap;simp only;split
  ·exact ⟨rfl,rfl,rfl,rfl,rfl,rfl,rfl,rfl,rfl⟩
  ·split
   ·rename_i q hq
    exact mApply_keeps hq
   ·exact ⟨rfl,rfl,rfl,rfl,rfl,rfl,rfl,rfl,rfl⟩
 ·split
  ·exact ⟨rfl,rfl,rfl,rfl,rfl,rfl,rfl,rfl,rfl⟩
  ·unfold mPlain
   repeat' split
   all_goals exact ⟨rfl,rfl,rfl,rfl,rfl,rfl,rfl,rfl,rfl⟩
theorem mId_keeps (E:Env) (p:PathV) (comp:ByteArray) (i ld:Nat) (nd:Int) (last:Bool):Same p (mId E p comp i ld nd last):=by
 unfold mId;split
 ·exact Same.refl p
 ·obtain ⟨e,he,_⟩:=mNameEnd_eq (mWord E p comp (i+1) ld nd last) i ld last;rw[he];have h:=mWord_keeps E p comp (i+1) ld nd last;exact ⟨h.s,h.cLow,h.cHigh,h.sec,h.comp,h.typ,h.nLow,h.nHigh,h.trim⟩
structure KeptP (T:ByteArray) (t:Int) (p:PathV):Prop where
 s:p.s=T
 typ:p.typ=t
 hi:p.cHigh = -1∨∃ j:Nat,p.cHigh=(j:Int)+1∧T.data.toList[j]? = some 47
 lo:p.cLow = -1∨∃ j:Nat,p.cLow=(j:Int)+1∧T.data.toList[j]? = some 47
theorem KeptP.same {s:ByteArray} {t:Int} {p q:PathV} (h:KeptP s t p) (g:Same p q):KeptP s t q :=
 ⟨g.s.trans h.s,g.typ.trans h.typ,by rw[g.cHigh];exact h.hi,by rw[g.cLow];exact h.lo⟩
theorem KeptP.step {E:Env} {s comp:ByteArray} {t:Int} {sk:List Nat} {nd:Int} {i:Nat} {d:DoV} (h:KeptP s t d.p):KeptP s t (doStep E comp sk nd i d).p:=by
 unfold doStep;rw[h.s];split
 ·split
  ·exact h
  ·exact h.same (mId_keeps _ _ _ _ _ _ _)
 ·split
  ·rename_i hc
   have key:∀ q:PathV,KeptP s t q→KeptP s t { q with cHigh:=(i:Int)+1 }:=fun q hq=>⟨hq.s,hq.typ,.inr ⟨i,rfl,hc⟩,hq.lo⟩
   have key2:∀ q:PathV,KeptP s t q→KeptP s t { q with cLow:=(i:Int)+1 }:=fun q hq=>⟨hq.s,hq.typ,hq.hi,.inr ⟨i,rfl,hc⟩⟩
   have key3:∀ q:PathV,KeptP s t q→KeptP s t { q with sec:=(i:Int) }:=fun q hq=>⟨hq.s,hq.typ,hq.hi,hq.lo⟩
   have hq:KeptP s t (if 0 < d.ld then mId E d.p comp i d.ld nd true else d.p):=by
    split
    ·exact h.same (mId_keeps _ _ _ _ _ _ _)
    ·exact h
   have h1:KeptP s t (if d.p.cHigh = -1 then { (if 0 < d.ld then mId E d.p comp i d.ld nd true else d.p) with cHigh:=(i:Int)+1 } else if d.p.cLow = -1 then { d.p with cLow:=(i:Int)+1 } else d.p):=by
    split
    ·exact key _ hq
    ·split
     ·exact key2 _ h
     ·exact h
   simp only;split
   ·exact key3 _ h1
   ·exact h1
  ·exact h
theorem KeptP.loop {E:Env} {s comp:ByteArray} {t:Int} {sk:List Nat} {nd:Int}:∀ (i:Nat) (d:DoV),KeptP s t d.p→KeptP s t (doLoop E comp sk nd i d).p
 | 0,_,h=>h
 | i+1,d,h=>by unfold doLoop;exact KeptP.loop i _ h.step
theorem mPath_parts (E:Env) (comp s:ByteArray):∃ (T:ByteArray) (d:DoV),T=⟨(mText s.data.toList).toArray⟩∧L T=mText (L s)∧mPath E comp s=mEnd E comp d∧In2 T comp 0 d∧KeptP T (if hasSub T.data.toList tShort then 7 else 0) d.p∧d=mRun E comp (mStart { pathZero with comp:=comp } T):=by
 obtain ⟨T,hT⟩:∃ T:ByteArray,⟨(mText s.data.toList).toArray⟩=T:=⟨_,rfl⟩
 have hl:L T=mText (L s):=by rw[← hT];exact L_mk _
 have h0:T.data.toList[0]? = some 47:=by show (L T)[0]? = _;rw[hl,← List.head?_eq_getElem?];exact mText_head _
 have hI:In1 T comp T.size ⟨mStart { pathZero with comp:=comp } T,0,0⟩:=In1.start rfl rfl rfl rfl rfl rfl rfl rfl rfl rfl rfl rfl rfl;have h2:=(InD.loop (E:=E) (sk:=mSkip T.data.toList) (nd:=mDots T.data.toList) h0 T.size _ (Nat.le_refl _) (.inl hI)).last h0
 have hk:KeptP T (if hasSub T.data.toList tShort then 7 else 0) (mStart { pathZero with comp:=comp } T):=⟨rfl,rfl,.inl rfl,.inl rfl⟩
 refine ⟨T,_,hT.symm,hl,?_,h2,KeptP.loop (E:=E) (comp:=comp) (sk:=mSkip T.data.toList) (nd:=mDots T.data.toList) T.size ⟨mStart { pathZero with comp:=comp } T,0,0⟩ hk,rfl⟩;unfold mPath mDo;rw[hT];rfl
end Go.Proofs.YtjlaamcklhdhaaaGreatDoor.Path
namespace Go.Proofs.YtjlaamcklhdhaaaGreatDoor.Path
open Go.RowKit Go.Proofs.YtjlaamcklhdhaaaGreatDoorW.PrintWords Go.Proofs.YtjlaamcklhdhaaaGreatDoor.Base
theorem L_sub (s:ByteArray) (a b:Nat):L (sub s (a:Int) (b:Int))=((L s).drop a).take (b - a):=L_extract s a b
theorem L_frm (s:ByteArray) (a:Nat):L (frm s (a:Int))=(L s).drop a:=by
 show L (s.extract (a:Int).toNat s.size)=_;rw[L_extract,Int.toNat_natCast];exact List.take_of_length_le (by rw[List.length_drop,L_length];omega)
theorem list_split {l:List UInt8} {j:Nat} {c:UInt8} (h:l[j]? = some c):l=l.take j++c::l.drop (j+1):=by
 obtain ⟨hj,e⟩:=List.getElem?_eq_some_iff.1 h;have:=List.take_append_drop j l;rw[List.drop_eq_getElem_cons hj,e] at this;exact this.symm
theorem mEnd_same (E:Env) (comp:ByteArray) (d:DoV):∃ t c l,mEnd E comp d = { mNamed d.p with typ:=t,sec:=c,lay:=l }∧(l=d.p.lay∨l = -1):=by
 unfold mEnd;obtain ⟨t1,c1,e1⟩:=mSort1_same E d.sc (mNamed d.p);rw[e1];obtain ⟨t2,e2⟩:=mSort2_same comp { mNamed d.p with typ:=t1,sec:=c1 };rw[e2];unfold mSort3;split
 ·exact ⟨_,_,_,rfl,.inr rfl⟩
 ·exact ⟨_,_,_,rfl,.inl rfl⟩
structure Parts (co se:ByteArray) (p:PathV):Prop where
 s:L p.s=mText (L se)
 trim:p.trim=false
 comp:p.comp=co
 hi:∃ j:Nat,p.cHigh=(j:Int)+1∧(L p.s)[j]? = some 47
 lo:p.cLow = -1∨∃ i j:Nat,p.cLow=(i:Int)+1∧p.cHigh=(j:Int)+1∧i < j∧(L p.s)[i]? = some 47
 nLow:p.nLow=p.cHigh
theorem mPath_Parts (E:Env) (comp s:ByteArray):Parts comp s (mPath E comp s):=by
 obtain ⟨T,d,hT,hl,h2,h3,h4,_⟩:=mPath_parts E comp s;obtain ⟨t,c,l,e,_⟩:=mEnd_same E comp d;rw[h2,e];have hc1:=h3.ch.1
 have hhi:∃ j:Nat,d.p.cHigh=(j:Int)+1∧(L T)[j]? = some 47:=by
  rcases h4.hi with h | h
  ·rw[h] at hc1;omega
  ·exact h
 refine ⟨?_,h3.ht,h3.hc,?_,?_,rfl⟩
 ·show L d.p.s=_;rw[h3.hs,hl]
 ·show ∃ j:Nat,d.p.cHigh=(j:Int)+1∧(L d.p.s)[j]? = some 47;rw[h3.hs];exact hhi
 ·show d.p.cLow = -1∨∃ i j:Nat,d.p.cLow=(i:Int)+1∧d.p.cHigh=(j:Int)+1∧i < j∧(L d.p.s)[i]? = some 47;rw[h3.hs];obtain ⟨j,hj,_⟩:=hhi;rcases h4.lo with h | ⟨i,hi,h47⟩
  ·exact .inl h
  ·rcases h3.cl with h | h
   ·exact .inl h
   ·exact .inr ⟨i,j,hi,hj,by omega,h47⟩
end Go.Proofs.YtjlaamcklhdhaaaGreatDoor.Path
namespace Go.Proofs.YtjlaamcklhdhaaaGreatDoor.Path
open Go.RowKit Go.Proofs.YtjlaamcklhdhaaaGreatDoorW.PrintWords Go.Proofs.YtjlaamcklhdhaaaGreatDoor.Base Go.Proofs.YtjlaamcklhdhaaaGreatDoor.Total
theorem isSk_past:∀ (a b:List Nat) (x:Nat),(∀ d∈a,d < x)→isSk (a++b) x=isSk b x
 | [],_,_,_=>rfl
 | d::a,b,x,h=>by
  have h1:=h d (by simp);show (if d=x then true else if x < d then false else isSk (a++b) x)=_;rw[if_neg (by omega),if_neg (by omega)];exact isSk_past a b x (fun y hy=>h y (by simp[hy]))
theorem isSk_ahead:∀ (a:List Nat) (x:Nat),(∀ d∈a,x < d)→isSk a x=false
 | [],_,_=>rfl
 | d::a,x,h=>by
  have h1:=h d (by simp);show (if d=x then true else if x < d then false else isSk a x)=_;rw[if_neg (by omega),if_pos h1]
theorem isSk_mem:∀ (a b:List Nat) (x:Nat),a.Pairwise (· < ·)→x∈a→isSk (a++b) x=true
 | [],_,_,_,h=>by cases h
 | d::a,b,x,hp,h=>by
  rw[List.pairwise_cons] at hp;show (if d=x then true else if x < d then false else isSk (a++b) x)=true
  by_cases c:d=x
  ·rw[if_pos c]
  ·rcases List.mem_cons.1 h with h | h
   ·exact absurd h.symm c
   ·have:=hp.1 x h;rw[if_neg c,if_neg (by omega)];exact isSk_mem a b x hp.2 h
theorem dotsF_mem {l:List UInt8} {a n x:Nat}:x∈dotsF l a n↔(a≤x∧x < a+n)∧l[x]? = some 46:=by
 unfold dotsF;rw[List.mem_filter,List.mem_range'_1,beq_iff_eq]
theorem dotsF_up (l:List UInt8) (a n:Nat):(dotsF l a n).Pairwise (· < ·):=by
 unfold dotsF;exact List.Pairwise.filter _ List.pairwise_lt_range'
theorem wEndF_app (pre n:List UInt8):∀ (g k:Nat),wEndF (pre++n) g (pre.length+k)=(wEndF n g k).map (pre.length + ·)
 | 0,_=>rfl
 | g+1,k=>by
  have e1:(pre++n)[pre.length+k]? = n[k]?:=by rw[List.getElem?_append_right (by omega),Nat.add_sub_cancel_left]
  have e2:(pre++n)[pre.length+k+1]? = n[k+1]?:=by rw[Nat.add_assoc,List.getElem?_append_right (by omega),Nat.add_sub_cancel_left]
  rw[wEndF,wEndF,e1,e2,List.length_append]
  by_cases c1:n[k]? = some 47
  ·rw[if_pos c1,if_pos c1];rfl
  ·rw[if_neg c1,if_neg c1]
   by_cases c2:n[k]? = some 95∧(n.length≤k+1∨n[k+1]? = some 46)
   ·rw[if_pos c2,if_pos ⟨c2.1,by rcases c2.2 with h | h <;> first | exact .inr h | (left;omega)⟩];rfl
   ·rw[if_neg c2,if_neg (fun h=>c2 ⟨h.1,by rcases h.2 with h | h <;> first | exact .inr h | (left;omega)⟩)];exact wEndF_app pre n g (k+1)
theorem wEnd_app (pre n:List UInt8) (k:Nat):wEnd (pre++n) (pre.length+k)=(wEnd n k).map (pre.length + ·):=by
 unfold wEnd;rw[List.length_append,Nat.add_sub_add_left];exact wEndF_app pre n _ k
theorem skF_ge (l:List UInt8):∀ (g i x:Nat),x∈skF l g i→i≤x
 | 0,_,_,h=>by cases h
 | g+1,i,x,h=>by
  rw[skF] at h;split at h
  ·cases h
  ·split at h
   ·split at h
    ·rename_i e he
     have hl:=wEndF_lt l _ _ _ he;rcases List.mem_append.1 h with h | h
     ·have:=(dotsF_mem.1 h).1;omega
     ·have:=skF_ge l g (e+1) x h;omega
    ·have:=skF_ge l g (i+1) x h;omega
   ·have:=skF_ge l g (i+1) x h;omega
theorem countDots_cons (c:UInt8) (r:List UInt8):countDots (c::r)=(if c=46 then 1 else 0)+countDots r:=by
 unfold countDots;rw[List.filter_cons]
 by_cases h:c=46
 ·rw[if_pos h,h];simp;omega
 ·rw[if_neg h];simp[h]
theorem countDots_app (a b:List UInt8):countDots (a++b)=countDots a+countDots b:=by
 unfold countDots;rw[List.filter_append,List.length_append]
theorem dotsF_shift (pre n:List UInt8) (a:Nat):∀ m,a+m≤n.length→(dotsF (pre++n) (pre.length+a) m).length=countDots ((n.drop a).take m)
 | 0,_=>by simp[dotsF,countDots]
 | m+1,h=>by
  have ih:=dotsF_shift pre n a m (by omega);have hi:m < (n.drop a).length:=by rw[List.length_drop];omega
  unfold dotsF at ih ⊢;rw[List.range'_concat,List.filter_append,List.length_append,ih,List.take_succ_eq_append_getElem hi,countDots_app];congr 1
  have e1:(pre++n)[pre.length+a+1 * m]? = some (n.drop a)[m]:=by
   rw[Nat.one_mul,Nat.add_assoc,List.getElem?_append_right (by omega),Nat.add_sub_cancel_left,← List.getElem?_drop,List.getElem?_eq_getElem hi]
  rw[List.filter_cons,List.filter_nil,e1,countDots_cons]
  by_cases c:(n.drop a)[m]=46
  ·rw[if_pos c,c];rfl
  ·have hq:((some (n.drop a)[m]:Option UInt8)==some 46)=false:=by simpa using c
   rw[if_neg c,if_neg (by rw[hq];decide)];rfl
section
variable {pre n:List UInt8}
theorem cuts_skip:∀ (d i g1 g2:Nat),n.length - i≤d→n.length - i≤g1→n.length - i≤g2 →
 sCutF n g1 i=(List.range' i (n.length - i)).filter (fun k=>n[k]? == some 46 && !isSk (skF (pre++n) g2 (pre.length+i)) (pre.length+k)) ∧
 countDots (n.drop i)=(sCutF n g1 i).length+(skF (pre++n) g2 (pre.length+i)).length:=by
 have out:∀ (i g1 g2:Nat),n.length≤i→sCutF n g1 i=[]∧skF (pre++n) g2 (pre.length+i)=[]:=by
  intro i g1 g2 h;constructor
  ·cases g1 with
   | zero=>rfl
   | succ g=>rw[sCutF,if_pos h]
  ·cases g2 with
   | zero=>rfl
   | succ g=>rw[skF,if_pos (by rw[List.length_append];omega)]
 intro d
 induction d with
 | zero =>
  intro i g1 g2 h1 _ _;obtain ⟨e1,e2⟩:=out i g1 g2 (by omega);rw[e1,e2,show n.length - i=0 by omega,List.drop_of_length_le (by omega)];exact ⟨rfl,rfl⟩
 | succ d ih =>
  intro i g1 g2 h1 h2 h3
  by_cases hi:n.length≤i
  ·obtain ⟨e1,e2⟩:=out i g1 g2 hi;rw[e1,e2,show n.length - i=0 by omega,List.drop_of_length_le (by omega)];exact ⟨rfl,rfl⟩
  ·obtain ⟨g1,rfl⟩:∃ g,g1=g+1:=⟨g1 - 1,by omega⟩
   obtain ⟨g2,rfl⟩:∃ g,g2=g+1:=⟨g2 - 1,by omega⟩
   have hi' : i < n.length:=by omega
   have ei:(pre++n)[pre.length+i]? = n[i]?:=by rw[List.getElem?_append_right (by omega),Nat.add_sub_cancel_left]
   have ei1:(pre++n)[pre.length+i+1]? = n[i+1]?:=by rw[Nat.add_assoc,List.getElem?_append_right (by omega),Nat.add_sub_cancel_left]
   have hgi:n[i]? = some n[i]:=List.getElem?_eq_getElem hi'
   have hr:List.range' i (n.length - i)=i::List.range' (i+1) (n.length - (i+1)):=by
    rw[show n.length - i=(n.length - (i+1))+1 by omega,List.range'_succ]
   have hd:n.drop i=n[i]::n.drop (i+1):=List.drop_eq_getElem_cons hi'
   -- no wrapper begins here
   have plain:skF (pre++n) (g2+1) (pre.length+i)=skF (pre++n) g2 (pre.length+(i+1))→(n[i]? = some 46→sNext n i=i+1) →
    sCutF n (g1+1) i=(List.range' i (n.length - i)).filter (fun k=>n[k]? == some 46 && !isSk (skF (pre++n) (g2+1) (pre.length+i)) (pre.length+k)) ∧
    countDots (n.drop i)=(sCutF n (g1+1) i).length+(skF (pre++n) (g2+1) (pre.length+i)).length:=by
    intro hs hn;obtain ⟨e1,e2⟩:=ih (i+1) g1 g2 (by omega) (by omega) (by omega);rw[hs,hr,hd,List.filter_cons,countDots_cons,sCutF,if_neg hi];have hsk:isSk (skF (pre++n) g2 (pre.length+(i+1))) (pre.length+i)=false:=isSk_ahead _ _ (fun x hx=>by have:=skF_ge _ _ _ _ hx;omega);rw[hsk,hgi]
    by_cases c:n[i]=46
    ·rw[if_pos (by rw[c]),if_pos (by rw[c];rfl),hn (by rw[hgi,c]),if_pos c,List.length_cons,e2];exact ⟨by rw[e1],by omega⟩
    ·rw[if_neg (by simpa using c),if_neg (by simpa using c),if_neg c,e2];exact ⟨e1,by omega⟩
   by_cases ho:opens (pre++n) (pre.length+i)=true
   ·have ho':=ho;unfold opens at ho';simp only[Bool.and_eq_true,beq_iff_eq,decide_eq_true_eq,List.length_append] at ho';obtain ⟨o1,o2,o3⟩:=ho';rw[ei] at o2;rw[ei1] at o3;have hw:=wEnd_app pre n (i+2);rw[← Nat.add_assoc] at hw
    cases he:wEnd n (i+2) with
    | none =>
     rw[he] at hw;refine plain ?_ (fun _=>?_)
     ·rw[skF,if_neg (by rw[List.length_append];omega),if_pos ho,hw];rfl
     ·unfold sNext;rw[if_pos o3,he]
    | some e =>
     obtain ⟨hle,hlt⟩:=wEndF_lt n _ _ _ he;rw[he] at hw
     have hs:skF (pre++n) (g2+1) (pre.length+i)=dotsF (pre++n) (pre.length+(i+2)) (e - (i+2))++skF (pre++n) g2 (pre.length+(e+1)):=by
      rw[skF,if_neg (by rw[List.length_append];omega),if_pos ho,hw];show dotsF (pre++n) (pre.length+i+2) (pre.length+e - (pre.length+i+2))++skF (pre++n) g2 (pre.length+e+1)=_;rw[show pre.length+e - (pre.length+i+2)=e - (i+2) by omega];rfl
     have hn:sNext n i=e+1:=by unfold sNext;rw[if_pos o3,he]
     obtain ⟨e1,e2⟩:=ih (e+1) g1 g2 (by omega) (by omega) (by omega);have hge:∀ x∈skF (pre++n) g2 (pre.length+(e+1)),pre.length+(e+1)≤x:=fun x hx=>skF_ge _ _ _ _ hx
     have hdl:∀ x∈dotsF (pre++n) (pre.length+(i+2)) (e - (i+2)),pre.length+(i+2)≤x∧x < pre.length+e:=by
      intro x hx;have:=(dotsF_mem.1 hx).1;omega
     rw[hs,sCutF,if_neg hi,if_pos o2,hn];constructor
     ·
      have hsp:List.range' i (n.length - i)=i::(List.range' (i+1) (e - i)++List.range' (e+1) (n.length - (e+1))):=by
       rw[hr,show n.length - (i+1)=(e - i)+(n.length - (e+1)) by omega,← List.range'_append_1,show i+1+(e - i)=e+1 by omega]
      rw[hsp,List.filter_cons,List.filter_append]
      have hsk:isSk (dotsF (pre++n) (pre.length+(i+2)) (e - (i+2))++skF (pre++n) g2 (pre.length+(e+1))) (pre.length+i)=false:=by
       refine isSk_ahead _ _ (fun x hx=>?_);rcases List.mem_append.1 hx with hx | hx
       ·have:=hdl x hx;omega
       ·have:=hge x hx;omega
      rw[hsk,o2,if_pos (show ((some (46:UInt8)==some 46 && !false)=true) from rfl)]
      have hmid:(List.range' (i+1) (e - i)).filter (fun k=>n[k]? == some 46 && !isSk (dotsF (pre++n) (pre.length+(i+2)) (e - (i+2))++skF (pre++n) g2 (pre.length+(e+1))) (pre.length+k))=[]:=by
       rw[List.filter_eq_nil_iff];intro k hk hc;rw[List.mem_range'_1] at hk;simp only[Bool.and_eq_true,beq_iff_eq,Bool.not_eq_true'] at hc;obtain ⟨c1,c2⟩:=hc;have hk1:k≠i+1:=by intro h;subst h;rw[o3] at c1;cases c1
       have hke:k≠e:=by
        intro h;subst h
        have h95:n[k]? = some 95:=by
         have:∀ (g q:Nat),wEndF n g q=some k→n[k]? = some 95:=by
          intro g
          induction g with
          | zero=>intro q h;cases h
          | succ g ihg =>
           intro q h;rw[wEndF] at h;split at h
           ·cases h
           ·split at h
            ·rename_i hh
             injection h with h
             subst h;exact hh.1
            ·exact ihg _ h
         exact this _ _ he
        rw[h95] at c1;cases c1
       have hm:pre.length+k∈dotsF (pre++n) (pre.length+(i+2)) (e - (i+2)):=by
        rw[dotsF_mem];refine ⟨by omega,?_⟩;rw[List.getElem?_append_right (by omega),Nat.add_sub_cancel_left];exact c1
       rw[isSk_mem _ _ _ (dotsF_up _ _ _) hm] at c2;cases c2
      rw[hmid,List.nil_append,e1];congr 1;refine List.filter_congr (fun k hk=>?_);rw[List.mem_range'_1] at hk;rw[isSk_past _ _ _ (fun x hx=>by have:=hdl x hx;omega)]
     ·rw[List.length_cons,List.length_append,dotsF_shift pre n (i+2) (e - (i+2)) (by omega)]
      have hsplit:n.drop i=n[i]::n[i+1]'(by omega)::((n.drop (i+2)).take (e - (i+2))++n[e]::n.drop (e+1)):=by
       rw[hd,List.drop_eq_getElem_cons (by omega:i+1 < n.length)];congr 2;have:=(List.take_append_drop (e - (i+2)) (n.drop (i+2))).symm;rw[List.drop_drop,show i+2+(e - (i+2))=e by omega,List.drop_eq_getElem_cons hlt] at this;exact this
      have c0:n[i]=46:=by rw[hgi] at o2;injection o2
      have c1:n[i+1]'(by omega)=95:=by rw[List.getElem?_eq_getElem (by omega)] at o3;injection o3
      have ce:n[e]=95:=by
       have:∀ (g q:Nat),wEndF n g q=some e→n[e]? = some 95:=by
        intro g
        induction g with
        | zero=>intro q h;cases h
        | succ g ihg =>
         intro q h;rw[wEndF] at h;split at h
         ·cases h
         ·split at h
          ·rename_i hh
           injection h with h
           subst h;exact hh.1
          ·exact ihg _ h
       have h9:=this _ _ he;rw[List.getElem?_eq_getElem hlt] at h9;injection h9
      rw[hsplit,countDots_cons,countDots_cons,countDots_app,countDots_cons,c0,c1,ce,e2];simp only[if_true,show ¬ ((95:UInt8)=46) by decide,if_false];omega
   ·refine plain ?_ (fun h46=>?_)
    ·rw[skF,if_neg (by rw[List.length_append];omega),if_neg ho];rfl
    ·unfold sNext
     by_cases c:n[i+1]? = some 95
     ·rw[if_pos c]
      have:¬ (i+2 < n.length):=by
       intro hlt;refine ho ?_;unfold opens;rw[ei,ei1,h46,c,List.length_append,decide_eq_true (by omega)];rfl
      have hw:wEnd n (i+2)=none:=by
       unfold wEnd;rw[show n.length - (i+2)=0 by omega];rfl
      rw[hw]
     ·rw[if_neg c]
end
def dStep (E:Env) (comp:ByteArray) (nd:Int) (d:DoV) (c:Nat):DoV:={ d with p:=mId E d.p comp c d.ld nd false,ld:=c }
structure Split (l pre n:List UInt8):Prop where
 eq:l=pre++n
 slash:∃ q,pre=q++[47]
 no:∀ j:Nat,n[j]?≠some 47
theorem Split.behind {l pre n:List UInt8} (S:Split l pre n):behind l=pre.length∧n=l.drop pre.length:=by
 obtain ⟨q,hq⟩:=S.slash;have hl:L (⟨l.toArray⟩:ByteArray)=l:=L_mk l;have e1:l[q.length]? = some 47:=by rw[S.eq,hq,List.append_assoc,List.getElem?_append_right (Nat.le_refl _),Nat.sub_self];rfl
 obtain ⟨j,_,hb,hj,hk⟩:=last_slash ⟨l.toArray⟩ ⟨q.length,by rw[hl];exact e1⟩;rw[hl] at hb hj hk
 have:j=q.length:=by
  rcases Nat.lt_trichotomy j q.length with h | h | h
  ·exact absurd e1 (hk _ h)
  ·exact h
  ·exfalso;have hp:pre.length≤j:=by rw[hq];simp;omega
   rw[S.eq,List.getElem?_append_right hp] at hj;exact S.no _ hj
 refine ⟨by rw[hb,this,hq];simp,by rw[S.eq,List.drop_left]⟩
theorem split_of (l:List UInt8) (h:∃ j:Nat,l[j]? = some 47):Split l (l.take (behind l)) (l.drop (behind l)):=by
 have hl:L (⟨l.toArray⟩:ByteArray)=l:=L_mk l;obtain ⟨j,_,hb,hj,hk⟩:=last_slash ⟨l.toArray⟩ (by rw[hl];exact h);rw[hl] at hb hj hk;rw[hb];refine ⟨(List.take_append_drop _ _).symm,⟨l.take j,?_⟩,fun k=>?_⟩
 ·obtain ⟨h1,h2⟩:=List.getElem?_eq_some_iff.1 hj;rw[List.take_succ_eq_append_getElem h1,h2]
 ·rw[List.getElem?_drop];exact hk _ (by omega)
theorem mDots_cuts {l pre n:List UInt8} (S:Split l pre n):mDots l=((sCuts n).length:Int)∧sCuts n=(List.range n.length).filter (fun k=>n[k]? == some 46 && !isSk (mSkip l) (pre.length+k)):=by
 obtain ⟨hb,hn⟩:=S.behind;obtain ⟨q,hq⟩:=S.slash;have hpl:pre.length=q.length+1:=by rw[hq];simp
 have hll:l.length=pre.length+n.length:=by rw[S.eq,List.length_append]
 have hsk:mSkip l=skF (pre++n) (l.length - 1) (pre.length+0):=by
  unfold mSkip;rw[hb,show l.length=(l.length - 1)+1 by omega,skF,if_neg (by omega),← S.eq,if_neg,show pre.length - 1+1=pre.length+0 by omega]
  ·rfl
  ·intro ho;unfold opens at ho;simp only[Bool.and_eq_true,beq_iff_eq] at ho;have h1:=ho.2.1;rw[S.eq,hq,List.append_assoc,show (q++[(47:UInt8)]).length - 1=q.length by simp,List.getElem?_append_right (Nat.le_refl _),Nat.sub_self] at h1;cases h1
 obtain ⟨e1,e2⟩:=cuts_skip (pre:=pre) (n:=n) n.length 0 n.length (l.length - 1) (by omega) (by omega) (by omega);rw[← hsk] at e1 e2;rw[List.drop_zero] at e2;refine ⟨?_,?_⟩
 ·unfold mDots;rw[hb,← hn,e2];show (((sCuts n).length+(mSkip l).length:Nat):Int) - _=_;omega
 ·rw[List.range_eq_range'];exact e1
section
variable {E:Env} {comp:ByteArray}
theorem loop_words {l pre n:List UInt8} (S:Split l pre n) (sk:List Nat) (nd:Int):∀ (i:Nat) (d:DoV),i≤n.length→d.p.s.data.toList=l →
 doLoop E comp sk nd (pre.length+i) d=doLoop E comp sk nd pre.length ((((List.range i).filter (fun k=>n[k]? == some 46 && !isSk sk (pre.length+k))).reverse.map (pre.length + ·)).foldl (dStep E comp nd) d)
 | 0,_,_,_=>rfl
 | i+1,d,h,hs=>by
  have hi:i < n.length:=by omega
  have e1:l[pre.length+i]? = n[i]?:=by rw[S.eq,List.getElem?_append_right (by omega),Nat.add_sub_cancel_left]
  rw[List.range_succ,List.filter_append,List.reverse_append,List.map_append,List.foldl_append];show doLoop E comp sk nd (pre.length+i) (doStep E comp sk nd (pre.length+i) d)=_;have hno:n[i]?≠some 47:=S.no i
  by_cases c:n[i]? = some 46
  ·cases hk:isSk sk (pre.length+i) with
   | true =>
    rw[doStep_skip (by rw[hs,e1,c]) hk];have:[i].filter (fun k=>n[k]? == some 46 && !isSk sk (pre.length+k))=[]:=by simp[hk]
    rw[this];exact loop_words S sk nd i d (by omega) hs
   | false =>
    rw[doStep_dot (by rw[hs,e1,c]) hk];have:[i].filter (fun k=>n[k]? == some 46 && !isSk sk (pre.length+k))=[i]:=by simp[hk,c]
    rw[this];refine loop_words S sk nd i _ (by omega) ?_;show (mId E d.p comp (pre.length+i) d.ld nd false).s.data.toList=l;rw[(mId_keeps E d.p comp (pre.length+i) d.ld nd false).s];exact hs
  ·have:[i].filter (fun k=>n[k]? == some 46 && !isSk sk (pre.length+k))=[]:=by simp[c]
   rw[this]
   have:doStep E comp sk nd (pre.length+i) d=d:=by
    unfold doStep;rw[hs,e1,if_neg c,if_neg hno]
   rw[this];exact loop_words S sk nd i d (by omega) hs
theorem mRun_words {p:PathV} {pre n:List UInt8} (S:Split p.s.data.toList pre n):mRun E comp p =
 doLoop E comp (mSkip p.s.data.toList) ((sCuts n).length:Int) pre.length (((sCuts n).reverse.map (pre.length + ·)).foldl (dStep E comp ((sCuts n).length:Int)) ⟨p,0,0⟩):=by
 obtain ⟨e1,e2⟩:=mDots_cuts S
 have hz:p.s.size=pre.length+n.length:=by
  have:p.s.data.toList.length=p.s.size:=L_length p.s;rw[← this,S.eq,List.length_append]
 unfold mRun;rw[e1,hz,loop_words S _ _ n.length ⟨p,0,0⟩ (Nat.le_refl _) rfl,← e2]
end
end Go.Proofs.YtjlaamcklhdhaaaGreatDoor.Path
set_option linter.unusedVariables false
namespace Go.Proofs.YtjlaamcklhdhaaaGreatDoor.Path
open Go.RowKit Go.Proofs.YtjlaamcklhdhaaaGreatDoorW.PrintWords Go.Proofs.YtjlaamcklhdhaaaGreatDoor.Base Go.Proofs.YtjlaamcklhdhaaaGreatDoor.Total
theorem doLoop_rest {E:Env} {comp:ByteArray} {sk:List Nat} {nd:Int}:∀ (i:Nat) (d:DoV),d.p.cHigh≠-1→∃ a b,(doLoop E comp sk nd i d).p = { d.p with cLow:=a,sec:=b }
 | 0,d,_=>⟨d.p.cLow,d.p.sec,rfl⟩
 | i+1,d,h=>by
  have key:∃ a b,(doStep E comp sk nd i d).p = { d.p with cLow:=a,sec:=b }:=by
   unfold doStep;rw[mId_done h];split
   ·split
    ·exact ⟨d.p.cLow,d.p.sec,rfl⟩
    ·exact ⟨d.p.cLow,d.p.sec,rfl⟩
   ·split
    ·first | rw[if_neg h] | skip
     by_cases c1:d.p.cLow = -1
     ·by_cases c2:0 < i
      ·exact ⟨(i:Int)+1,i,by simp only[if_pos c1,if_pos c2]⟩
      ·exact ⟨(i:Int)+1,d.p.sec,by simp only[if_pos c1,if_neg c2]⟩
     ·by_cases c2:0 < i
      ·exact ⟨d.p.cLow,i,by simp only[if_neg c1,if_pos c2]⟩
      ·exact ⟨d.p.cLow,d.p.sec,by simp only[if_neg c1,if_neg c2]⟩
    ·exact ⟨d.p.cLow,d.p.sec,rfl⟩
  obtain ⟨a,b,e⟩:=key;have h2:(doStep E comp sk nd i d).p.cHigh≠-1:=by rw[e];exact h
  obtain ⟨a2,b2,e2⟩:=doLoop_rest (E:=E) (comp:=comp) (sk:=sk) (nd:=nd) i (doStep E comp sk nd i d) h2;exact ⟨a2,b2,by show (doLoop E comp sk nd i (doStep E comp sk nd i d)).p=_;rw[e2,e]⟩
def wordsD (E:Env) (comp:ByteArray) (p:PathV) (B:Nat) (n:List UInt8):DoV:=((sCuts n).reverse.map (B + ·)).foldl (dStep E comp ((sCuts n).length:Int)) ⟨p,0,0⟩
def wordsP (E:Env) (comp:ByteArray) (p:PathV) (q:Nat) (n:List UInt8):PathV :=
 if 0 < (wordsD E comp p (q+1) n).ld then mId E (wordsD E comp p (q+1) n).p comp q (wordsD E comp p (q+1) n).ld ((sCuts n).length:Int) true else (wordsD E comp p (q+1) n).p
theorem dStep_keeps {E:Env} {comp:ByteArray} {nd:Int}:∀ (cs:List Nat) (d:DoV),Same d.p (cs.foldl (dStep E comp nd) d).p
 | [],d=>Same.refl _
 | c::cs,d=>(mId_keeps E d.p comp c d.ld nd false).trans (dStep_keeps cs (dStep E comp nd d c))
theorem mPath_words (E:Env) (comp s:ByteArray):∃ (T:ByteArray) (q:Nat) (pre n:List UInt8) (d:DoV) (a b:Int),L T=mText (L s)∧Split (L T) pre n∧pre.length=q+1∧(L T)[q]? = some 47∧mPath E comp s=mEnd E comp d∧In2 T comp 0 d ∧
 d.p = { wordsP E comp (mStart { pathZero with comp:=comp } T) q n with cHigh:=(q:Int)+1,cLow:=a,sec:=b }:=by
 obtain ⟨T,d,hT,hl,h2,h3,h4,h5⟩:=mPath_parts E comp s;have h0:(L T)[0]? = some 47:=by rw[hl,← List.head?_eq_getElem?];exact mText_head _
 have S:=split_of (L T) ⟨0,h0⟩
 obtain ⟨pre,hpre⟩:∃ x,(L T).take (behind (L T))=x:=⟨_,rfl⟩
 obtain ⟨n,hn⟩:∃ x,(L T).drop (behind (L T))=x:=⟨_,rfl⟩
 rw[hpre,hn] at S;obtain ⟨q,hq⟩:=S.slash;have hpl:pre.length=q.length+1:=by rw[hq];simp
 have h47:(L T)[q.length]? = some 47:=by rw[S.eq,hq,List.append_assoc,List.getElem?_append_right (Nat.le_refl _),Nat.sub_self];rfl
 have hr:=mRun_words (E:=E) (comp:=comp) (p:=mStart { pathZero with comp:=comp } T) S;rw[hpl] at hr
 obtain ⟨D,hD⟩:∃ D,wordsD E comp (mStart { pathZero with comp:=comp } T) (q.length+1) n=D:=⟨_,rfl⟩
 have hD' : ((sCuts n).reverse.map (q.length+1 + ·)).foldl (dStep E comp ((sCuts n).length:Int)) ⟨mStart { pathZero with comp:=comp } T,0,0⟩=D:=hD;rw[hD'] at hr;have hsame:Same (mStart { pathZero with comp:=comp } T) D.p:=by rw[← hD'];exact dStep_keeps ((sCuts n).reverse.map (q.length+1 + ·)) ⟨mStart { pathZero with comp:=comp } T,0,0⟩
 have hch:D.p.cHigh = -1:=hsame.cHigh;have hst:D.p.s.data.toList[q.length]? = some 47:=by rw[hsame.s];exact h47
 have hstep:∃ a b,(doStep E comp (mSkip (mStart { pathZero with comp:=comp } T).s.data.toList) ((sCuts n).length:Int) q.length D).p = { wordsP E comp (mStart { pathZero with comp:=comp } T) q.length n with cHigh:=(q.length:Int)+1,cLow:=a,sec:=b }:=by
  unfold doStep wordsP;rw[hD,if_neg (by rw[hst];decide),if_pos hst,if_pos hch]
  by_cases c:0 < q.length
  ·exact ⟨_,q.length,by simp only[if_pos c];rfl⟩
  ·exact ⟨_,_,by simp only[if_neg c];rfl⟩
 obtain ⟨a,b,e1⟩:=hstep;obtain ⟨a2,b2,e2⟩:=doLoop_rest (E:=E) (comp:=comp) (sk:=mSkip (mStart { pathZero with comp:=comp } T).s.data.toList) (nd:=((sCuts n).length:Int)) q.length (doStep E comp (mSkip (mStart { pathZero with comp:=comp } T).s.data.toList) ((sCuts n).length:Int) q.length D) (by rw[e1];show (q.length:Int)+1≠-1;omega);refine ⟨T,q.length,pre,n,d,a2,b2,hl,S,hpl,h47,h2,h3,?_⟩;rw[h5,hr];show (doLoop E comp _ _ q.length (doStep E comp _ _ q.length D)).p=_;rw[e2,e1]
structure Head (x:Int×Int) (p:PathV):Prop where
 at_:p.known[0]? = some x
 lay:p.lay = -1∨1≤p.lay
theorem Head.push {x y:Int×Int} {p:PathV} (h:Head x p):(p.known++[y])[0]? = some x:=by
 have:=(List.getElem?_eq_some_iff.1 h.at_).1;rw[List.getElem?_append_left this];exact h.at_
theorem Head.len {x:Int×Int} {p:PathV} (h:Head x p):1≤p.known.length:=(List.getElem?_eq_some_iff.1 h.at_).1
theorem mApply_head {E:Env} {lay:Bool} {p q:PathV} {pre v:ByteArray} {x y:Int×Int} (A:Head x p) (h:mApply E lay p pre y v=some q):Head x q:=by
 unfold mApply at h
 repeat' split at h
 all_goals first | (cases h;exact ⟨A.push,A.lay⟩) | cases h
theorem mWord_head {E:Env} {p:PathV} {comp:ByteArray} {lo ld:Nat} {nd:Int} {last:Bool} {x:Int×Int} (A:Head x p):Head x (mWord E p comp lo ld nd last).1:=by
 unfold mWord;simp only;split
 ·unfold mWrap;simp only;split
  ·exact ⟨A.push,A.lay⟩
  ·split
   ·rename_i q hq
    exact mApply_head A hq
   ·exact ⟨A.push,A.lay⟩
 ·split
  ·rename_i h
   have:=A.len;rw[h] at this;cases this
  ·have hl:=A.len;unfold mPlain;split
   ·exact ⟨A.push,A.lay⟩
   ·split
    ·exact ⟨A.push,A.lay⟩
    ·split
     ·exact ⟨A.push,A.lay⟩
     ·split
      ·exact ⟨A.push,A.lay⟩
      ·split
       ·split
        ·rename_i hly
         refine ⟨?_,A.lay⟩;have h1:p.lay≠-1:=by simpa using hly
         have h2:1≤p.lay:=A.lay.resolve_left h1;show (p.known.set p.lay.toNat _)[0]? = _;rw[List.getElem?_set_ne (by omega)];exact A.at_
        ·exact ⟨A.push,.inr (by show (1:Int)≤(p.known.length:Int);omega)⟩
       ·exact ⟨A.at_,A.lay⟩
theorem mId_head {E:Env} {p:PathV} {comp:ByteArray} {i ld:Nat} {nd:Int} {last:Bool} {x:Int×Int} (A:Head x p):Head x (mId E p comp i ld nd last):=by
 unfold mId;split
 ·exact A
 ·obtain ⟨e,he,_⟩:=mNameEnd_eq (mWord E p comp (i+1) ld nd last) i ld last;rw[he];have h:=mWord_head (E:=E) (comp:=comp) (lo:=i+1) (ld:=ld) (nd:=nd) (last:=last) A;exact ⟨h.at_,h.lay⟩
theorem dStep_head {E:Env} {comp:ByteArray} {nd:Int} {x:Int×Int}:∀ (cs:List Nat) (d:DoV),Head x d.p→Head x (cs.foldl (dStep E comp nd) d).p
 | [],_,h=>h
 | c::cs,d,h=>dStep_head cs (dStep E comp nd d c) (mId_head h)
theorem isWrap_L (s:ByteArray):isWrap s=isWrapL (L s):=by
 unfold isWrap isWrapL;have hl:=L_length s
 by_cases c:2 < s.size
 ·rw[decide_eq_true c,decide_eq_true (by omega:3≤(L s).length),Bool.true_and,Bool.true_and]
  have h1:Lib.hasPrefix (L s) [95]=((L s)[0]? == some 95):=by
   cases hs:L s with
   | nil=>rw[hs] at hl;simp at hl;omega
   | cons a r =>
    show ((95:UInt8)==a && true)=(some a==some 95);rw[Bool.and_true,Bool.eq_iff_iff,beq_iff_eq,beq_iff_eq];exact ⟨fun h=>by rw[h],fun h=>by injection h with h;exact h.symm⟩
  have h2:Lib.hasSuffix (L s) [95]=((L s)[(L s).length - 1]? == some 95):=by
   rw[Bool.eq_iff_iff,beq_iff_eq,← List.getLast?_eq_getElem?];unfold Lib.hasSuffix;rw[List.isSuffixOf_iff_suffix];constructor
   ·rintro ⟨t,ht⟩;rw[← ht];simp
   ·intro h;rw[List.getLast?_eq_some_iff] at h;obtain ⟨t,ht⟩:=h;exact ⟨t,ht.symm⟩
  rw[h1,h2]
 ·rw[decide_eq_false c,decide_eq_false (by omega:¬ 3≤(L s).length),Bool.false_and,Bool.false_and]
theorem sCutF_none (n:List UInt8):∀ (g i:Nat),n.length - i≤g→sCutF n g i=[]→∀ j,i≤j→n[j]?≠some 46
 | 0,i,hg,_,j,hj=>by rw[List.getElem?_eq_none (by omega)];simp
 | g+1,i,hg,h,j,hj=>by
  rw[sCutF] at h;split at h
  ·rw[List.getElem?_eq_none (by omega)];simp
  ·split at h
   ·cases h
   ·rename_i hne
    by_cases c:j=i
    ·rw[c];exact hne
    ·exact sCutF_none n g (i+1) (by omega) h j (by omega)
theorem sCutF_dot (n:List UInt8):∀ (g i c:Nat),c∈sCutF n g i→i≤c∧n[c]? = some 46
 | 0,_,_,h=>by cases h
 | g+1,i,c,h=>by
  rw[sCutF] at h;split at h
  ·cases h
  ·split at h
   ·rename_i hd
    rcases List.mem_cons.1 h with h | h
    ·subst h;exact ⟨Nat.le_refl _,hd⟩
    ·have:=sCutF_dot n g _ c h
     have hn:i+1≤sNext n i:=by
      unfold sNext;split
      ·split
       ·rename_i e he
        have:=wEndF_lt n _ _ _ he;omega
       ·exact Nat.le_refl _
      ·exact Nat.le_refl _
     exact ⟨by omega,this.2⟩
   ·have:=sCutF_dot n g _ c h;exact ⟨by omega,this.2⟩
theorem wordsP_first {E:Env} {comp T:ByteArray} {q:Nat} {pre n:List UInt8} (S:Split (L T) pre n) (hq:pre.length=q+1) {lay:Bool} (K:WordsK lay n) {p:PathV} (hp:p.s=T) (hk:p.known=[]) (hl:p.lay = -1) (hc:p.cHigh = -1) :
 (sCuts n=[]→wordsP E comp p q n=p)∧∀ c,(sCuts n).getLast? = some c→Head (((q+1+c+1:Nat):Int),(T.size:Int)) (wordsP E comp p q n):=by
 constructor
 ·intro h;unfold wordsP wordsD;rw[h];rfl
 ·intro c hcl;have hne:sCuts n≠[]:=by intro h;rw[h] at hcl;cases hcl
  have hrev:(sCuts n).reverse=c::((sCuts n).reverse.tail):=by
   rw[List.getLast?_eq_head?_reverse] at hcl
   cases hr:(sCuts n).reverse with
   | nil=>rw[hr] at hcl;cases hcl
   | cons a r=>rw[hr] at hcl;injection hcl with h;subst h;rfl
  have hword:Head (((q+1+c+1:Nat):Int),(T.size:Int)) (mId E p comp (q+1+c) 0 ((sCuts n).length:Int) false):=by
   rw[mId_eq hc];obtain ⟨e,he,_⟩:=mNameEnd_eq (mWord E p comp (q+1+c+1) 0 ((sCuts n).length:Int) false) (q+1+c) 0 false;rw[he];have hih:idHigh p 0=T.size:=by unfold idHigh;rw[if_pos hk,hp]
   have hw:isWrap (p.s.extract (q+1+c+1) T.size)=false:=by
    rw[isWrap_L,hp,L_extract,S.eq,show q+1+c+1=pre.length+(c+1) by omega,← List.drop_drop,List.drop_left,List.take_of_length_le]
    ·exact (K.last c hcl).1
    ·have:=L_length T;rw[S.eq,List.length_append] at this;rw[List.length_drop];omega
   unfold mWord;simp only;rw[hih,hw];simp only[Bool.false_eq_true,if_false];rw[if_pos hk];refine ⟨?_,.inl hl⟩;show (p.known++[_])[0]? = _;rw[hk];rfl
  have hD:Head (((q+1+c+1:Nat):Int),(T.size:Int)) (wordsD E comp p (q+1) n).p:=by
   unfold wordsD;rw[hrev,List.map_cons,List.foldl_cons];exact dStep_head _ _ hword
  unfold wordsP;split
  ·exact mId_head hD
  ·exact hD
theorem mPath_first (E:Env) (comp s:ByteArray) {lay:Bool} (K:WordsK lay ((mText (L s)).drop (behind (mText (L s))))) :
 (∀ j:Nat,(L (mName (mPath E comp s)))[j]?≠some 46)∧(mPath E comp s).known=[] ∨
 ∃ c:Nat,(L (mPath E comp s).s)[c]? = some 46∧(mPath E comp s).cHigh≤c∧(mPath E comp s).known[0]? = some (((c+1:Nat):Int),((mPath E comp s).s.size:Int)):=by
 obtain ⟨T,q,pre,n,d,a,b,hl,S,hpl,h47,hm,hI,hd⟩:=mPath_words E comp s;obtain ⟨t,c,l,e,_⟩:=mEnd_same E comp d;have hn:=S.behind;rw[← hl,hn.1,← hn.2] at K;obtain ⟨w1,w2⟩:=wordsP_first (E:=E) (comp:=comp) S hpl K (p:=mStart { pathZero with comp:=comp } T) rfl rfl rfl rfl
 have hsame:(wordsP E comp (mStart { pathZero with comp:=comp } T) q n).s=T:=by
  have hD:Same (mStart { pathZero with comp:=comp } T) (wordsD E comp (mStart { pathZero with comp:=comp } T) (q+1) n).p:=dStep_keeps ((sCuts n).reverse.map (q+1 + ·)) ⟨mStart { pathZero with comp:=comp } T,0,0⟩;unfold wordsP;split
  ·rw[(mId_keeps _ _ _ _ _ _ _).s];exact hD.s
  ·exact hD.s
 rw[hm,e];have es:(mNamed d.p).s=T:=by show d.p.s=T;rw[hd];exact hsame
 cases hg:(sCuts n).getLast? with
 | none =>
  left;have hn0:sCuts n=[]:=List.getLast?_eq_none_iff.1 hg;refine ⟨fun j=>?_,?_⟩
  ·have e2:L (frm T ((q:Int)+1))=n:=by
    rw[show (q:Int)+1=((q+1:Nat):Int) by omega,L_frm,← hpl,S.eq,List.drop_left]
   have:mName { mNamed d.p with typ:=t,sec:=c,lay:=l }=frm T ((q:Int)+1):=by
    unfold mName;show frm (mNamed d.p).s d.p.cHigh=_;rw[es,hd]
   rw[this,e2];exact sCutF_none n _ 0 (by omega) hn0 j (Nat.zero_le _)
  ·show d.p.known=[];rw[hd];show (wordsP E comp (mStart { pathZero with comp:=comp } T) q n).known=[];rw[w1 hn0];rfl
 | some x =>
  right;have hH:=w2 x hg;have hdot:=(sCutF_dot n _ _ x (List.mem_of_getLast? hg)).2;refine ⟨q+1+x,?_,?_,?_⟩
  ·show (L (mNamed d.p).s)[q+1+x]? = _;rw[es,S.eq,← hpl,List.getElem?_append_right (by omega),Nat.add_sub_cancel_left];exact hdot
  ·show d.p.cHigh≤_;rw[hd];show (q:Int)+1≤_;omega
  ·show d.p.known[0]? = some (_,((mNamed d.p).s.size:Int));rw[es,hd];exact hH.at_
end Go.Proofs.YtjlaamcklhdhaaaGreatDoor.Path
namespace Go.Proofs.YtjlaamcklhdhaaaGreatDoor.Path
open Go.RowKit Go.Proofs.YtjlaamcklhdhaaaGreatDoorW.PrintWords Go.Proofs.YtjlaamcklhdhaaaGreatDoor.Base Go.Proofs.YtjlaamcklhdhaaaGreatDoor.PCore
theorem begins_some (s t:ByteArray):laws_begins.f s t=some ((L t).isPrefixOf (L s)):=by
 unfold laws_begins.f
 have e:∀ r:Bool,(r=true↔(L t) <+: (L s))→(L t).isPrefixOf (L s)=r:=by
  intro r h;rw[Bool.eq_iff_iff,List.isPrefixOf_iff_prefix,h]
 by_cases c:(s.size:Int)≥(t.size:Int)
 ·rw[if_pos c,if_pos (by omega),if_pos (by omega)];refine congrArg some (e _ ?_).symm;rw[L_toList,L_toList,L_extract,beq_iff_eq,Int.toNat_natCast,List.drop_zero,Nat.sub_zero,← L_length];exact ⟨fun h=>h▸List.take_prefix _ _,fun h=>(List.prefix_iff_eq_take.1 h).symm⟩
 ·rw[if_neg c];refine congrArg some (e _ ?_).symm;refine ⟨(fun h=>by cases h),fun h=>?_⟩;have:=h.length_le;rw[L_length,L_length] at this;omega
theorem begins_calls (s t:ByteArray) (w:World):Calls Tryz.prog 18 #[.string s,.string t] w fun e w'=>e = .returned (.bool ((L t).isPrefixOf (L s)))∧Below w.heap.size w w' :=
 (laws_begins.calls s t _ w (begins_some s t)).mono fun _ _ ⟨h1,h2⟩=>⟨h1,h2.below⟩
end Go.Proofs.YtjlaamcklhdhaaaGreatDoor.Path
namespace Go.Proofs.YtjlaamcklhdhaaaGreatDoor.Ext
open Go.RowKit Go.Proofs.YtjlaamcklhdhaaaGreatDoorW.PrintWords Go.Proofs.YtjlaamcklhdhaaaGreatDoor.Base Go.Proofs.YtjlaamcklhdhaaaGreatDoor.PCore
def inside (t:List UInt8):List UInt8→Bool
 | []=>t.isEmpty
 | c::r=>t.isPrefixOf (c::r) || inside t r
theorem inside_short (t:List UInt8):∀ l:List UInt8,l.length < t.length→inside t l=false
 | [],h=>by cases t with | nil=>simp at h | cons=>rfl
 | c::r,h=>by
  have h1:t.isPrefixOf (c::r)=false:=by
   rw[Bool.eq_false_iff];intro hp;have:=(List.isPrefixOf_iff_prefix.1 hp).length_le;omega
  simp only[inside,h1,Bool.false_or];exact inside_short t r (by simp at h;omega)
theorem prefix_take (t l:List UInt8):t.isPrefixOf l=decide (l.take t.length=t):=by
 rw[Bool.eq_iff_iff,List.isPrefixOf_iff_prefix,decide_eq_true_iff];constructor
 ·rintro ⟨u,rfl⟩;simp
 ·intro h;rw[← h];exact List.take_prefix _ _
theorem extract_at (s:ByteArray) (i n:Nat):(s.extract i (i+n)).toList=((L s).drop i).take n:=by
 rw[L_toList,L_extract];congr 1;omega
theorem ev_holds_l0 (s t:ByteArray) (hs:s.size≤140737488355328) (ht:t.size≤140737488355328) (ht0:0 < t.size) (d:Nat):∀ i:Nat,s.size - i=d→i≤s.size→Ev (fun k=>laws_holds.l0 k s t i) (inside (L t) ((L s).drop i)):=by
 have hl:=L_length s;have hlt:=L_length t
 induction d with
 | zero =>
  intro i h1 h2;rw[inside_short (L t) _ (by simp;omega)];refine Ev.step (f:=fun _=>some false) (fun k=>?_) (Ev.now _);simp only[laws_holds.l0];rw[if_neg (by rw[w64 (by omega) (by omega)];omega)]
 | succ d ih =>
  intro i h1 h2
  by_cases hfit:i+t.size≤s.size
  ·have hi:i < (L s).length:=by omega
   have e:(L s).drop i=(L s)[i]::(L s).drop (i+1):=List.drop_eq_getElem_cons hi;have hx:(s.extract i (i+t.size)).toList=((L s).drop i).take (L t).length:=by rw[extract_at,hlt]
   by_cases h:((L s).drop i).take (L t).length=L t
   ·have e2:inside (L t) ((L s).drop i)=true:=by
     have:(L t).isPrefixOf ((L s)[i]::(L s).drop (i+1))=true:=by rw[prefix_take,← e];simpa using h
     rw[e];simp only[inside,this,Bool.true_or]
    rw[e2];refine Ev.step (f:=fun _=>some true) (fun k=>?_) (Ev.now _);simp only[laws_holds.l0];rw[w64 (n:=(i:Int)+t.size) (by omega) (by omega),if_pos (by omega),if_pos (by omega),if_pos (by omega)];rw[show ((i:Int)+(t.size:Int)).toNat=i+t.size from by omega,show ((i:Nat):Int).toNat=i from by omega,hx,if_pos (by rw[h,L_toList])]
   ·have e2:inside (L t) ((L s).drop i)=inside (L t) ((L s).drop (i+1)):=by
     have:(L t).isPrefixOf ((L s)[i]::(L s).drop (i+1))=false:=by rw[prefix_take,← e];simpa using h
     rw[e];simp only[inside,this,Bool.false_or]
    rw[e2];refine Ev.step (f:=fun k=>laws_holds.l0 k s t ((i+1:Nat):Int)) (fun k=>?_) (ih (i+1) (by omega) (by omega));simp only[laws_holds.l0];rw[w64 (n:=(i:Int)+t.size) (by omega) (by omega),if_pos (by omega),if_pos (by omega),if_pos (by omega)];rw[show ((i:Int)+(t.size:Int)).toNat=i+t.size from by omega,show ((i:Nat):Int).toNat=i from by omega,hx,if_neg (by rw[L_toList];exact h),w64 (by omega) (by omega)];rfl
  ·rw[inside_short (L t) _ (by simp;omega)];refine Ev.step (f:=fun _=>some false) (fun k=>?_) (Ev.now _);simp only[laws_holds.l0];rw[if_neg (by rw[w64 (by omega) (by omega)];omega)]
theorem ev_holds (s t:ByteArray) (hs:s.size≤140737488355328) (ht:t.size≤140737488355328) (ht0:0 < t.size):Ev (fun k=>laws_holds.f k s t) (inside (L t) (L s)):=by
 have h:=ev_holds_l0 s t hs ht ht0 s.size 0 (by omega) (by omega);exact h
theorem inside_one (c:UInt8):∀ l:List UInt8,inside [c] l=decide (c∈l)
 | []=>rfl
 | a::r=>by
  simp only[inside,inside_one c r,List.isPrefixOf,Bool.and_true];rw[Bool.eq_iff_iff];simp
end Go.Proofs.YtjlaamcklhdhaaaGreatDoor.Ext
