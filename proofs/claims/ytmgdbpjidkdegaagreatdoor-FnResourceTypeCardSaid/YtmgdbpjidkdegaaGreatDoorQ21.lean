/- Texts that the law leans on: Known, LawKit, Take, PTextsx0, PTextsx1, PTextsx. Condition: as told at each. -/
import Derived.Test.YtmgdbpjidkdegaaGreatDoorProg
import Derived.Below
import Derived.Deep.Draws
import Derived.Deep.AppendLies
import Derived.Maps.AppendAt
import Derived.OwnWalk
import Derived.Laws.BytesArg
import Derived.Laws.MakeOwn
import Derived.Laws.OwnMore
import Derived.Deep.OwnRows
import Derived.Tactics
import Derived.Lib.ConvBytes
import Derived.Laws.Slices
import Derived.WalkKit
import Derived.KernelRfl
import Derived.RowKit3
import Derived.Deep.LoopGhost
import Derived.Deep.QuietTactic
import Derived.BigQuiet
import Derived.WideLaws
import Derived.Deep.DeepCutAuto
import Derived.Deep.CutBlock
import Derived.Deep.RegionHeld3
import Derived.Laws.Rows
import Derived.Lib.AppendStr
import Derived.ArgAppend
import Derived.Laws.IdiomCopy
import Derived.OrdersHeld
import Derived.Laws.BitsLemmas
import Derived.RowKit
import Derived.Laws.StructEq
import Derived.Test.YtmgdbpjidkdegaaGreatDoorQa
import Derived.Test.YtmgdbpjidkdegaaGreatDoorQ20
set_option linter.unusedVariables false
set_option linter.unusedSimpArgs false
set_option linter.unusedSimpArgs false
set_option linter.unusedVariables false
namespace Go.Proofs.YtmgdbpjidkdegaaGreatDoor.Path
open Go.RowKit Go.WideMaps Go.Proofs.YtmgdbpjidkdegaaGreatDoorW.PrintWords Go.Proofs.YtmgdbpjidkdegaaGreatDoor.Base Go.Proofs.YtmgdbpjidkdegaaGreatDoor.Lower Go.Proofs.YtmgdbpjidkdegaaGreatDoor.Total Go.Proofs.YtmgdbpjidkdegaaGreatDoor.PCore
theorem results_cell2 {P:Program} {fn:Func} {tmps:Array Value} {a u:Nat} {t:TypeId} {v:Value} {w:World} {x:Addr} (hf:fn.results = #[.cell a t,.tmp u]) (ha:tmps.getD a undef = .pointer (some x)) (hl:(loadVar t x).run P w = .ok v w) :
 (results fn tmps).run P w = .ok (.tuple #[v,tmps.getD u undef]) w:=by
 unfold results;rw[hf];have ha' : tmps[a]?.getD undef = .pointer (some x):=by simpa using ha
 simp[Sem.run_bind,ha',hl,asAddr]
theorem told_store {ops:Array Oper} {rest:List Oper} {op:Oper} {a:Act} {w:World} {Q:Exit→Act→World→Prop} (hgd:op.guard=none) (x y:Operand) (ho:op.op = .store 32 x y) (b:Nat) (C:Array Value)
 (hx:a.eval x = .pointer (some ⟨b,0,none⟩)) (hy:a.eval y = .agg C) {cs:List Value} (hR:Row w b cs) (hcs:cs.length=31) (hC:C.size=31) (hone:C.all (·.oneCell')=true) (h:wpList Tryz.prog ops Q rest (a.put op.dst undef) (w.setCells b 0 C.toList)) :
 wpList Tryz.prog ops Q (op::rest) a w:=by
 have ht:w.there b 0 31:=hcs▸hR.there;exact wpList_store_mid hgd 32 x y ho b 0 C hx hy (by rw[hC];exact ht) (by rw[hC];kernel_rfl) hone h
theorem told_stored {w:World} {b:Nat} {C:Array Value} {cs:List Value} (hR:Row w b cs) (hcs:cs.length=31) (hC:C.size=31):(loadVar 32 ⟨b,0,none⟩).run Tryz.prog (w.setCells b 0 C.toList) = .ok (.agg C) (w.setCells b 0 C.toList):=by
 have ht:w.there b 0 31:=hcs▸hR.there;have hl:C.toList.length=31:=by simpa using hC
 have hr:=World.rangeAt_setCells_same w b 0 C.toList (by rw[hl];exact ht);have hld:=run_loadVar_mid (P:=Tryz.prog) _ b 0 32 C.toList _ hr Tryz.underlying32 rfl (by rw[hl];kernel_rfl)
 simpa using hld
def tZero:ToldV:=⟨⟨#[]⟩,⟨#[]⟩,⟨#[]⟩,⟨#[]⟩,⟨#[]⟩,⟨#[]⟩,⟨#[]⟩,⟨#[]⟩,⟨#[]⟩,⟨#[]⟩,⟨#[]⟩,⟨#[]⟩,⟨#[]⟩,⟨#[]⟩,⟨#[]⟩,⟨#[]⟩,⟨#[]⟩,⟨#[]⟩,⟨#[]⟩,⟨#[]⟩,⟨#[]⟩,[],[],[],false,false,false,false,false,false,0⟩
section
variable {w:World} {st:SiteV} {vl vd vf vc:Value}
set_option maxRecDepth 100000 in
set_option maxHeartbeats 4000000 in
theorem known_calls (S:SiteArg w st vl vd vf vc) (hf:fitsS st=true) (comp s:ByteArray) (hc:comp.size≤MM) (hs:s.size≤MM) :
 ∃ ok:Bool,(ok=true→SiteOk st∧asc s∧asc comp∧s.size≤400∧comp.size≤2000∧PathKS st comp s) ∧
 Calls Tryz.prog 22 #[.agg #[vl,vd,vf,vc],.string comp,.string s] w fun e w' =>
  ∃ t l1 l2 l3 v1 v2 v3,e = .returned (.tuple #[toldVal t v1 v2 v3,.bool ok])∧(StrRow w' w.heap.size v1 l1∧StrRow w' w.heap.size v2 l2∧StrRow w' w.heap.size v3 l3) ∧
   (ok=true→t=mTold (mPath (envOf st) comp (norm s))∧l1=mLangs (mPath (envOf st) comp (norm s))∧l2=mIds (mPath (envOf st) comp (norm s))∧l3=mUnk (mPath (envOf st) comp (norm s)))∧Below w.heap.size w w':=by
 obtain ⟨b1,hb1⟩:∃ b1,shortS st comp s=b1:=⟨_,rfl⟩
 obtain ⟨b2,hb2,hk2⟩:∃ b2:Bool,(b1=true→b2=true→asc s∧asc comp∧s.size≤400∧PathKS st comp s)∧(b1=true→∀ w',Below w.heap.size w w'→Calls Tryz.prog 31 #[.agg #[vl,vd,vf,vc],.string comp,.string s] w' fun e w''=>e = .returned (.bool b2)∧Below w'.heap.size w' w''):=by
  cases b1 with
  | false=>exact ⟨false,fun h=>(by cases h),fun h=>(by cases h)⟩
  | true =>
   obtain ⟨r,h1,h2⟩:=pathKnown_calls S comp s hb1;exact ⟨r,fun _=>h1,fun _=>h2⟩
 refine ⟨b1 && b2,fun h=>?_,?_⟩
 ·simp only[Bool.and_eq_true] at h;obtain ⟨h1,h2⟩:=h;rw[h1] at hb1;have h3:=short_in hb1;have h4:=hb2 h1 h2;exact ⟨h3.1,h4.1,h4.2.1,h4.2.2.1,h3.2.1,h4.2.2.2⟩
 have HSA:=bR S;have HB1:=bR hb1;have HB2:=bR hb2;have HK2:=bR hk2;obtain ⟨Al,cl,rfl,_,_⟩:=S.l;obtain ⟨Ad,cd,rfl,_,_⟩:=S.d;obtain ⟨Af,cf,rfl,_,_⟩:=S.f;obtain ⟨Ac,cc,rfl,_,_⟩:=S.c;clear S hb1 hb2 hk2;have hB1:Below w.heap.size w (w.alloc (.cells #[.slice Al st.langs.length cl,.slice Ad st.dis.length cd,.slice Af st.fmts.length cf,.slice Ac st.cont.length cc] 25)):=(Below.refl _ _).alloc (Nat.le_refl _) _;have hR1:=Row.new w [.slice Al st.langs.length cl,.slice Ad st.dis.length cd,.slice Af st.fmts.length cf,.slice Ac st.cont.length cc] 25;have hs1:w.heap.size < (w.alloc (.cells #[.slice Al st.langs.length cl,.slice Ad st.dis.length cd,.slice Af st.fmts.length cf,.slice Ac st.cont.length cc] 25)).heap.size:=by simp
 go_enter Tryz.func22,Tryz.ntmps22;go_upto_region 1 with fail
 obtain ⟨w1,hw1⟩:∃ w1,w.alloc (.cells #[.slice Al st.langs.length cl,.slice Ad st.dis.length cd,.slice Af st.fmts.length cf,.slice Ac st.cont.length cc] 25)=w1:=⟨_,rfl⟩
 have hz1:w1.heap.size=w.heap.size+1:=by rw[← hw1];simp
 rw[hw1] at hB1 hR1 hs1 ⊢;clear hw1;have hB2:Below w1.heap.size w1 (w1.alloc (.cells toldZero.toArray 32)):=(Below.refl _ _).alloc (Nat.le_refl _) _;have hR2:Row (w1.alloc (.cells toldZero.toArray 32)) w1.heap.size toldZero:=Row.new w1 toldZero _;rw[show toldZero.toArray=TZ from rfl] at hB2 hR2
 obtain ⟨w2,hw2⟩:∃ w2,w1.alloc (.cells TZ 32)=w2:=⟨_,rfl⟩
 rw[hw2] at hB2 hR2;change Code.wp _ _ _ _ (w1.alloc (.cells TZ 32));rw[hw2];clear hw2;rw[hz1] at hR2;have hB:Below w.heap.size w w2:=hB1.trans (hB2.mono bA);have hRs:=hR1.below hB2 hs1;have HRS:=bR hRs;have r0:=hRs.at 0 _ rfl;have r1:=hRs.at 1 _ rfl;have r2:=hRs.at 2 _ rfl;have r3:=hRs.at 3 _ rfl;have HB:=bR hB;have HR2:=bR hR2;have hlt2:w.heap.size+1 < w2.heap.size:=hR2.lt bG;have hS2:=HSA.out.below hB;have cs:=short_calls hS2 hf comp s hc hs;rw[HB1.out] at cs;clear hB1 hR1 hs1 hB2 hR2 hB hRs hz1 hS2;go_wp2_with fail
 refine cs.mono ?_;rintro e w3 ⟨rfl,hb3⟩;have HB3:=bR hb3;clear cs r0 r1 r2 r3;have hRs:=HRS.out.below hb3 bA;have r0:=hRs.at 0 _ rfl;have r1:=hRs.at 1 _ rfl;have r2:=hRs.at 2 _ rfl;have r3:=hRs.at 3 _ rfl;clear hb3 hRs;have HRr:=bR (HR2.out.below HB3.out hlt2);cases b1
 ·go_upto_region 2 with fail
  clear r0 r1 r2 r3
  go_wp2_with (first | (refine told_store rfl _ _ rfl (w.heap.size+1) TZ rfl rfl HRr.out rfl rfl bB ?_) | fail)
  have hbel:Below w.heap.size w (w3.setCells (w.heap.size+1) 0 TZ.toList):=below_setCells (Nat.le_succ _) _ _ _ (HB.out.trans (HB3.out.mono HB.out.size));refine bodyPost_ret (results_cell2 Tryz.results22 rfl (told_stored HRr.out rfl rfl)) rfl ⟨tZero,[],[],[],.slice none 0 0,.slice none 0 0,.slice none 0 0,rfl,⟨StrRow.nil _ _ _ _,StrRow.nil _ _ _ _,StrRow.nil _ _ _ _⟩,(fun h=>by cases h),hbel⟩
 ·have cp:=HK2.out rfl w3 (HB.out.trans (HB3.out.mono HB.out.size));go_wp2_with fail
  refine cp.mono ?_;rintro e w4 ⟨rfl,hb4⟩;have HB4:=bR (below_step HB3.out hb4);clear cp r0 r1 r2 r3;have hRs:=(HRS.out.below HB3.out bA).below hb4 (by have:=HB3.out.size;omega);have r0:=hRs.at 0 _ rfl;have r1:=hRs.at 1 _ rfl;have r2:=hRs.at 2 _ rfl;have r3:=hRs.at 3 _ rfl;clear hb4 hRs;have HRr:=bR (HR2.out.below HB4.out hlt2);cases b2
  ·go_upto_region 2 with fail
   clear r0 r1 r2 r3
   go_wp2_with (first | (refine told_store rfl _ _ rfl (w.heap.size+1) TZ rfl rfl HRr.out rfl rfl bB ?_) | fail)
   have hbel:Below w.heap.size w (w4.setCells (w.heap.size+1) 0 TZ.toList):=below_setCells (Nat.le_succ _) _ _ _ (HB.out.trans (HB4.out.mono HB.out.size));refine bodyPost_ret (results_cell2 Tryz.results22 rfl (told_stored HRr.out rfl rfl)) rfl ⟨tZero,[],[],[],.slice none 0 0,.slice none 0 0,.slice none 0 0,rfl,⟨StrRow.nil _ _ _ _,StrRow.nil _ _ _ _,StrRow.nil _ _ _ _⟩,(fun h=>by cases h),hbel⟩
  ·have hok:=HB2.out (by first | rfl | trivial) (by first | rfl | trivial);have ho:=short_in HB1.out;have cP:=implParse_calls (HSA.out.toSiteIn.below (HB.out.trans (HB4.out.mono HB.out.size))) ho.1 comp s bA hok.1;clear hok ho;go_wp2_with fail
   refine cP.mono ?_;rintro e w5 ⟨v1,v2,v3,rfl,hT,hb5⟩;have HB5:=bR (below_step HB4.out hb5);have hz4:w.heap.size+1 < w4.heap.size:=Nat.lt_of_lt_of_le hlt2 HB4.out.size;have HT:=bR hT;obtain ⟨A1,c1,e1,_⟩:=HT.out.1;obtain ⟨A2,c2,e2,_⟩:=HT.out.2.1;obtain ⟨A3,c3,e3,_⟩:=HT.out.2.2;have HR5:=bR (HRr.out.below hb5 hz4);clear cP hb5 r0 r1 r2 r3 hT HRr
   obtain ⟨C,hC⟩:∃ C:Array Value,toldC (mTold (mPath (envOf st) comp (norm s))) v1 v2 v3=C:=⟨_,rfl⟩
   have hval:toldVal (mTold (mPath (envOf st) comp (norm s))) v1 v2 v3 = .agg C:=by rw[← hC];rfl
   have hCs:C.size=31:=by rw[← hC];rfl
   have hone:C.all (·.oneCell')=true:=by rw[← hC,e1,e2,e3];exact toldC_one _ _ _ _ _ _ _ _ _ _
   have HV:=bR hval;have HCS:=bR hCs;have HON:=bR hone;rw[hval];clear hval e1 e2 e3 hC hCs hone
   go_wp2_with (first | (refine told_store rfl _ _ rfl (w.heap.size+1) C rfl rfl HR5.out rfl HCS.out HON.out ?_) | fail)
   have hbel:Below w.heap.size w (w5.setCells (w.heap.size+1) 0 C.toList):=below_setCells (Nat.le_succ _) _ _ _ (HB.out.trans (HB5.out.mono HB.out.size));have hfar:∀ k,w4.heap.size≤k→(w5.setCells (w.heap.size+1) 0 C.toList).heap[k]? = w5.heap[k]?:=fun k hk=>setCells_far _ _ k bA;have s1:=HT.out.1.far fun k hk _=>hfar k hk;have s2:=HT.out.2.1.far fun k hk _=>hfar k hk;have s3:=HT.out.2.2.far fun k hk _=>hfar k hk;have hzw:w.heap.size≤w4.heap.size:=by omega
   refine bodyPost_ret (results_cell2 Tryz.results22 rfl (told_stored HR5.out rfl HCS.out)) rfl ⟨_,_,_,_,v1,v2,v3,?_,⟨s1.mono hzw,s2.mono hzw,s3.mono hzw⟩,fun _=>⟨rfl,rfl,rfl,rfl⟩,hbel⟩;rw[HV.out];rfl
end
end Go.Proofs.YtmgdbpjidkdegaaGreatDoor.Path
set_option linter.unusedSimpArgs false
set_option linter.unusedVariables false
namespace Go.Proofs.YtmgdbpjidkdegaaGreatDoor.Path
open Go.RowKit Go.WideMaps Go.Proofs.YtmgdbpjidkdegaaGreatDoorW.PrintWords Go.Proofs.YtmgdbpjidkdegaaGreatDoor.Base Go.Proofs.YtmgdbpjidkdegaaGreatDoor.Lower
theorem told_cells {w:World} {b:Nat} {C:Array Value} {cs:List Value} (hR:Row w b cs) (hcs:cs.length=31) (hC:C.size=31):∀ (j:Nat) (v:Value),C.toList[j]? = some v→(w.setCells b 0 C.toList).cell? ⟨b,j,none⟩=some v:=by
 have ht:w.there b 0 31:=hcs▸hR.there;have hl:C.toList.length=31:=by simpa using hC
 have hr:=World.rangeAt_setCells_same w b 0 C.toList (by rw[hl];exact ht);intro j v hv;have:=hr j v hv;rwa[Nat.zero_add] at this
theorem told_world (w:World) (C:Array Value):Below w.heap.size w ((w.alloc (.cells toldZero.toArray 32)).setCells w.heap.size 0 C.toList) :=
 below_setCells (Nat.le_refl _) _ _ _ ((Below.refl _ _).alloc (Nat.le_refl _) _)
end Go.Proofs.YtmgdbpjidkdegaaGreatDoor.Path
set_option linter.unusedSimpArgs false
set_option linter.unusedVariables false
namespace Go.Proofs.YtmgdbpjidkdegaaGreatDoor.Path
open Go.RowKit Go.WideMaps Go.Proofs.YtmgdbpjidkdegaaGreatDoorW.PrintWords Go.Proofs.YtmgdbpjidkdegaaGreatDoor.Base Go.Proofs.YtmgdbpjidkdegaaGreatDoor.Lower
section
variable {P:Program} {md:Region.Mode} {ops:Array Oper} {Q:Exit→Act→World→Prop} {S:World→Prop} {fuel:Nat} {listed:Array Bool} {a:Act} {w:World}
theorem takeD {i:Nat} {oi:Oper} {d:Option Tmp} {v:Value} (hi:ops[i]? = some oi) (hd:oi.dst=d)
 (hs:Region.noSelect ops=true) (hf:Region.free md ops listed i=true) (hr:(Region.ready md ops listed).contains i=true)
 (hQ:∀ c a w,Q (.panic c) (a.put d v) w→Q (.panic c) a w) (hy:YieldsIf P ops S oi v a) (hS:S w)
 (h:wpAnyH P md ops Q S fuel (listed.setIfInBounds i true) (a.put d v) w):wpAnyH P md ops Q S (fuel+1) listed a w:=by
 subst hd;exact wpAnyH_take hi hs hf hr hQ hy hS h
theorem comeD {i:Nat} {o:Oper} {d:Option Tmp} {v:Value} {w' : World} {rs:List Nat} (ho:ops[i]? = some o) (hd:o.dst=d) (hw:Region.wanted o (yielded ops a.tmps)=true)
 (step:∀ K:Act→World→Prop,K (a.put o.dst v) w'→Oper.wp P o a w K Q) (hS:S w')
 (h:wpAnyH P md ops Q S fuel (listed.setIfInBounds i true) (a.put d v) w')
 (more:AllReadyH P md ops Q S fuel listed a w rs):AllReadyH P md ops Q S fuel listed a w (i::rs):=by
 subst hd;refine AllReadyH.cons ho (fun K hK=>?_) more;rw[if_pos hw];exact step K (hK.out _ _ hS (fun _=>h))
end
section
variable {w:World} {o:Oper} {a:Act} {K:Act→World→Prop} {Q:Exit→Act→World→Prop}
set_option maxRecDepth 100000 in
theorem alloc_told (hop:o.op = .alloc 32) (h:K (a.put o.dst (.pointer (some ⟨w.heap.size,0,none⟩))) (w.alloc (.cells TZ 32))):Oper.wp Tryz.prog o a w K Q:=by
 unfold Oper.wp execOp;simp only[hop];go_simp;exact h
end
theorem there_TZ (w:World):(w.alloc (.cells TZ 32)).there w.heap.size 0 31:=(Row.new w toldZero _).there
theorem Row.range {w:World} {b:Nat} {cs:List Value} (H:Row w b cs):w.rangeAt b 0 cs:=by
 intro j v hv;rw[Nat.zero_add];obtain ⟨hj,e⟩:=List.getElem?_eq_some_iff.1 hv;rw[(H j hj).1,e]
theorem there_alloc {w:World} {b n:Nat} (h:w.there b 0 n) (o:Obj) (hb:b < w.heap.size):(w.alloc o).there b 0 n:=by
 intro j hj;have hh:(w.alloc o).heap[b]? = w.heap[b]?:=Below.heap_alloc w o b hb;obtain ⟨h1,h2⟩:=h j hj;exact ⟨by rw[World.cell?_of_block (a:=⟨b,0+j,none⟩) hh];exact h1,by rw[World.frozen?_of_block (a:=⟨b,0+j,none⟩) hh];exact h2⟩
theorem there_far {w w' : World} {b n:Nat} (h:w.there b 0 n) (hh:w'.heap[b]? = w.heap[b]?):w'.there b 0 n:=by
 intro j hj;obtain ⟨h1,h2⟩:=h j hj;exact ⟨by rw[World.cell?_of_block (a:=⟨b,0+j,none⟩) hh];exact h1,by rw[World.frozen?_of_block (a:=⟨b,0+j,none⟩) hh];exact h2⟩
theorem range_far {w w' : World} {b:Nat} {cs:List Value} (h:w.rangeAt b 0 cs) (hh:w'.heap[b]? = w.heap[b]?):w'.rangeAt b 0 cs:=by
 intro j v hv;rw[World.cell?_of_block (a:=⟨b,0+j,none⟩) hh];exact h j v hv
end Go.Proofs.YtmgdbpjidkdegaaGreatDoor.Path
namespace Go.Proofs.YtmgdbpjidkdegaaGreatDoor.PTexts
open Go.RowKit Go.Proofs.YtmgdbpjidkdegaaGreatDoorW.PrintWords Go.Proofs.YtmgdbpjidkdegaaGreatDoorW.PrintLast Go.Proofs.YtmgdbpjidkdegaaGreatDoorW.PrintMore
attribute [local go_sem] max2_int min2_int max_two min_two max_three min_three max_four min_four   -- for this text's walks alone
set_option linter.unusedVariables false
set_option linter.unusedSimpArgs false
def errW:Option Int→Value
 | none=>.nilIface
 | some c=>.iface 0 (.int .i64 c)
theorem errW_none:errW none = .nilIface:=rfl
theorem errW_some (c:Int):errW (some c) = .iface 0 (.int .i64 c):=rfl
end Go.Proofs.YtmgdbpjidkdegaaGreatDoor.PTexts
namespace Go.Proofs.YtmgdbpjidkdegaaGreatDoor.PTexts
open Go.RowKit Go.Proofs.YtmgdbpjidkdegaaGreatDoorW.PrintWords Go.Proofs.YtmgdbpjidkdegaaGreatDoorW.PrintLast Go.Proofs.YtmgdbpjidkdegaaGreatDoorW.PrintMore
attribute [local go_sem] max2_int min2_int max_two min_two max_three min_three max_four min_four   -- for this text's walks alone
set_option linter.unusedVariables false
set_option linter.unusedSimpArgs false
def laws_texts.l0:Nat→List ByteArray→List ByteArray→Int→Int→Option (Bool)
 | 0,_,_,_,_=>none
 | k+1,x0,x1,x12,x13=>if x13 < x12 then (if 0≤x13 then (if x13 < (x0.length:Int) then (if x13 < (x1.length:Int) then (if (rdOf ByteArray.empty x0 x13).toList=(rdOf ByteArray.empty x1 x13).toList then (laws_texts.l0 k x0 x1 x12 (wrap64 (x13+1))) else (some false)) else (none)) else (none)) else (none)) else (some true)
def laws_texts.f (k:Nat) (l0:List ByteArray) (l1:List ByteArray):Option (Bool):=if (l0.length:Int)=(l1.length:Int) then (laws_texts.l0 k l0 l1 (l0.length:Int) 0) else (some false)
theorem laws_texts.mono_l:∀ k,(∀ y0 y1 y2 y3,LeO (laws_texts.l0 k y0 y1 y2 y3) (laws_texts.l0 (k+1) y0 y1 y2 y3))
 | 0=>fun _ _ _ _ r h=>by simp[laws_texts.l0] at h
 | k+1=>by
  have ih0:=laws_texts.mono_l k
  ·intro y0 y1 y2 y3;unfold laws_texts.l0
   exact cL
theorem laws_texts.mono:∀ a0 a1 k,LeO (laws_texts.f k a0 a1) (laws_texts.f (k+1) a0 a1):=by
 intro a0 a1 k;have ih0:=laws_texts.mono_l k;unfold laws_texts.f
 exact cL
set_option maxHeartbeats 8000000 in
set_option maxRecDepth 100000 in
theorem laws_texts.calls (k:Nat) (A0:Option Addr) (c0:Nat) (l0:List ByteArray) (A1:Option Addr) (c1:Nat) (l1:List ByteArray) (r:Bool) (w:World) (hr0:Kd.C Kd.string w A0 l0.length l0) (hc0:l0.length≤c0) (hr1:Kd.C Kd.string w A1 l1.length l1) (hc1:l1.length≤c1) (h:laws_texts.f k l0 l1=some r) :
 Calls Tryz.prog 28 #[.slice A0 l0.length c0,.slice A1 l1.length c1] w fun e w'=>e = .returned (.bool r)∧Drawn0 w w':=by
 have HR0:=bR hr0;have HC0:=bR hc0;clear hr0 hc0;have HR1:=bR hr1;have HC1:=bR hc1;clear hr1 hc1;have H:(if (l0.length:Int)=(l1.length:Int) then (laws_texts.l0 k l0 l1 (l0.length:Int) 0) else (some false))=some r:=h;clear h
 by_cases c3:(l0.length:Int)=(l1.length:Int)
 ·rw[if_pos c3] at H;have c3b0:((l0.length:Int)==(l1.length:Int))=true:=beq_iff_eq.mpr c3;have c3b1:((l0.length:Int) != (l1.length:Int))=false:=bne_eq_false_iff_eq.mpr c3;have c3b2:(l0.length==l1.length)=true:=by first | simpa using c3 | (simp at c3 ⊢;omega)
  clear c3;have H':=bR H;clear H;go_enter Tryz.func28,Tryz.ntmps28;go_wp2
  repeat (go_quiet (fail);try go_wp2)
  go_loopg [13] k (fun kq v13 w'=>∃ (x13_1:Int),v13 = .int .i64 x13_1∧Aside0 (laws_texts.l0 kq l0 l1 (l0.length:Int) x13_1=some r)∧Aside0 (kq≤k)∧Drawn0 w w')
  case atStart=>exact ⟨(0),bE,H',⟨Nat.le_refl _⟩,dA⟩
  case round =>
   clear H'
   try clear c1
   try clear c2
   try clear p2
   try clear c3
   try clear c3b0
   try clear c3b1
   try clear c3b2
   obtain ⟨x13_1,rfl,HA,HK1,⟨m1,rfl⟩⟩:=hrel
   cases gk with
   | zero=>exact absurd HA.out (by simp[laws_texts.l0])
   | succ k1 =>
    have H:=HA.out;clear HA;simp only[laws_texts.l0] at H
    by_cases c4:x13_1 < (l0.length:Int)
    ·rw[if_pos c4] at H;have c4b0:decide (x13_1 < (l0.length:Int))=true:=decide_eq_true c4;clear c4
     by_cases c5:0≤x13_1
     ·rw[if_pos c5] at H;have c5b0:decide (0≤x13_1)=true:=decide_eq_true c5;clear c5
      by_cases c6:x13_1 < (l0.length:Int)
      ·rw[if_pos c6] at H;have c6b0:decide (x13_1 < (l0.length:Int))=true:=decide_eq_true c6;clear c6
       by_cases c7:x13_1 < (l1.length:Int)
       ·rw[if_pos c7] at H;have c7b0:decide (x13_1 < (l1.length:Int))=true:=decide_eq_true c7;clear c7
        by_cases c8:(rdOf ByteArray.empty l0 x13_1).toList=(rdOf ByteArray.empty l1 x13_1).toList
        ·rw[if_pos c8] at H;have c8b0:((rdOf ByteArray.empty l0 x13_1).toList==(rdOf ByteArray.empty l1 x13_1).toList)=true:=beq_iff_eq.mpr c8;have c8b1:((rdOf ByteArray.empty l0 x13_1).toList != (rdOf ByteArray.empty l1 x13_1).toList)=false:=bne_eq_false_iff_eq.mpr c8;clear c8;have H':=bR H;clear H;have p101:0≤(x13_1:Int):=bQ;have q101:x13_1 < (l0.length:Int):=bQ;obtain ⟨ad101,e101,hx101_0⟩:=Kd.at_string HR0.out x13_1 p101 q101;cases e101;replace p101:=eq_true p101;replace q101:=eq_true q101;have p102:0≤(x13_1:Int):=bQ;have q102:x13_1 < (l1.length:Int):=bQ
         obtain ⟨ad102,e102,hx102_0⟩:=Kd.at_string HR1.out x13_1 p102 q102;cases e102;replace p102:=eq_true p102;replace q102:=eq_true q102;go_wp2
         repeat (go_quiet (fail);try go_wp2)
         go_roundg k1
         case measure=>have:=HK1.out;omega
         case rel=>exact ⟨(wrap64 (x13_1+1)),bE,H',⟨by have:=HK1.out;omega⟩,dA⟩
        ·rw[if_neg c8] at H;have c8b0:((rdOf ByteArray.empty l0 x13_1).toList==(rdOf ByteArray.empty l1 x13_1).toList)=false:=beq_eq_false_iff_ne.mpr c8;have c8b1:((rdOf ByteArray.empty l0 x13_1).toList != (rdOf ByteArray.empty l1 x13_1).toList)=true:=bne_iff_ne.mpr c8;obtain rfl:=Option.some.inj H;have p101:0≤(x13_1:Int):=bQ;have q101:x13_1 < (l0.length:Int):=bQ;obtain ⟨ad101,e101,hx101_0⟩:=Kd.at_string HR0.out x13_1 p101 q101;cases e101;replace p101:=eq_true p101;replace q101:=eq_true q101;have p102:0≤(x13_1:Int):=bQ;have q102:x13_1 < (l1.length:Int):=bQ
         obtain ⟨ad102,e102,hx102_0⟩:=Kd.at_string HR1.out x13_1 p102 q102;cases e102;replace p102:=eq_true p102;replace q102:=eq_true q102;go_wp2
         repeat (go_quiet (fail);try go_wp2)
         go_ret;exact ⟨cZ,dA⟩
       ·rw[if_neg c7] at H;exact absurd H bI
      ·rw[if_neg c6] at H;exact absurd H bI
     ·rw[if_neg c5] at H;exact absurd H bI
    ·rw[if_neg c4] at H;have c4b0:decide (x13_1 < (l0.length:Int))=false:=decide_eq_false c4;clear c4;obtain rfl:=Option.some.inj H;go_wp2
     repeat (go_quiet (fail);try go_wp2)
     go_ret;exact ⟨cZ,dA⟩
 ·rw[if_neg c3] at H;have c3b0:((l0.length:Int)==(l1.length:Int))=false:=beq_eq_false_iff_ne.mpr c3;have c3b1:((l0.length:Int) != (l1.length:Int))=true:=bne_iff_ne.mpr c3;have c3b2:(l0.length==l1.length)=false:=by first | simpa using c3 | (simp at c3 ⊢;omega)
  obtain rfl:=Option.some.inj H;go_enter Tryz.func28,Tryz.ntmps28;go_wp2
  repeat (go_quiet (fail);try go_wp2)
  go_ret;exact ⟨cZ,dA⟩
end Go.Proofs.YtmgdbpjidkdegaaGreatDoor.PTexts
namespace Go.Proofs.YtmgdbpjidkdegaaGreatDoor.PTexts
open Go.RowKit Go.Proofs.YtmgdbpjidkdegaaGreatDoorW.PrintWords Go.Proofs.YtmgdbpjidkdegaaGreatDoorW.PrintLast Go.Proofs.YtmgdbpjidkdegaaGreatDoorW.PrintMore
attribute [local go_sem] max2_int min2_int max_two min_two max_three min_three max_four min_four   -- for this text's walks alone
set_option linter.unusedVariables false
set_option linter.unusedSimpArgs false
end Go.Proofs.YtmgdbpjidkdegaaGreatDoor.PTexts
