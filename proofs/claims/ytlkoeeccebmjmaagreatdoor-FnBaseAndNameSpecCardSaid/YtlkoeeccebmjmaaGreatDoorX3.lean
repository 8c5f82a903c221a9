/- Texts that the law leans on: WLast, Apply0, Apply1. Condition: as told at each. -/
import Derived.OrdersHeld
import Derived.Deep.RegionHeld3
import Derived.Laws.BitsLemmas
import Derived.RowKit
import Derived.StillTailTactics
import Derived.Test.YtlkoeeccebmjmaaGreatDoorXa
import Derived.Test.YtlkoeeccebmjmaaGreatDoorX2
set_option linter.unusedVariables false
set_option linter.unusedSimpArgs false
set_option maxRecDepth 100000
set_option maxHeartbeats 16000000
namespace Go.ZW.PrintLast
section
variable {P:Program} {ops:Array Oper} {Q:Exit→Act→World→Prop} {md:Region.Mode} {S:World→Prop} {ds:List Nat}
def Region.reachB (md:Region.Mode) (ops:Array Oper) (i:Nat):Nat→Nat→Bool
 | 0,_=>false
 | fuel+1,d=>match ops[d]? with
  | some o=>o.after.any fun e=>Region.binds md e && (e.on==i || Region.reachB md ops i fuel e.on)
  | none=>false
def Region.closedB (md:Region.Mode) (ops:Array Oper) (listed:Array Bool):Bool :=
 (List.range ops.size).all fun j=>!listed.getD j false || match ops[j]? with
  | some o=>o.after.all fun e=>!Region.binds md e || listed.getD e.on false
  | none=>true
def Region.lastB (md:Region.Mode) (ops:Array Oper) (listed:Array Bool) (ds:List Nat) (i:Nat):Bool :=
 ds.all fun d=>listed.getD d true || Region.reachB md ops i ops.size d
def mH (md:Region.Mode) (ops:Array Oper) (listed:Array Bool):Prop :=
 ∀ j oj,ops[j]? = some oj→listed.getD j false=true→∀ e∈oj.after,Region.binds md e=true→listed.getD e.on false=true
theorem Region.closedB_spec {listed:Array Bool} (h:Region.closedB md ops listed=true):mH md ops listed:=by
 intro j oj hj hl e he hb;have hlt:j < ops.size:=(Array.getElem?_eq_some_iff.1 hj).1;have h1:=List.all_eq_true.1 h j (List.mem_range.2 hlt);simp only[hl,hj,Bool.not_true,Bool.false_or] at h1;have h2:=Array.all_eq_true_iff_forall_mem.1 h1 e he
 simpa [hb] using h2
theorem mH.set {listed:Array Bool} {i:Nat} (h:mH md ops listed) (hi:i∈Region.ready md ops listed):mH md ops (listed.setIfInBounds i true):=by
 obtain ⟨_,oi,hoi,hall⟩:=mem_ready.1 hi;intro j oj hj hl e he hb
 by_cases hij:i=j
 ·subst hij;have:oj=oi:=Option.some.inj (hj.symm.trans hoi);subst this;exact getD_set_true (hall e he hb)
 rw[getD_set_ne false hij] at hl;exact getD_set_true (h j oj hj hl e he hb)
theorem Region.reach_listed {listed:Array Bool} {i:Nat} (hc:mH md ops listed):∀ (fuel d:Nat),Region.reachB md ops i fuel d=true→listed.getD d false=true→listed.getD i false=true
 | 0,_,h,_=>by simp[Region.reachB] at h
 | fuel+1,d,h,hl=>by
  unfold Region.reachB at h
  cases ho:ops[d]? with
  | none=>rw[ho] at h;simp at h
  | some o =>
   rw[ho] at h;obtain ⟨e,he,h1⟩:=Array.any_eq_true'.1 h;simp only[Bool.and_eq_true,Bool.or_eq_true,beq_iff_eq] at h1;have hle:=hc d o ho hl e he h1.1;rcases h1.2 with h2 | h2
   ·rw[← h2];exact hle
   exact Region.reach_listed hc fuel e.on h2 hle
theorem Region.reach_not_ready {listed:Array Bool} {i d fuel:Nat} (hc:mH md ops listed) (hr:Region.reachB md ops i fuel d=true) (hun:listed.getD i true=false):d∉Region.ready md ops listed:=by
 intro hd;obtain ⟨_,o,ho,hall⟩:=mem_ready.1 hd
 have hi:listed.getD i false=true:=by
  cases fuel with
  | zero=>simp[Region.reachB] at hr
  | succ n =>
   unfold Region.reachB at hr;rw[ho] at hr;obtain ⟨e,he,h1⟩:=Array.any_eq_true'.1 hr;simp only[Bool.and_eq_true,Bool.or_eq_true,beq_iff_eq] at h1;have hle:=hall e he h1.1;rcases h1.2 with h2 | h2
   ·rw[← h2];exact hle
   exact Region.reach_listed hc n e.on h2 hle
 rcases Nat.lt_or_ge i listed.size with h' | h'
 ·simp[h'] at hun hi
  rw[hun] at hi;cases hi
 simp[Array.getElem?_eq_none h'] at hun
def fV (P:Program) (md:Region.Mode) (ops:Array Oper) (Q:Exit→Act→World→Prop) (S:World→Prop) (ds:List Nat):Nat→Array Bool→Act→World→Prop
 | 0,listed,a,w=>Region.ready md ops listed=[]∧Q .normal a w
 | fuel+1,listed,a,w =>
  (Region.ready md ops listed=[]→Q .normal a w) ∧
  ∀ i∈Region.ready md ops listed,wpOp P ops Q i (fun a' w'=>(i∉ds→S w→S w')∧fV P md ops Q S ds fuel (listed.setIfInBounds i true) a' w') a w
theorem uB:∀ (fuel:Nat) (listed:Array Bool) (a:Act) (w:World),fV P md ops Q S ds fuel listed a w→wpAny P md ops Q fuel listed a w
 | 0,_,_,_,h=>h
 | fuel+1,_,_,_,h=>⟨h.1,fun i hi=>wpOp_mono (fun a' w' h'=>uB fuel _ a' w' h'.2) (h.2 i hi)⟩
theorem zG {i:Nat} {oi:Oper} {v:Value} (hi:ops[i]? = some oi) (hsel:∀ (j:Nat) (o:Oper) cs b,ops[j]? = some o→o.op≠.select cs b)
 (hQ:∀ c a w,Q (.panic c) (a.put oi.dst v) w→Q (.panic c) a w) (n:Nat) :
 ∀ (fuel:Nat) (listed:Array Bool) (a:Act) (w:World),
  (∀ j oj,ops[j]? = some oj→j≠i→listed.getD j true=false→(∀ e∈oj.after,Region.binds md e=true→e.on≠i)→oi.apart ops oj=true) →
  mH md ops listed→(∀ d∈ds,listed.getD d true=false→Region.reachB md ops i n d=true) →
  i∈Region.ready md ops listed→YieldsIf P ops S oi v a→S w →
  fV P md ops Q S ds fuel (listed.setIfInBounds i true) (a.put oi.dst v) w→fV P md ops Q S ds (fuel+1) listed a w:=by
 intro fuel
 induction fuel with
 | zero =>
  intro listed a w _ _ _ hr hy hS H;refine ⟨fun h=>(by rw[h] at hr;cases hr),fun j hj=>?_⟩
  by_cases hji:j=i
  ·subst hji;exact hy.wpOp hi hS ⟨fun _ h=>h,H⟩
  have:=ready_mono hj hji;rw[H.1] at this;cases this
 | succ fuel ih =>
  intro listed a w hfree hc hd hr hy hS H;refine ⟨fun h=>(by rw[h] at hr;cases hr),fun j hj=>?_⟩
  by_cases hji:j=i
  ·subst hji;exact hy.wpOp hi hS ⟨fun _ h=>h,H⟩
  have h1:=H.2 j (ready_mono hj hji);obtain ⟨hjun,oj,hoj,hall⟩:=mem_ready.1 hj;have hiun:=(mem_ready.1 hr).1
  have hnot:∀ e∈oj.after,Region.binds md e=true→e.on≠i:=fun e he hb heq=>by
   have h1:=hall e he hb;rw[heq] at h1;rcases Nat.lt_or_ge i listed.size with h' | h'
   ·simp[h'] at hiun h1;rw[hiun] at h1;cases h1
   simp[Array.getElem?_eq_none h'] at h1
  have hjd:j∉ds:=fun hm=>Region.reach_not_ready hc (hd j hm hjun) hiun hj;have h2:=wpOp_putIf hoj (hfree j oj hoj hji hjun hnot) (fun cs b=>hsel i oi cs b hi) (fun cs b=>hsel j oj cs b hoj) hQ hy h1
  have hfree' : ∀ k ok,ops[k]? = some ok→k≠i→(listed.setIfInBounds j true).getD k true=false →
   (∀ e∈ok.after,Region.binds md e=true→e.on≠i)→oi.apart ops ok=true:=fun k ok hk hki hun hno=>by
   refine hfree k ok hk hki ?_ hno
   by_cases hjk:j=k
   ·subst hjk;exact hjun
   rw[getD_set_ne true hjk] at hun;exact hun
  have hd' : ∀ d∈ds,(listed.setIfInBounds j true).getD d true=false→Region.reachB md ops i n d=true:=fun d hm hun=>by
   refine hd d hm ?_
   by_cases hjk:j=d
   ·subst hjk;exact hjun
   rw[getD_set_ne true hjk] at hun;exact hun
  refine wpOp_mono (fun a' w' h3=>⟨h3.2.1,ih (listed.setIfInBounds j true) a' w' hfree' (hc.set hj) hd' (ready_mono hr (Ne.symm hji)) h3.1 (h3.2.1 hjd hS) ?_⟩) h2;rw[Array.setIfInBounds_comm _ _ hji];exact h3.2.2
theorem aBk {i:Nat} {oi:Oper} {v:Value} (hi:ops[i]? = some oi) (hsel:∀ (j:Nat) (o:Oper) cs b,ops[j]? = some o→o.op≠.select cs b)
 (hQ:∀ c a w,Q (.panic c) (a.put oi.dst v) w→Q (.panic c) a w) :
 ∀ (fuel:Nat) (listed:Array Bool) (a:Act) (w:World),
  (∀ j oj,ops[j]? = some oj→j≠i→listed.getD j true=false→(∀ e∈oj.after,Region.binds md e=true→e.on≠i)→oi.apart ops oj=true) →
  i∈Region.ready md ops listed→Yields P ops oi v a →
  fV P md ops Q S ds fuel (listed.setIfInBounds i true) (a.put oi.dst v) w→fV P md ops Q S ds (fuel+1) listed a w:=by
 intro fuel
 induction fuel with
 | zero =>
  intro listed a w _ hr hy H;refine ⟨fun h=>(by rw[h] at hr;cases hr),fun j hj=>?_⟩
  by_cases hji:j=i
  ·subst hji;exact (hy.yieldsIf (S:=fun _=>True)).wpOp hi trivial ⟨fun _ h=>h,H⟩
  have:=ready_mono hj hji;rw[H.1] at this;cases this
 | succ fuel ih =>
  intro listed a w hfree hr hy H;refine ⟨fun h=>(by rw[h] at hr;cases hr),fun j hj=>?_⟩
  by_cases hji:j=i
  ·subst hji;exact (hy.yieldsIf (S:=fun _=>True)).wpOp hi trivial ⟨fun _ h=>h,H⟩
  have h1:=H.2 j (ready_mono hj hji);obtain ⟨hjun,oj,hoj,hall⟩:=mem_ready.1 hj;have hiun:=(mem_ready.1 hr).1
  have hnot:∀ e∈oj.after,Region.binds md e=true→e.on≠i:=fun e he hb heq=>by
   have h1:=hall e he hb;rw[heq] at h1;rcases Nat.lt_or_ge i listed.size with h' | h'
   ·simp[h'] at hiun h1;rw[hiun] at h1;cases h1
   simp[Array.getElem?_eq_none h'] at h1
  have h2:=wpOp_put hoj (hfree j oj hoj hji hjun hnot) (fun cs b=>hsel i oi cs b hi) (fun cs b=>hsel j oj cs b hoj) hQ hy h1
  have hfree' : ∀ k ok,ops[k]? = some ok→k≠i→(listed.setIfInBounds j true).getD k true=false →
   (∀ e∈ok.after,Region.binds md e=true→e.on≠i)→oi.apart ops ok=true:=fun k ok hk hki hun hno=>by
   refine hfree k ok hk hki ?_ hno
   by_cases hjk:j=k
   ·subst hjk;exact hjun
   rw[getD_set_ne true hjk] at hun;exact hun
  refine wpOp_mono (fun a' w' h3=>⟨h3.2.1,ih (listed.setIfInBounds j true) a' w' hfree' (ready_mono hr (Ne.symm hji)) h3.1 ?_⟩) h2;rw[Array.setIfInBounds_comm _ _ hji];exact h3.2.2
theorem aAf {i:Nat} {oi:Oper} {v:Value} {fuel:Nat} {listed:Array Bool} {a:Act} {w:World} (hi:ops[i]? = some oi)
 (hs:Region.noSelect ops=true) (hf:Region.free md ops listed i=true) (hr:(Region.ready md ops listed).contains i=true)
 (hc:Region.closedB md ops listed=true) (hl:Region.lastB md ops listed ds i=true)
 (hQ:∀ c a w,Q (.panic c) (a.put oi.dst v) w→Q (.panic c) a w) (hy:YieldsIf P ops S oi v a) (hS:S w)
 (h:fV P md ops Q S ds fuel (listed.setIfInBounds i true) (a.put oi.dst v) w):fV P md ops Q S ds (fuel+1) listed a w :=
 zG hi (Region.noSelect_spec hs) hQ ops.size fuel listed a w (Region.free_spec hi hf) (Region.closedB_spec hc)
  (fun d hm hun=>by have:=List.all_eq_true.1 hl d hm;rw[hun] at this;simpa using this) (by simpa using hr) hy hS h
theorem aBj {rs:List Nat} {fuel:Nat} {listed:Array Bool} {a:Act} {w:World} (hr:Region.ready md ops listed=rs) (hne:rs≠[])
 (h:∀ i∈rs,wpOp P ops Q i (fun a' w'=>(i∉ds→S w→S w')∧fV P md ops Q S ds fuel (listed.setIfInBounds i true) a' w') a w):fV P md ops Q S ds (fuel+1) listed a w :=
 ⟨fun h0=>absurd (hr▸h0) hne,hr▸h⟩
theorem aAe {listed:Array Bool} {a:Act} {w:World} (hr:Region.ready md ops listed=[]) (h:Q .normal a w) :
 ∀ fuel,fV P md ops Q S ds fuel listed a w
 | 0=>⟨hr,h⟩
 | _+1=>⟨fun _=>h,by rw[hr];simp⟩
theorem aAg {id:Nat} {a:Act} {w:World} (hm:P.follows .mixedOrders=true)
 (h:fV P .any ops Q S ds ops.size (Array.replicate ops.size false) a { w with drawn:=w.drawn+1 }):(Code.region id ops true).wp P Q a w :=
 wp_region_any hm (uB _ _ _ _ h)
end
section
variable {P:Program} {ops:Array Oper} {Q:Exit→Act→World→Prop} {md:Region.Mode} {S:World→Prop} {ds:List Nat}
def kN (P:Program) (md:Region.Mode) (ops:Array Oper) (Q:Exit→Act→World→Prop) (S:World→Prop) (ds:List Nat) (fuel:Nat) (listed:Array Bool) (a:Act) (w:World) (rs:List Nat):Prop :=
 ∀ i∈rs,wpOp P ops Q i (fun a' w'=>(i∉ds→S w→S w')∧fV P md ops Q S ds fuel (listed.setIfInBounds i true) a' w') a w
theorem kN.nil {fuel:Nat} {listed:Array Bool} {a:Act} {w:World}:kN P md ops Q S ds fuel listed a w []:=fun _ h=>by cases h
theorem kN.cons {fuel:Nat} {listed:Array Bool} {a:Act} {w:World} {i:Nat} {o:Oper} {rs:List Nat} (ho:ops[i]? = some o) (hd:i∉ds)
 (h:∀ K' : Act→World→Prop,Shut (∀ a w,S w→(S w→fV P md ops Q S ds fuel (listed.setIfInBounds i true) a w)→K' a w)→if Region.wanted o (yielded ops a.tmps)=true then Oper.wp P o a w K' Q else K' (a.put o.dst undef) w)
 (hs:kN P md ops Q S ds fuel listed a w rs):kN P md ops Q S ds fuel listed a w (i::rs):=fun j hj=>by
 rcases List.mem_cons.1 hj with rfl | hj
 ·exact wpOp_step ho (fun K' hK=>h K' (fun a w hS hW=>hK a w ⟨fun _ _=>hS,hW hS⟩))
 exact hs j hj
theorem kN.cons_last {fuel:Nat} {listed:Array Bool} {a:Act} {w:World} {i:Nat} {o:Oper} {rs:List Nat} (ho:ops[i]? = some o) (hd:i∈ds)
 (h:∀ K' : Act→World→Prop,Shut (∀ a w,fV P md ops Q S ds fuel (listed.setIfInBounds i true) a w→K' a w)→if Region.wanted o (yielded ops a.tmps)=true then Oper.wp P o a w K' Q else K' (a.put o.dst undef) w)
 (hs:kN P md ops Q S ds fuel listed a w rs):kN P md ops Q S ds fuel listed a w (i::rs):=fun j hj=>by
 rcases List.mem_cons.1 hj with rfl | hj
 ·exact wpOp_step ho (fun K' hK=>h K' (fun a w hW=>hK a w ⟨fun hn=>absurd hd hn,hW⟩))
 exact hs j hj
theorem sC {rs:List Nat} {fuel:Nat} {listed:Array Bool} {a:Act} {w:World} (hr:Region.ready md ops listed=rs) (hne:rs≠[])
 (h:kN P md ops Q S ds fuel listed a w rs):fV P md ops Q S ds (fuel+1) listed a w:=aBj hr hne h
theorem hY {id n:Nat} {a:Act} {w:World} (l:Array Bool) (hm:P.follows .mixedOrders=true) (hn:ops.size=n) (hl:Array.replicate n false=l) (hS:S w.drew)
 (h:S w.drew→fV P .any ops Q S ds n l a w.drew):(Code.region id ops true).wp P Q a w:=by
 subst hn;subst hl;exact aAg hm (h hS)
def takeB (md:Region.Mode) (ops:Array Oper) (ds:List Nat) (l l' : Array Bool) (i:Nat):Bool :=
 Region.noSelect ops && Region.free md ops l i && (Region.ready md ops l).contains i && Region.closedB md ops l && Region.lastB md ops l ds i && (l.setIfInBounds i true==l')
theorem take_ {i:Nat} {N:Option Tmp} {oi:Oper} {v:Value} {fuel:Nat} {l:Array Bool} {a:Act} {w:World} (l' : Array Bool) (hi:ops[i]? = some oi) (hN:oi.dst=N) (hc:takeB md ops ds l l' i=true)
 (hQ:∀ c a w,Q (.panic c) (a.put oi.dst v) w→Q (.panic c) a w) (hy:YieldsIf P ops S oi v a) (hS:S w) {a' : Act} (ha:a.put N v=a')
 (h:fV P md ops Q S ds fuel l' a' w):fV P md ops Q S ds (fuel+1) l a w:=by
 subst ha;subst hN;simp only[takeB,Bool.and_eq_true,beq_iff_eq] at hc;obtain ⟨⟨⟨⟨⟨h1,h2⟩,h3⟩,h4⟩,h5⟩,h6⟩:=hc;subst h6;exact aAf hi h1 h2 h3 h4 h5 hQ hy hS h
def zM (md:Region.Mode) (ops:Array Oper) (l l' : Array Bool) (i:Nat):Bool :=
 Region.noSelect ops && Region.free md ops l i && (Region.ready md ops l).contains i && (l.setIfInBounds i true==l')
theorem nP {i:Nat} {N:Option Tmp} {oi:Oper} {v:Value} {fuel:Nat} {l:Array Bool} {a:Act} {w:World} (l' : Array Bool) (hi:ops[i]? = some oi) (hN:oi.dst=N) (hc:zM md ops l l' i=true)
 (hQ:∀ c a w,Q (.panic c) (a.put oi.dst v) w→Q (.panic c) a w) (hy:Yields P ops oi v a) {a' : Act} (ha:a.put N v=a')
 (h:fV P md ops Q S ds fuel l' a' w):fV P md ops Q S ds (fuel+1) l a w:=by
 subst ha;subst hN;simp only[zM,Bool.and_eq_true,beq_iff_eq] at hc;obtain ⟨⟨⟨h1,h2⟩,h3⟩,h6⟩:=hc;subst h6;exact aBk hi (Region.noSelect_spec h1) hQ fuel l a w (Region.free_spec hi h2) (by simpa using h3) hy h
def qH (md:Region.Mode) (ops:Array Oper) (l l' : Array Bool) (i:Nat):Bool:=(Region.ready md ops l==[i]) && (l.setIfInBounds i true==l')
theorem aHu {i:Nat} {N:Option Tmp} {oi:Oper} {fuel:Nat} {l:Array Bool} {a:Act} {w:World} (l' : Array Bool) (hi:ops[i]? = some oi) (hN:oi.dst=N) (hc:qH md ops l l' i=true) (hd:i∉ds)
 (h:∀ K:Act→World→Prop,Shut (∀ a' w',S w'→(S w'→fV P md ops Q S ds fuel l' a' w')→K a' w')→if Region.wanted oi (yielded ops a.tmps)=true then Oper.wp P oi a w K Q else K (a.put N undef) w) :
 fV P md ops Q S ds (fuel+1) l a w:=by
 subst hN;simp only[qH,Bool.and_eq_true,beq_iff_eq] at hc;obtain ⟨h1,h2⟩:=hc;subst h2;exact sC h1 (by simp) (kN.cons hi hd (fun K hK=>h K hK) kN.nil)
theorem aJw {i:Nat} {N:Option Tmp} {oi:Oper} {fuel:Nat} {l:Array Bool} {a:Act} {w:World} (l' : Array Bool) (hi:ops[i]? = some oi) (hN:oi.dst=N) (hc:qH md ops l l' i=true) (hd:i∈ds)
 (h:∀ K:Act→World→Prop,Shut (∀ a' w',fV P md ops Q S ds fuel l' a' w'→K a' w')→if Region.wanted oi (yielded ops a.tmps)=true then Oper.wp P oi a w K Q else K (a.put N undef) w) :
 fV P md ops Q S ds (fuel+1) l a w:=by
 subst hN;simp only[qH,Bool.and_eq_true,beq_iff_eq] at hc;obtain ⟨h1,h2⟩:=hc;subst h2;exact sC h1 (by simp) (kN.cons_last hi hd (fun K hK=>h K hK) kN.nil)
theorem iK {l:Array Bool} {a:Act} {w:World} {n:Nat} (hr:(Region.ready md ops l==[])=true) (h:Q .normal a w):fV P md ops Q S ds n l a w:=aAe (by simpa using hr) h n
theorem gJ {fuel:Nat} {l:Array Bool} {a a' : Act} {w:World} (ha:a=a') (h:fV P md ops Q S ds fuel l a' w):fV P md ops Q S ds fuel l a w:=by
 subst ha;exact h
theorem aId {oi:Oper} {N:Option Tmp} {a:Act} {w:World} {K:Act→World→Prop} (f:FuncId) (args:Array Value) (hw:Region.wanted oi (yielded ops a.tmps)=true) (hN:oi.dst=N) (hrun:(execOp a.eval oi).run P w = .ok (.enter f args) w)
 (h:Calls P f args w fun e w'=>∃ v,e = .returned v∧K (a.put N v) w'):if Region.wanted oi (yielded ops a.tmps)=true then Oper.wp P oi a w K Q else K (a.put N undef) w:=by
 rw[if_pos hw];subst hN;unfold Oper.wp;rw[hrun,Oper.upon_enter];refine h.mono fun e w'' hh=>?_;obtain ⟨v,rfl,hk⟩:=hh;exact hk
theorem zT {f:FuncId} {fn:Func} (hf:P.funcs[f]? = some fn) (hname:(fn.name == "runtime.NumGoroutine")=false) (hb:fn.body.isSome=true) (args:Array Value) (w:World):(callFunc f args).run P w = .ok (.enter f args) w:=by
 have h1:fn.name ≠ "runtime.NumGoroutine" := by simpa using hname
 obtain ⟨c,hc⟩:=Option.isSome_iff_exists.1 hb
 simp[callFunc,hf,h1,hc]
theorem lA {oi:Oper} {N:Option Tmp} {a:Act} {w:World} {K:Act→World→Prop} {f:FuncId} {fn:Func} {asx:Array Operand} {ts:Array TypeId} (hf:P.funcs[f]? = some fn) (hname:(fn.name == "runtime.NumGoroutine")=false) (hb:fn.body.isSome=true) (args:Array Value)
 (hw:Region.wanted oi (yielded ops a.tmps)=true) (hN:oi.dst=N) (hop:oi.op = .call { callee:=.value (.func f),args:=asx,argTypes:=ts }) (hargs:asx.map a.eval=args)
 (h:Calls P f args w fun e w'=>∃ v,e = .returned v∧K (a.put N v) w'):if Region.wanted oi (yielded ops a.tmps)=true then Oper.wp P oi a w K Q else K (a.put N undef) w:=by
 refine aId f args hw hN ?_ h;have he:=zT hf hname hb args w;unfold execOp
 simp[hop,resolve,Deferred.ofValue,invoke,Act.eval,hargs,he]
theorem fU {rest:List Oper} {oi:Oper} {a:Act} {w:World} (N:Option Tmp) (hd:oi.dst=N) (hg:oi.guard=none) {f:FuncId} {fn:Func} {asx:Array Operand} {ts:Array TypeId} (hf:P.funcs[f]? = some fn) (hname:(fn.name == "runtime.NumGoroutine")=false) (hb:fn.body.isSome=true) (args:Array Value)
 (hop:oi.op = .call { callee:=.value (.func f),args:=asx,argTypes:=ts }) (hargs:asx.map a.eval=args)
 (h:Calls P f args w fun e w'=>∃ v,e = .returned v∧wpList P ops Q rest (a.put N v) w'):wpList P ops Q (oi::rest) a w:=by
 refine wpList_plain hg fun K hK=>?_;have he:=zT hf hname hb args w
 have hrun:(execOp a.eval oi).run P w = .ok (.enter f args) w:=by
  unfold execOp
  simp[hop,resolve,Deferred.ofValue,invoke,Act.eval,hargs,he]
 unfold Oper.wp;rw[hrun,Oper.upon_enter];refine h.mono fun e w'' hh=>?_;obtain ⟨v,rfl,hk⟩:=hh;subst hd;exact hK _ _ hk
theorem kT {oi:Oper} {N:Option Tmp} {a:Act} {w w1:World} {v:Value} {K:Act→World→Prop} (hw:Region.wanted oi (yielded ops a.tmps)=true) (hN:oi.dst=N) (hrun:(execOp a.eval oi).run P w = .ok (.value v) w1)
 (h:K (a.put N v) w1):if Region.wanted oi (yielded ops a.tmps)=true then Oper.wp P oi a w K Q else K (a.put N undef) w:=by
 rw[if_pos hw];subst hN;unfold Oper.wp;rw[hrun];exact h
theorem iO {oi:Oper} {a:Act} {w w1:World} {K:Act→World→Prop} (hw:Region.wanted oi (yielded ops a.tmps)=true) (hN:oi.dst=none) (hrun:(execOp a.eval oi).run P w = .ok .skip w1)
 (h:K a w1):if Region.wanted oi (yielded ops a.tmps)=true then Oper.wp P oi a w K Q else K (a.put none undef) w:=by
 rw[if_pos hw];unfold Oper.wp;rw[hrun];show K (a.put oi.dst undef) w1;rw[hN];exact h
theorem gU (n:Int):IntKind.i64.wrap n=Go.RowKit.wrap64 n:=by unfold Go.RowKit.wrap64;exact IntKind.wrap_i64 n
theorem iG (n:Int):IntKind.i32.wrap n=Go.RowKit.wrap32 n:=by unfold Go.RowKit.wrap32;exact IntKind.wrap_i32 n
end
end Go.ZW.PrintLast
namespace Go.Proofs.YtlkoeeccebmjmaaGreatDoor
open Go.ZW.PrintLast
theorem sA1{P:Program}{ops:Array Oper}{Q:Exit→Act→World→Prop}{md:Region.Mode}{S:World→Prop}{ds:List Nat}(i:Nat)(N:Option Tmp){oi:Oper}{v:Value}{fuel:Nat}{l:Array Bool}{a a':Act}{w:World}(b:ops[i]? = some oi∧oi.dst=N∧zM md ops l (l.setIfInBounds i true) i=true∧(∀ c a w,Q (.panic c) (a.put oi.dst v) w→Q (.panic c) a w)∧Region.wanted oi (yielded ops a.tmps)=true∧(∀ w,(execOp a.eval oi).run P w = .ok (.value v) w)∧a.put N v=a')(h:fV P md ops Q S ds fuel (l.setIfInBounds i true) a' w):fV P md ops Q S ds (fuel+1) l a w:=nP _ b.1 b.2.1 b.2.2.1 b.2.2.2.1 (Or.inl ⟨b.2.2.2.2.1,b.2.2.2.2.2.1⟩) b.2.2.2.2.2.2 h
theorem sB1{p:Prop}(h:p:=by refine ⟨rfl,rfl,by kernel_rfl,fun _ _ _ h=>h,by rfl,?_,?_⟩;(intro w';go_simp;with_reducible rfl);simp only[Act.put,bX,bY,bZ,gU,iG];rfl):p:=h
theorem sC1{P:Program}{ops:Array Oper}{Q:Exit→Act→World→Prop}{md:Region.Mode}{S:World→Prop}{ds:List Nat}(i:Nat)(N:Option Tmp){oi:Oper}{v:Value}{fuel:Nat}{l:Array Bool}{a a':Act}{w:World}(b:ops[i]? = some oi∧oi.dst=N∧takeB md ops ds l (l.setIfInBounds i true) i=true∧(∀ c a w,Q (.panic c) (a.put oi.dst v) w→Q (.panic c) a w)∧Region.wanted oi (yielded ops a.tmps)=true∧(∀ w,S w→(execOp a.eval oi).run P w = .ok (.value v) w)∧S w∧a.put N v=a')(h:fV P md ops Q S ds fuel (l.setIfInBounds i true) a' w):fV P md ops Q S ds (fuel+1) l a w:=take_ _ b.1 b.2.1 b.2.2.1 b.2.2.2.1 (Or.inl ⟨b.2.2.2.2.1,b.2.2.2.2.2.1⟩) b.2.2.2.2.2.2.1 b.2.2.2.2.2.2.2 h
theorem sD1{p:Prop}(h:p:=by refine ⟨rfl,rfl,by kernel_rfl,fun _ _ _ h=>h,by rfl,?_,hHeld,?_⟩;(rintro w' ⟨s0,s1,s2⟩;go_simp;with_reducible rfl);simp only[Act.put,bX,bY,bZ,gU,iG];rfl):p:=h
theorem sE1{p:Prop}(h:p:=by refine ⟨rfl,rfl,by kernel_rfl,fun _ _ _ h=>h,by rfl,?_,hHeld,?_⟩;(rintro w' ⟨s0,s1⟩;go_simp;with_reducible rfl);simp only[Act.put,bX,bY,bZ,gU,iG];rfl):p:=h
theorem sK1{p:Prop}(h:p:=by refine ⟨rfl,rfl,by kernel_rfl,fun _ _ _ h=>h,by rfl,?_,hHeld,?_⟩;(intro w' s0;go_simp;with_reducible rfl);simp only[Act.put,bX,bY,bZ,gU,iG];rfl):p:=h
theorem sL1{p:Prop}(h:p:=by refine ⟨rfl,rfl,by kernel_rfl,fun _ _ _ h=>h,by rfl,?_,hHeld,?_⟩;(rintro w' ⟨s0,s1,s2,s3,s4⟩;go_simp;with_reducible rfl);simp only[Act.put,bX,bY,bZ,gU,iG];rfl):p:=h
theorem sM1{p:Prop}(h:p:=by refine ⟨rfl,rfl,by kernel_rfl,fun _ _ _ h=>h,by rfl,?_,hHeld,?_⟩;(rintro w' ⟨s0,s1,s2,s3,s4,s5,s6,s7,s8,s9,s10,s11,s12,s13,s14⟩;go_simp;with_reducible rfl);simp only[Act.put,bX,bY,bZ,gU,iG];rfl):p:=h
theorem sN1{P:Program}{ops:Array Oper}{Q:Exit→Act→World→Prop}{md:Region.Mode}{S:World→Prop}{ds:List Nat}(i:Nat)(N:Option Tmp){oi:Oper}{fuel:Nat}{l:Array Bool}{a a':Act}{w:World}(b:ops[i]? = some oi∧oi.dst=N∧zM md ops l (l.setIfInBounds i true) i=true∧(∀ c a w,Q (.panic c) (a.put oi.dst undef) w→Q (.panic c) a w)∧Region.wanted oi (yielded ops a.tmps)=false∧a.put N undef=a')(h:fV P md ops Q S ds fuel (l.setIfInBounds i true) a' w):fV P md ops Q S ds (fuel+1) l a w:=nP _ b.1 b.2.1 b.2.2.1 b.2.2.2.1 (Or.inr ⟨b.2.2.2.2.1,rfl⟩) b.2.2.2.2.2 h
theorem sO1{p:Prop}(h:p:=by refine ⟨rfl,rfl,by kernel_rfl,fun _ _ _ h=>h,by rfl,?_⟩;simp only[Act.put,bX,bY,bZ,gU,iG];rfl):p:=h
theorem sP1{p:Prop}(h:p:=by refine ⟨rfl,rfl,by kernel_rfl,fun _ _ _ h=>h,by rfl,?_,hHeld,?_⟩;(rintro w' ⟨s0,s1,s2,s3⟩;go_simp;with_reducible rfl);simp only[Act.put,bX,bY,bZ,gU,iG];rfl):p:=h
theorem sF1{P:Program}{ops:Array Oper}{Q:Exit→Act→World→Prop}{md:Region.Mode}{S:World→Prop}{ds:List Nat}(i:Nat)(N:Option Tmp){oi:Oper}{fuel:Nat}{l:Array Bool}{a:Act}{w:World}(b:ops[i]? = some oi∧oi.dst=N∧qH md ops l (l.setIfInBounds i true) i=true∧i∉ds)(h:∀ K:Act→World→Prop,Shut (∀ a' w',S w'→(S w'→fV P md ops Q S ds fuel (l.setIfInBounds i true) a' w')→K a' w')→if Region.wanted oi (yielded ops a.tmps)=true then Oper.wp P oi a w K Q else K (a.put N undef) w):fV P md ops Q S ds (fuel+1) l a w:=aHu _ b.1 b.2.1 b.2.2.1 b.2.2.2 h
theorem sG1{p:Prop}(h:p:=by exact ⟨rfl,rfl,by kernel_rfl,by decide⟩):p:=h
theorem sH1{P:Program}{ops:Array Oper}{Q:Exit→Act→World→Prop}{md:Region.Mode}{S:World→Prop}{ds:List Nat}(i:Nat)(N:Option Tmp){oi:Oper}{fuel:Nat}{l:Array Bool}{a:Act}{w:World}(b:ops[i]? = some oi∧oi.dst=N∧qH md ops l (l.setIfInBounds i true) i=true∧i∈ds)(h:∀ K:Act→World→Prop,Shut (∀ a' w',fV P md ops Q S ds fuel (l.setIfInBounds i true) a' w'→K a' w')→if Region.wanted oi (yielded ops a.tmps)=true then Oper.wp P oi a w K Q else K (a.put N undef) w):fV P md ops Q S ds (fuel+1) l a w:=aJw _ b.1 b.2.1 b.2.2.1 b.2.2.2 h
theorem sI1{p:Prop}(h:p:=by exact ⟨rfl,rfl,by kernel_rfl,by decide⟩):p:=h
theorem sJ1{p:Prop}(h:p:=by show Act.put _ (some _) _=_;simp only[Act.put,bX,bY,bZ,gU,iG];rfl):p:=h
end Go.Proofs.YtlkoeeccebmjmaaGreatDoor
namespace Go.Proofs.YtlkoeeccebmjmaaGreatDoor.Path
open Go.RowKit Go.WideMaps Go.ZW.PrintWords Go.ZW.PrintLast Go.Proofs.YtlkoeeccebmjmaaGreatDoor.Base
theorem iM.below {w w' : World} {b:Nat} {st:fF} {vl vd vf vc:Value} {mb sb fb:Nat} (H:iM w b st vl vd vf vc mb sb fb) (hb:Below w.heap.size w w'):iM w' b st vl vd vf vc mb sb fb:=by
 obtain ⟨n,D,hm,hd⟩:=H.map;refine ⟨H.row.step (hb.block b (H.row.lt bJ)),H.site.below hb,?_,n,D,hm.kept (row:=none) ⟨hb.os,hb.tape,hb.output,hb.size,fun k hk _=>hb.block k hk⟩ bJ,hd⟩;rw[hb.cell (p:=⟨fb,0,none⟩) (World.block_lt_of_cell? w ⟨fb,0,none⟩ H.has)];exact H.has
theorem mI:(Tryz.prog.info? 78).map (fun i=>(i.zero,i.size,i.bytes))=some (some (.agg #[.int .i64 0,.int .i64 0]),2,16):=by kernel_rfl
theorem info3:(Tryz.prog.info? 3).map (fun i=>(i.zero,i.size,i.bytes))=some (some (.int .i64 0),1,8):=by kernel_rfl
theorem nA (mb:Nat) (w:World):(binOp .neq 66 (.map (some mb)) (.map none)).run Tryz.prog w = .ok (.bool true) w:=by kernel_rfl
theorem uQ (f:Fn) (x y:Array Value) (w:World):(binOp .neq 31 (.func f x y) .nilFunc).run Tryz.prog w = .ok (.bool true) w:=by kernel_rfl
theorem aAj (f:Fn) (x y:Array Value) (w:World):(binOp .neq 33 (.func f x y) .nilFunc).run Tryz.prog w = .ok (.bool true) w:=by kernel_rfl
def jM (s:ByteArray):ByteArray:=⟨(Lib.toLowerA s.data.toList).toArray⟩
theorem kO (s:ByteArray):(jM s).size=s.size:=by
 show (Lib.toLowerA s.data.toList).toArray.size=_;show (List.map _ _).toArray.size=_
 simp
def asc (s:ByteArray):Prop:=∀ (j:Nat) (b:UInt8),s.data.toList[j]? = some b→b.toNat < 128
theorem aCl (c:UInt8) (h:c.toNat < 128):(Lib.lowerB c).toNat < 128:=by
 unfold Lib.lowerB;split
 ·rename_i h2
  simp[Lib.isUpperB,UInt8.le_iff_toNat_le] at h2
  rw[UInt8.toNat_add];have:(32:UInt8).toNat=32:=rfl;have e1:(65:UInt8).toNat=65:=rfl;have e2:(90:UInt8).toNat=90:=rfl;omega
 exact h
theorem aCk (s:ByteArray) (h:asc s):asc (jM s):=by
 intro j c hc;have:(Lib.toLowerA s.data.toList)[j]? = some c:=hc;unfold Lib.toLowerA at this;rw[List.getElem?_map] at this;obtain ⟨d,hd,rfl⟩:=Option.map_eq_some_iff.1 this;exact aCl d (h j d hd)
section
variable {w0 w:World} {b:Nat} {p:eE} {vk vu vl u:Value} {pb mb sb fb:Nat} {st:fF} {sl sd sf sc:Value}
theorem zP (S:iM w0 pb st sl sd sf sc mb sb fb) (OS:iR st) (hB:Below w0.heap.size w0 w) (H:eF w w0.heap.size b p vk vu vl u) (osz:p.s.size≤1000000) (okl:p.known.length≤1000000) (oll:p.plangs.length≤1000000) (comp:ByteArray) (lo hi:Nat) (q1:lo≤hi) (q2:hi≤p.s.size) (hasc:asc (p.s.extract lo hi)) (hh:listed st.langs (jM (p.s.extract lo hi))=true) :
 Calls Tryz.prog 165 #[.pointer (some ⟨pb,0,none⟩),.string comp,.string ⟨#[108,97,110,103,117,97,103,101,95]⟩,.pointer (some ⟨b,0,none⟩),.agg #[.int .i64 lo,.int .i64 hi]] w fun e w' =>
  e = .returned (.bool true)∧∃ vk' vl',eF w' w0.heap.size b { p with known:=p.known++[((lo:Int),(hi:Int))],plangs:=p.plangs++[(p.known.length:Int)] } vk' vu vl' u∧eW w w' b vk vu vl vk' vu vl':=by
 obtain ⟨n,D,hM,hD⟩:=S.map;have HM:=bW hM;have HD:=bW hD;clear hM hD;have HP:=bW H;have hb:=H.lt;have HS:=bW S;have HB0:=bW hB;have hsz:(p.s.extract lo hi).size≤1000000:=Nat.le_trans (iH _ _ _) osz;have cl:=fun W=>Tryz.strings_ToLower_ascii (p.s.extract lo hi) W bA hasc
 obtain ⟨x,hx⟩:∃ x,jM (p.s.extract lo hi)=x:=⟨_,rfl⟩
 rw[show (⟨(Lib.toLowerA (p.s.extract lo hi).data.toList).toArray⟩:ByteArray)=x from hx] at cl;have hxz:x.size≤1000000:=by rw[← hx,kO];exact hsz
 have HX:=bW hx;have h0:=H.row.at 0 _ rfl;have mne:=nA mb;clear H S hB hasc hx;go_enter Tryz.func165,Tryz.ntmps165;go_upto_region 1 with fail
 have hal:Below w.heap.size w (w.alloc (.cells #[.int .i64 lo,.int .i64 hi] 78)):=(Below.refl _ _).alloc (Nat.le_refl _) _;have hR:=Row.new w [.int .i64 lo,.int .i64 hi] 78;have hs1:w.heap.size < (w.alloc (.cells #[.int .i64 lo,.int .i64 hi] 78)).heap.size:=by simp
 obtain ⟨V0,hV0⟩:∃ V0,w.alloc (.cells #[.int .i64 lo,.int .i64 hi] 78)=V0:=⟨_,rfl⟩
 replace hR:Row V0 w.heap.size [.int .i64 lo,.int .i64 hi]:=hV0▸hR;rw[hV0] at hal hs1 ⊢;clear hV0;refine wp_region_still_tail 9 bB bB ?_;change wpStill _ _ V0.drew (fun a'=>wpList _ _ _ _ a' V0.drew) _ _;replace hal:=hal.drew;replace hR:Row V0.drew w.heap.size [.int .i64 lo,.int .i64 hi]:=hR.step rfl;replace hs1:w.heap.size < V0.drew.heap.size:=hs1
 obtain ⟨V,hV⟩:∃ V,V0.drew=V:=⟨_,rfl⟩
 rw[hV] at hal hR hs1 ⊢;clear hV;have d0:V.cell? ⟨b,0,none⟩=some (.string p.s):=(hal.cell (p:=⟨b,0,none⟩) hb).trans h0;have d1:=hR.at 0 _ rfl;have d2:=hR.at 1 _ rfl;simp only[List.take_succ_cons,List.take_zero,List.drop_succ_cons,List.drop_zero]
 repeat still_step
 refine wpStill_nil ?_;have HB1:=bW hal;have HR1:=bW hR;clear hal hR d0 d1 d2 h0;go_wp2_with fail
 refine (cl V).mono ?_;rintro e w2 ⟨rfl,hb2⟩;have HB2:=bW (eA HB1.out hb2);have HR2:=bW (HR1.out.below hb2 hs1);have hs2:=Nat.lt_of_lt_of_le hs1 hb2.size;have HP2:=bW (HP.out.below HB2.out);have HS2:=bW (HS.out.below (HB0.out.trans (HB2.out.mono HB0.out.size)));have d1:=HR2.out.at 0 _ rfl;have d2:=HR2.out.at 1 _ rfl;have hI:=bW (HP.out.new_ne (Nat.le_refl _));clear hb2 cl;have s0:=HS2.out.row.at 0 _ rfl;have hown:=HM.out.kept (row:=none) ⟨(HB0.out.trans (HB2.out.mono HB0.out.size)).os,(HB0.out.trans (HB2.out.mono HB0.out.size)).tape,(HB0.out.trans (HB2.out.mono HB0.out.size)).output,(HB0.out.trans (HB2.out.mono HB0.out.size)).size,fun k hk _=>(HB0.out.trans (HB2.out.mono HB0.out.size)).block k hk⟩ bJ
 have hkey:=keyOf_string_mk (P:=Tryz.prog) (k:=9) Tryz.underlying9 (s:=x) bR;rw[HX.out] at hh;have hhx:Maps.has D (.string x.data.toList)=true:=(HD.out x).trans hh;clear hh
 go_upto_region 7 with (first
  | (at_lookup;refine wpList_lookup_own_ok_int _ rfl _ _ 66 rfl 9 3 .i64 law9 Tryz.underlying66 Tryz.underlying3 (zero3 _) mb n D rfl hown _ _ rfl hkey ?_;intro c hat hwc;rw[hhx];clear hat hwc hown hkey hhx)
  | fail)
 have qa_0:=HP2.out.row.at 6 _ rfl;have qa_f:=HP2.out.row.free 6 bG;have qa_b:=HP2.out.lt;have qa_B:w0.heap.size≤w2.heap.size:=Nat.le_trans HP2.out.base (Nat.le_of_lt qa_b);have qa_n:=bW HP2.out.nk;have qa_o:=bW HP2.out.ok;refine hY (n:=11) (S:=fun w'=>w'.cell? ⟨b,6,none⟩=some vk∧w'.cell? ⟨w.heap.size,0,none⟩=some (.int .i64 lo)∧w'.cell? ⟨w.heap.size,1,none⟩=some (.int .i64 hi)) (ds:=[10]) _ bB rfl rfl ⟨qa_0,d1,d2⟩ (fun hHeld=>?_);refine sA1 0 (some 42) sB1 ?_
 refine sA1 1 (some 43) sB1 ?_
 refine sA1 2 (some 44) sB1 ?_
 refine sA1 3 (some 45) sB1 ?_
 refine sC1 4 (some 46) sD1 ?_
 refine sC1 5 (some 47) sD1 ?_
 refine sF1 6 (some 48) sG1 (fun K hK=>?_);refine kT (w1:=?_) (v:=?_) bH rfl ?_ ?_;rotate_left 2
 ·go_simp;constructor
  ·rfl
  rfl
 have aa_h:Below w2.heap.size w2 (w2.drew.alloc (.cells ([.int .i64 lo,.int .i64 hi]:List Value).toArray 78)):=(Below.refl _ _).drew.alloc (Nat.le_refl _) _;refine hK.out _ _ ⟨((aa_h.cell (p:=⟨b,6,none⟩) (World.block_lt_of_cell? w2 ⟨b,6,none⟩ qa_0)).trans qa_0),((aa_h.cell (p:=⟨w.heap.size,0,none⟩) (World.block_lt_of_cell? w2 ⟨w.heap.size,0,none⟩ d1)).trans d1),((aa_h.cell (p:=⟨w.heap.size,1,none⟩) (World.block_lt_of_cell? w2 ⟨w.heap.size,1,none⟩ d2)).trans d2)⟩ (fun hHeld=>?_);clear hK K;refine gJ sJ1 ?_
 refine sF1 7 (some 49) sG1 (fun K hK=>?_);refine gE (w0:=w2) (W:=w2.drew) w0.heap.size bH (.tmp 46) (.tmp 48) 75 78 _ 2 16 bH Tryz.underlying75 mI rfl bF bF vk p.known.length (pairs p.known) [.int .i64 lo,.int .i64 hi] bH bH bH bL qa_o.out ((Below.refl _ _).drew) qa_B bA ?_;intro va war oa bba ga ta;obtain ⟨Aa,ca,eva⟩:=fL oa;subst eva;have xa_0:=ga.cell (w:=w2.drew) (a:=⟨b,6,none⟩) qa_0 qa_n.out;have xa_f:=(World.frozen?_of_block (w:=w2.drew) (a:=⟨b,6,none⟩) (ga.block b qa_b qa_n.out)).trans qa_f;have xa_1:=ga.cell (w:=w2.drew) (a:=⟨w.heap.size,0,none⟩) d1 hI.out.2.1
 have xa_2:=ga.cell (w:=w2.drew) (a:=⟨w.heap.size,1,none⟩) d2 hI.out.2.1
 have gga:w2.grownBy war vk.ownBlock:=⟨ga.os,ga.tape,ga.output,ga.size,ga.block⟩
 obtain ⟨hpa,hma⟩:=jZ HP2.out (lo,hi) (w':=war) oa gga ta;have HPa:=bW hpa;have HMa:=bW hma;clear hpa hma oa bba ga gga ta;refine hK.out _ _ ⟨xa_0,xa_1,xa_2⟩ (fun hHeld=>?_);clear hK K;refine gJ sJ1 ?_
 refine sA1 8 (some 50) sB1 ?_
 refine sA1 9 (some 51) sB1 ?_
 refine sH1 10 none sI1 (fun K hK=>?_);refine iO (w1:=?_) bH rfl ?_ ?_;rotate_left
 ·go_simp;rfl
 refine hK.out _ _ ?_;clear hK K;refine iK bB ?_;clear d1 d2 xa_0 xa_f xa_1 xa_2 qa_0 qa_f qa_b qa_B qa_n qa_o aa_h
 obtain ⟨Wa,hWa⟩:∃ W,war.setCell ⟨b,6,none⟩ (.slice Aa (p.known.length+1) ca)=W:=⟨_,rfl⟩
 replace HPa:Aside0 (eF Wa w0.heap.size b { p with known:=p.known++[((lo:Int),(hi:Int))] } (.slice Aa (p.known.length+1) ca) vu vl u):=hWa▸HPa;replace HMa:Aside0 (eW w2 Wa b vk vu vl (.slice Aa (p.known.length+1) ca) vu vl):=hWa▸HMa;rw[hWa];clear hWa;have z4:IntKind.i64.wrap (p.known.length:Int)=(p.known.length:Int):=by rw[IntWalk.i64_in _ bA]
 have k6:=HPa.out.row.at 6 _ rfl;go_upto_region 8 with fail
 have qb_0:=HPa.out.row.at 14 _ rfl;have qb_f:=HPa.out.row.free 14 bG;have qb_b:=HPa.out.lt;have qb_B:w0.heap.size≤Wa.heap.size:=Nat.le_trans HPa.out.base (Nat.le_of_lt qb_b);have qb_n:=bW HPa.out.nl;have qb_o:=bW HPa.out.ol;refine hY (n:=16) (S:=fun w'=>w'.cell? ⟨b,14,none⟩=some vl∧w'.cell? ⟨b,6,none⟩=some (.slice Aa (p.known.length+1) ca)) (ds:=[15]) _ bB rfl rfl ⟨qb_0,k6⟩ (fun hHeld=>?_);refine sA1 0 (some 52) sB1 ?_
 refine sA1 1 (some 53) sB1 ?_
 refine sA1 2 (some 54) sB1 ?_
 refine sA1 3 (some 55) sB1 ?_
 refine sA1 5 (some 57) sB1 ?_
 refine sA1 6 (some 58) sB1 ?_
 refine sA1 7 (some 59) sB1 ?_
 refine sC1 4 (some 56) sE1 ?_
 refine sC1 8 (some 60) sE1 ?_
 refine sA1 9 (some 61) sB1 ?_
 refine sA1 10 (some 62) sB1 ?_
 refine sF1 11 (some 63) sG1 (fun K hK=>?_);refine kT (w1:=?_) (v:=?_) bH rfl ?_ ?_;rotate_left 2
 ·go_simp;constructor
  ·rfl
  rfl
 have ab_h:Below Wa.heap.size Wa (Wa.drew.alloc (.cells ([.int .i64 (p.known.length:Int)]:List Value).toArray 3)):=(Below.refl _ _).drew.alloc (Nat.le_refl _) _;refine hK.out _ _ ⟨((ab_h.cell (p:=⟨b,14,none⟩) (World.block_lt_of_cell? Wa ⟨b,14,none⟩ qb_0)).trans qb_0),((ab_h.cell (p:=⟨b,6,none⟩) (World.block_lt_of_cell? Wa ⟨b,6,none⟩ k6)).trans k6)⟩ (fun hHeld=>?_);clear hK K;refine gJ sJ1 ?_
 refine sF1 12 (some 64) sG1 (fun K hK=>?_);refine gE (w0:=Wa) (W:=Wa.drew) w0.heap.size bH (.tmp 56) (.tmp 63) 76 3 _ 1 8 bH Tryz.underlying76 info3 rfl bF bF vl p.plangs.length (nums .i64 p.plangs) [.int .i64 (p.known.length:Int)] bH bH bH bL qb_o.out ((Below.refl _ _).drew) qb_B bA ?_;intro vb wbr ob bbb gb tb;obtain ⟨Ab,cb,evb⟩:=fL ob;subst evb;have xb_0:=gb.cell (w:=Wa.drew) (a:=⟨b,14,none⟩) qb_0 qb_n.out;have xb_f:=(World.frozen?_of_block (w:=Wa.drew) (a:=⟨b,14,none⟩) (gb.block b qb_b qb_n.out)).trans qb_f;have xb_1:=gb.cell (w:=Wa.drew) (a:=⟨b,6,none⟩) k6 HPa.out.nl
 have ggb:Wa.grownBy wbr vl.ownBlock:=⟨gb.os,gb.tape,gb.output,gb.size,gb.block⟩
 obtain ⟨hpb,hmb⟩:=aAo HPa.out (p.known.length:Int) (w':=wbr) ob ggb tb;have HPb:=bW hpb;have HMb:=bW hmb;clear hpb hmb ob bbb gb ggb tb;refine hK.out _ _ ⟨xb_0,xb_1⟩ (fun hHeld=>?_);clear hK K;refine gJ sJ1 ?_
 refine sA1 13 (some 65) sB1 ?_
 refine sA1 14 (some 66) sB1 ?_
 refine sH1 15 none sI1 (fun K hK=>?_);refine iO (w1:=?_) bH rfl ?_ ?_;rotate_left
 ·go_simp;rfl
 refine hK.out _ _ ?_;clear hK K;refine iK bB ?_;go_wp2_with fail
 go_ret;exact ⟨rfl,_,_,HPb.out,((eW.of_below HB2.out).trans HMa.out).trans HMb.out⟩
theorem zO (S:iM w0 pb st sl sd sf sc mb sb fb) (OS:iR st) (hB:Below w0.heap.size w0 w) (H:eF w w0.heap.size b p vk vu vl u) (osz:p.s.size≤1000000) (okl:p.known.length≤1000000) (oll:p.plangs.length≤1000000) (comp:ByteArray) (lo hi:Nat) (q1:lo≤hi) (q2:hi≤p.s.size) (hasc:asc (p.s.extract lo hi)) (hh:listed st.langs (jM (p.s.extract lo hi))=false) (hd:listed st.dis (jM (p.s.extract lo hi))=true) :
 Calls Tryz.prog 165 #[.pointer (some ⟨pb,0,none⟩),.string comp,.string ⟨#[108,97,110,103,117,97,103,101,95]⟩,.pointer (some ⟨b,0,none⟩),.agg #[.int .i64 lo,.int .i64 hi]] w fun e w' =>
  e = .returned (.bool true)∧∃ vk' vl',eF w' w0.heap.size b { p with known:=p.known++[((lo:Int),(hi:Int))],plangs:=p.plangs++[(p.known.length:Int)],dis:=true } vk' vu vl' u∧eW w w' b vk vu vl vk' vu vl':=by
 obtain ⟨n,D,hM,hD⟩:=S.map;have HM:=bW hM;have HD:=bW hD;clear hM hD;have HP:=bW H;have hb:=H.lt;have HS:=bW S;have HB0:=bW hB;have hsz:(p.s.extract lo hi).size≤1000000:=Nat.le_trans (iH _ _ _) osz;have cl:=fun W=>Tryz.strings_ToLower_ascii (p.s.extract lo hi) W bA hasc
 obtain ⟨x,hx⟩:∃ x,jM (p.s.extract lo hi)=x:=⟨_,rfl⟩
 rw[show (⟨(Lib.toLowerA (p.s.extract lo hi).data.toList).toArray⟩:ByteArray)=x from hx] at cl;have hxz:x.size≤1000000:=by rw[← hx,kO];exact hsz
 have HX:=bW hx;have h0:=H.row.at 0 _ rfl;have mne:=nA mb;clear H S hB hasc hx;go_enter Tryz.func165,Tryz.ntmps165;go_upto_region 1 with fail
 have hal:Below w.heap.size w (w.alloc (.cells #[.int .i64 lo,.int .i64 hi] 78)):=(Below.refl _ _).alloc (Nat.le_refl _) _;have hR:=Row.new w [.int .i64 lo,.int .i64 hi] 78;have hs1:w.heap.size < (w.alloc (.cells #[.int .i64 lo,.int .i64 hi] 78)).heap.size:=by simp
 obtain ⟨V0,hV0⟩:∃ V0,w.alloc (.cells #[.int .i64 lo,.int .i64 hi] 78)=V0:=⟨_,rfl⟩
 replace hR:Row V0 w.heap.size [.int .i64 lo,.int .i64 hi]:=hV0▸hR;rw[hV0] at hal hs1 ⊢;clear hV0;refine wp_region_still_tail 9 bB bB ?_;change wpStill _ _ V0.drew (fun a'=>wpList _ _ _ _ a' V0.drew) _ _;replace hal:=hal.drew;replace hR:Row V0.drew w.heap.size [.int .i64 lo,.int .i64 hi]:=hR.step rfl;replace hs1:w.heap.size < V0.drew.heap.size:=hs1
 obtain ⟨V,hV⟩:∃ V,V0.drew=V:=⟨_,rfl⟩
 rw[hV] at hal hR hs1 ⊢;clear hV;have d0:V.cell? ⟨b,0,none⟩=some (.string p.s):=(hal.cell (p:=⟨b,0,none⟩) hb).trans h0;have d1:=hR.at 0 _ rfl;have d2:=hR.at 1 _ rfl;simp only[List.take_succ_cons,List.take_zero,List.drop_succ_cons,List.drop_zero]
 repeat still_step
 refine wpStill_nil ?_;have HB1:=bW hal;have HR1:=bW hR;clear hal hR d0 d1 d2 h0;go_wp2_with fail
 refine (cl V).mono ?_;rintro e w2 ⟨rfl,hb2⟩;have HB2:=bW (eA HB1.out hb2);have HR2:=bW (HR1.out.below hb2 hs1);have hs2:=Nat.lt_of_lt_of_le hs1 hb2.size;have HP2:=bW (HP.out.below HB2.out);have HS2:=bW (HS.out.below (HB0.out.trans (HB2.out.mono HB0.out.size)));have d1:=HR2.out.at 0 _ rfl;have d2:=HR2.out.at 1 _ rfl;have hI:=bW (HP.out.new_ne (Nat.le_refl _));clear hb2 cl;have s0:=HS2.out.row.at 0 _ rfl;have hown:=HM.out.kept (row:=none) ⟨(HB0.out.trans (HB2.out.mono HB0.out.size)).os,(HB0.out.trans (HB2.out.mono HB0.out.size)).tape,(HB0.out.trans (HB2.out.mono HB0.out.size)).output,(HB0.out.trans (HB2.out.mono HB0.out.size)).size,fun k hk _=>(HB0.out.trans (HB2.out.mono HB0.out.size)).block k hk⟩ bJ
 have hkey:=keyOf_string_mk (P:=Tryz.prog) (k:=9) Tryz.underlying9 (s:=x) bR;rw[HX.out] at hh;have hhx:Maps.has D (.string x.data.toList)=false:=(HD.out x).trans hh;have s1:=HS2.out.row.at 1 _ rfl;have fne:=uQ (.func 63) #[] #[.pointer (some ⟨fb,0,none⟩),.pointer (some ⟨sb,0,none⟩)];have cd:=oV HS2.out.site OS HS2.out.has x;rw[HX.out] at hd;rw[hd] at cd;clear hh hd
 go_upto_region 10 with (first
  | (at_lookup;refine wpList_lookup_own_ok_int _ rfl _ _ 66 rfl 9 3 .i64 law9 Tryz.underlying66 Tryz.underlying3 (zero3 _) mb n D rfl hown _ _ rfl hkey ?_;intro c hat hwc;rw[hhx];clear hat hwc hown hkey hhx)
  | fail)
 go_wp2_with fail
 refine cd.mono ?_;rintro e w' ⟨rfl,rfl⟩;clear cd;go_upto_region 11 with fail
 have qa_0:=HP2.out.row.at 6 _ rfl;have qa_f:=HP2.out.row.free 6 bG;have qa_b:=HP2.out.lt;have qa_B:w0.heap.size≤w'.heap.size:=Nat.le_trans HP2.out.base (Nat.le_of_lt qa_b);have qa_n:=bW HP2.out.nk;have qa_o:=bW HP2.out.ok;refine hY (n:=11) (S:=fun w'=>w'.cell? ⟨b,6,none⟩=some vk∧w'.cell? ⟨w.heap.size,0,none⟩=some (.int .i64 lo)∧w'.cell? ⟨w.heap.size,1,none⟩=some (.int .i64 hi)) (ds:=[10]) _ bB rfl rfl ⟨qa_0,d1,d2⟩ (fun hHeld=>?_);refine sA1 0 (some 80) sB1 ?_
 refine sA1 1 (some 81) sB1 ?_
 refine sA1 2 (some 82) sB1 ?_
 refine sA1 3 (some 83) sB1 ?_
 refine sC1 4 (some 84) sD1 ?_
 refine sC1 5 (some 85) sD1 ?_
 refine sF1 6 (some 86) sG1 (fun K hK=>?_);refine kT (w1:=?_) (v:=?_) bH rfl ?_ ?_;rotate_left 2
 ·go_simp;constructor
  ·rfl
  rfl
 have aa_h:Below w'.heap.size w' (w'.drew.alloc (.cells ([.int .i64 lo,.int .i64 hi]:List Value).toArray 78)):=(Below.refl _ _).drew.alloc (Nat.le_refl _) _;refine hK.out _ _ ⟨((aa_h.cell (p:=⟨b,6,none⟩) (World.block_lt_of_cell? w' ⟨b,6,none⟩ qa_0)).trans qa_0),((aa_h.cell (p:=⟨w.heap.size,0,none⟩) (World.block_lt_of_cell? w' ⟨w.heap.size,0,none⟩ d1)).trans d1),((aa_h.cell (p:=⟨w.heap.size,1,none⟩) (World.block_lt_of_cell? w' ⟨w.heap.size,1,none⟩ d2)).trans d2)⟩ (fun hHeld=>?_);clear hK K;refine gJ sJ1 ?_
 refine sF1 7 (some 87) sG1 (fun K hK=>?_);refine gE (w0:=w') (W:=w'.drew) w0.heap.size bH (.tmp 84) (.tmp 86) 75 78 _ 2 16 bH Tryz.underlying75 mI rfl bF bF vk p.known.length (pairs p.known) [.int .i64 lo,.int .i64 hi] bH bH bH bL qa_o.out ((Below.refl _ _).drew) qa_B bA ?_;intro va war oa bba ga ta;obtain ⟨Aa,ca,eva⟩:=fL oa;subst eva;have xa_0:=ga.cell (w:=w'.drew) (a:=⟨b,6,none⟩) qa_0 qa_n.out;have xa_f:=(World.frozen?_of_block (w:=w'.drew) (a:=⟨b,6,none⟩) (ga.block b qa_b qa_n.out)).trans qa_f;have xa_1:=ga.cell (w:=w'.drew) (a:=⟨w.heap.size,0,none⟩) d1 hI.out.2.1
 have xa_2:=ga.cell (w:=w'.drew) (a:=⟨w.heap.size,1,none⟩) d2 hI.out.2.1
 have gga:w'.grownBy war vk.ownBlock:=⟨ga.os,ga.tape,ga.output,ga.size,ga.block⟩
 obtain ⟨hpa,hma⟩:=jZ HP2.out (lo,hi) (w':=war) oa gga ta;have HPa:=bW hpa;have HMa:=bW hma;clear hpa hma oa bba ga gga ta;refine hK.out _ _ ⟨xa_0,xa_1,xa_2⟩ (fun hHeld=>?_);clear hK K;refine gJ sJ1 ?_
 refine sA1 8 (some 88) sB1 ?_
 refine sA1 9 (some 89) sB1 ?_
 refine sH1 10 none sI1 (fun K hK=>?_);refine iO (w1:=?_) bH rfl ?_ ?_;rotate_left
 ·go_simp;rfl
 refine hK.out _ _ ?_;clear hK K;refine iK bB ?_;clear d1 d2 xa_0 xa_f xa_1 xa_2 qa_0 qa_f qa_b qa_B qa_n qa_o aa_h
 obtain ⟨Wa,hWa⟩:∃ W,war.setCell ⟨b,6,none⟩ (.slice Aa (p.known.length+1) ca)=W:=⟨_,rfl⟩
 replace HPa:Aside0 (eF Wa w0.heap.size b { p with known:=p.known++[((lo:Int),(hi:Int))] } (.slice Aa (p.known.length+1) ca) vu vl u):=hWa▸HPa;replace HMa:Aside0 (eW w' Wa b vk vu vl (.slice Aa (p.known.length+1) ca) vu vl):=hWa▸HMa;rw[hWa];clear hWa;have z4:IntKind.i64.wrap (p.known.length:Int)=(p.known.length:Int):=by rw[IntWalk.i64_in _ bA]
 have k6:=HPa.out.row.at 6 _ rfl;go_upto_region 12 with fail
 have qb_0:=HPa.out.row.at 14 _ rfl;have qb_f:=HPa.out.row.free 14 bG;have qb_b:=HPa.out.lt;have qb_B:w0.heap.size≤Wa.heap.size:=Nat.le_trans HPa.out.base (Nat.le_of_lt qb_b);have qb_n:=bW HPa.out.nl;have qb_o:=bW HPa.out.ol;refine hY (n:=16) (S:=fun w'=>w'.cell? ⟨b,14,none⟩=some vl∧w'.cell? ⟨b,6,none⟩=some (.slice Aa (p.known.length+1) ca)) (ds:=[15]) _ bB rfl rfl ⟨qb_0,k6⟩ (fun hHeld=>?_);refine sA1 0 (some 90) sB1 ?_
 refine sA1 1 (some 91) sB1 ?_
 refine sA1 2 (some 92) sB1 ?_
 refine sA1 3 (some 93) sB1 ?_
 refine sA1 5 (some 95) sB1 ?_
 refine sA1 6 (some 96) sB1 ?_
 refine sA1 7 (some 97) sB1 ?_
 refine sC1 4 (some 94) sE1 ?_
 refine sC1 8 (some 98) sE1 ?_
 refine sA1 9 (some 99) sB1 ?_
 refine sA1 10 (some 100) sB1 ?_
 refine sF1 11 (some 101) sG1 (fun K hK=>?_);refine kT (w1:=?_) (v:=?_) bH rfl ?_ ?_;rotate_left 2
 ·go_simp;constructor
  ·rfl
  rfl
 have ab_h:Below Wa.heap.size Wa (Wa.drew.alloc (.cells ([.int .i64 (p.known.length:Int)]:List Value).toArray 3)):=(Below.refl _ _).drew.alloc (Nat.le_refl _) _;refine hK.out _ _ ⟨((ab_h.cell (p:=⟨b,14,none⟩) (World.block_lt_of_cell? Wa ⟨b,14,none⟩ qb_0)).trans qb_0),((ab_h.cell (p:=⟨b,6,none⟩) (World.block_lt_of_cell? Wa ⟨b,6,none⟩ k6)).trans k6)⟩ (fun hHeld=>?_);clear hK K;refine gJ sJ1 ?_
 refine sF1 12 (some 102) sG1 (fun K hK=>?_);refine gE (w0:=Wa) (W:=Wa.drew) w0.heap.size bH (.tmp 94) (.tmp 101) 76 3 _ 1 8 bH Tryz.underlying76 info3 rfl bF bF vl p.plangs.length (nums .i64 p.plangs) [.int .i64 (p.known.length:Int)] bH bH bH bL qb_o.out ((Below.refl _ _).drew) qb_B bA ?_;intro vb wbr ob bbb gb tb;obtain ⟨Ab,cb,evb⟩:=fL ob;subst evb;have xb_0:=gb.cell (w:=Wa.drew) (a:=⟨b,14,none⟩) qb_0 qb_n.out;have xb_f:=(World.frozen?_of_block (w:=Wa.drew) (a:=⟨b,14,none⟩) (gb.block b qb_b qb_n.out)).trans qb_f;have xb_1:=gb.cell (w:=Wa.drew) (a:=⟨b,6,none⟩) k6 HPa.out.nl
 have ggb:Wa.grownBy wbr vl.ownBlock:=⟨gb.os,gb.tape,gb.output,gb.size,gb.block⟩
 obtain ⟨hpb,hmb⟩:=aAo HPa.out (p.known.length:Int) (w':=wbr) ob ggb tb;have HPb:=bW hpb;have HMb:=bW hmb;clear hpb hmb ob bbb gb ggb tb;refine hK.out _ _ ⟨xb_0,xb_1⟩ (fun hHeld=>?_);clear hK K;refine gJ sJ1 ?_
 refine sA1 13 (some 103) sB1 ?_
 refine sA1 14 (some 104) sB1 ?_
 refine sH1 15 none sI1 (fun K hK=>?_);refine iO (w1:=?_) bH rfl ?_ ?_;rotate_left
 ·go_simp;rfl
 refine hK.out _ _ ?_;clear hK K;refine iK bB ?_
 obtain ⟨Wb,hWb⟩:∃ W,wbr.setCell ⟨b,14,none⟩ (.slice Ab (p.plangs.length+1) cb)=W:=⟨_,rfl⟩
 replace HPb:Aside0 (eF Wb w0.heap.size b { p with known:=p.known++[((lo:Int),(hi:Int))],plangs:=p.plangs++[(p.known.length:Int)] } (.slice Aa (p.known.length+1) ca) vu (.slice Ab (p.plangs.length+1) cb) u):=hWb▸HPb;rw[hWb] at HMb ⊢;have b23:=HPb.out.row.at 23 _ rfl;have f23:=HPb.out.row.free 23 bG;clear hWb xb_0 xb_f xb_1 qb_0 qb_f qb_b qb_B qb_n qb_o ab_h k6;go_wp2_with fail
 obtain ⟨hpc,hmc⟩:=fW HPb.out 23 (.bool true) { p with known:=p.known++[((lo:Int),(hi:Int))],plangs:=p.plangs++[(p.known.length:Int)],dis:=true } u rfl rfl rfl rfl bA;go_ret;exact ⟨rfl,_,_,hpc,(((eW.of_below HB2.out).trans HMa.out).trans HMb.out).trans hmc⟩
theorem aA6 (S:iM w0 pb st sl sd sf sc mb sb fb) (OS:iR st) (hB:Below w0.heap.size w0 w) (H:eF w w0.heap.size b p vk vu vl u) (osz:p.s.size≤1000000) (okl:p.known.length≤1000000) (oll:p.plangs.length≤1000000) (comp:ByteArray) (lo hi:Nat) (q1:lo≤hi) (q2:hi≤p.s.size) (hasc:asc (p.s.extract lo hi)) (hh:listed st.langs (jM (p.s.extract lo hi))=false) (hd:listed st.dis (jM (p.s.extract lo hi))=false) :
 Calls Tryz.prog 165 #[.pointer (some ⟨pb,0,none⟩),.string comp,.string ⟨#[108,97,110,103,117,97,103,101,95]⟩,.pointer (some ⟨b,0,none⟩),.agg #[.int .i64 lo,.int .i64 hi]] w fun e w' =>
  e = .returned (.bool false)∧Below w.heap.size w w':=by
 obtain ⟨n,D,hM,hD⟩:=S.map;have HM:=bW hM;have HD:=bW hD;clear hM hD;have HP:=bW H;have hb:=H.lt;have HS:=bW S;have HB0:=bW hB;have hsz:(p.s.extract lo hi).size≤1000000:=Nat.le_trans (iH _ _ _) osz;have cl:=fun W=>Tryz.strings_ToLower_ascii (p.s.extract lo hi) W bA hasc
 obtain ⟨x,hx⟩:∃ x,jM (p.s.extract lo hi)=x:=⟨_,rfl⟩
 rw[show (⟨(Lib.toLowerA (p.s.extract lo hi).data.toList).toArray⟩:ByteArray)=x from hx] at cl;have hxz:x.size≤1000000:=by rw[← hx,kO];exact hsz
 have HX:=bW hx;have h0:=H.row.at 0 _ rfl;have mne:=nA mb;clear H S hB hasc hx;go_enter Tryz.func165,Tryz.ntmps165;go_upto_region 1 with fail
 have hal:Below w.heap.size w (w.alloc (.cells #[.int .i64 lo,.int .i64 hi] 78)):=(Below.refl _ _).alloc (Nat.le_refl _) _;have hR:=Row.new w [.int .i64 lo,.int .i64 hi] 78;have hs1:w.heap.size < (w.alloc (.cells #[.int .i64 lo,.int .i64 hi] 78)).heap.size:=by simp
 obtain ⟨V0,hV0⟩:∃ V0,w.alloc (.cells #[.int .i64 lo,.int .i64 hi] 78)=V0:=⟨_,rfl⟩
 replace hR:Row V0 w.heap.size [.int .i64 lo,.int .i64 hi]:=hV0▸hR;rw[hV0] at hal hs1 ⊢;clear hV0;refine wp_region_still_tail 9 bB bB ?_;change wpStill _ _ V0.drew (fun a'=>wpList _ _ _ _ a' V0.drew) _ _;replace hal:=hal.drew;replace hR:Row V0.drew w.heap.size [.int .i64 lo,.int .i64 hi]:=hR.step rfl;replace hs1:w.heap.size < V0.drew.heap.size:=hs1
 obtain ⟨V,hV⟩:∃ V,V0.drew=V:=⟨_,rfl⟩
 rw[hV] at hal hR hs1 ⊢;clear hV;have d0:V.cell? ⟨b,0,none⟩=some (.string p.s):=(hal.cell (p:=⟨b,0,none⟩) hb).trans h0;have d1:=hR.at 0 _ rfl;have d2:=hR.at 1 _ rfl;simp only[List.take_succ_cons,List.take_zero,List.drop_succ_cons,List.drop_zero]
 repeat still_step
 refine wpStill_nil ?_;have HB1:=bW hal;have HR1:=bW hR;clear hal hR d0 d1 d2 h0;go_wp2_with fail
 refine (cl V).mono ?_;rintro e w2 ⟨rfl,hb2⟩;have HB2:=bW (eA HB1.out hb2);have HR2:=bW (HR1.out.below hb2 hs1);have hs2:=Nat.lt_of_lt_of_le hs1 hb2.size;have HP2:=bW (HP.out.below HB2.out);have HS2:=bW (HS.out.below (HB0.out.trans (HB2.out.mono HB0.out.size)));have d1:=HR2.out.at 0 _ rfl;have d2:=HR2.out.at 1 _ rfl;have hI:=bW (HP.out.new_ne (Nat.le_refl _));clear hb2 cl;have s0:=HS2.out.row.at 0 _ rfl;have hown:=HM.out.kept (row:=none) ⟨(HB0.out.trans (HB2.out.mono HB0.out.size)).os,(HB0.out.trans (HB2.out.mono HB0.out.size)).tape,(HB0.out.trans (HB2.out.mono HB0.out.size)).output,(HB0.out.trans (HB2.out.mono HB0.out.size)).size,fun k hk _=>(HB0.out.trans (HB2.out.mono HB0.out.size)).block k hk⟩ bJ
 have hkey:=keyOf_string_mk (P:=Tryz.prog) (k:=9) Tryz.underlying9 (s:=x) bR;rw[HX.out] at hh;have hhx:Maps.has D (.string x.data.toList)=false:=(HD.out x).trans hh;have s1:=HS2.out.row.at 1 _ rfl;have fne:=uQ (.func 63) #[] #[.pointer (some ⟨fb,0,none⟩),.pointer (some ⟨sb,0,none⟩)];have cd:=oV HS2.out.site OS HS2.out.has x;rw[HX.out] at hd;rw[hd] at cd;clear hh hd
 go_upto_region 10 with (first
  | (at_lookup;refine wpList_lookup_own_ok_int _ rfl _ _ 66 rfl 9 3 .i64 law9 Tryz.underlying66 Tryz.underlying3 (zero3 _) mb n D rfl hown _ _ rfl hkey ?_;intro c hat hwc;rw[hhx];clear hat hwc hown hkey hhx)
  | fail)
 go_wp2_with fail
 refine cd.mono ?_;rintro e w' ⟨rfl,rfl⟩;clear cd;go_wp2_with fail
 go_ret;exact ⟨rfl,HB2.out⟩
end
end Go.Proofs.YtlkoeeccebmjmaaGreatDoor.Path
