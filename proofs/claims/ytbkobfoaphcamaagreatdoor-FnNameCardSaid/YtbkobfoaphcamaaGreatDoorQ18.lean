/- Texts that the law leans on: Total, Total2, Total3, PathKS, Kd, Args, SiteRow, Known0, Keep, Keep2. Condition: as told at each. -/
import Derived.SliceStrings
import Derived.Deep.Slices
import Derived.Deep.Fields
import Derived.Lib.SmallJoins
import Derived.ChangeSame
import Derived.Carry
import Derived.Test.YtbkobfoaphcamaaGreatDoorQa
import Derived.Test.YtbkobfoaphcamaaGreatDoorQ17
set_option linter.unusedVariables false
set_option linter.unusedSimpArgs false
namespace Go.Proofs.YtbkobfoaphcamaaGreatDoor.Total
open Go.RowKit Go.Proofs.YtbkobfoaphcamaaGreatDoorW.PrintWords Go.Proofs.YtbkobfoaphcamaaGreatDoor.Base Go.Proofs.YtbkobfoaphcamaaGreatDoor.PCore Go.Proofs.YtbkobfoaphcamaaGreatDoor.Ext
def oT {α:Type} (g:Nat→Option α):Prop:=∃ r,Ev g r
theorem oT.now {α:Type} (r:α):oT (fun _=>some r):=⟨r,Ev.now r⟩
theorem oT.succ {α:Type} {g:Nat→Option α} (h:oT (fun k=>g (k+1))):oT g:=by
 obtain ⟨r,h⟩:=h;exact ⟨r,Ev.step (fun _=>rfl) h⟩
theorem oT.ite {α:Type} {c:Prop} [Decidable c] {a b:Nat→Option α} (h1:c→oT a) (h2:¬ c→oT b):oT (fun k=>if c then a k else b k):=by
 by_cases h:c
 ·simpa only [if_pos h] using h1 h
 simpa only [if_neg h] using h2 h
theorem oT.bind {α β:Type} {g:Nat→Option α} {f:Nat→α→Option β} (h:oT g) (k:∀ a,Ev g a→oT (fun n=>f n a)):oT (fun n=>(g n).bind (f n)):=by
 obtain ⟨a,ha⟩:=h;obtain ⟨r,hr⟩:=k a ha;exact ⟨r,Ev.bind ha hr⟩
theorem oT.bindC {α β:Type} {x:Option α} {f:Nat→α→Option β} {a:α} (h:x=some a) (k:oT (fun n=>f n a)):oT (fun n=>x.bind (f n)):=by
 subst h;exact k
theorem Ev.fun_ {α:Type} {g:Nat→Option α} {a b:α} (h:Ev g a) (h' : Ev g b):a=b:=by
 obtain ⟨K,h⟩:=h;obtain ⟨K',h'⟩:=h';have e1:=h (K+K') bA;have e2:=h' (K+K') bA;rw[e1] at e2;exact Option.some.inj e2
theorem oG {α:Type} (d:α) (l:List α) (i:Nat) (h:i < l.length):gW d l (i:Int)=l[i]:=by
 unfold gW
 simp[h]
theorem oF (l:List S37) (i:Nat) (h:i < l.length):gX l (i:Int)=l[i]:=by
 unfold gX
 simp[h]
def MM:Nat:=2147483647
def fits2 (l:List ByteArray):Bool:=decide (l.length≤MM) && l.all fun s=>decide (s.size≤MM)
def fits3 (l:List S37):Bool:=decide (l.length≤MM) && l.all fun s=>decide (s.f0.size≤MM) && decide (s.f1.size≤MM)
theorem aC1 (l:List ByteArray) (hl:l.length≤MM):∀ (n j:Nat),l.length - j=n→j≤l.length→Ev (fun k=>fC.l0 k l (l.length:Int) (j:Int)) ((l.drop j).all fun s=>decide (s.size≤MM)):=by
 unfold MM at *;intro n
 induction n with
 | zero =>
  intro j h1 h2;rw[List.drop_of_length_le bA];refine Ev.step (f:=fun _=>some true) (fun k=>?_) (Ev.now _);simp only[fC.l0];rw[if_neg bA]
 | succ n ih =>
  intro j h1 h2;have hj:j < l.length:=by omega
  rw[List.drop_eq_getElem_cons hj,List.all_cons]
  by_cases c:l[j].size≤2147483647
  ·rw[decide_eq_true c,Bool.true_and];refine Ev.step (fun k=>?_) (ih (j+1) bA bA);simp only[fC.l0];rw[if_pos bA,if_pos bA,if_pos bA,oG _ _ _ hj,if_neg bA,w64 bA bA];rfl
  rw[decide_eq_false c,Bool.false_and];refine Ev.step (f:=fun _=>some false) (fun k=>?_) (Ev.now _);simp only[fC.l0];rw[if_pos bA,if_pos bA,if_pos bA,oG _ _ _ hj,if_pos bA]
theorem wQ (l:List ByteArray):Ev (fun k=>fC.f k l) (fits2 l):=by
 unfold fC.f fits2
 by_cases c:l.length≤MM
 ·have:=aC1 l c l.length 0 bA bA;rw[decide_eq_true c,Bool.true_and];refine Ev.congr (fun k=>?_) this;unfold MM at c;rw[if_neg bA];rfl
 rw[decide_eq_false c,Bool.false_and];refine Ev.congr (fun k=>?_) (Ev.now _);unfold MM at c;rw[if_pos bA]
theorem aC2 (l:List S37) (hl:l.length≤MM):∀ (n j:Nat),l.length - j=n→j≤l.length→Ev (fun k=>fW.l0 k l (l.length:Int) (j:Int)) ((l.drop j).all fun s=>decide (s.f0.size≤MM) && decide (s.f1.size≤MM)):=by
 unfold MM at *;intro n
 induction n with
 | zero =>
  intro j h1 h2;rw[List.drop_of_length_le bA];refine Ev.step (f:=fun _=>some true) (fun k=>?_) (Ev.now _);simp only[fW.l0];rw[if_neg bA]
 | succ n ih =>
  intro j h1 h2;have hj:j < l.length:=by omega
  rw[List.drop_eq_getElem_cons hj,List.all_cons]
  have e4:mN.f l[j].f0 l[j].f1=some (decide (l[j].f0.size≤2147483647) && decide (l[j].f1.size≤2147483647)):=by
   unfold mN.f
   by_cases c1:l[j].f0.size≤2147483647
   ·by_cases c2:l[j].f1.size≤2147483647
    ·rw[if_neg bA,if_neg bA,decide_eq_true c1,decide_eq_true c2];rfl
    rw[if_neg bA,if_pos bA,decide_eq_true c1,decide_eq_false c2];rfl
   rw[if_pos bA,decide_eq_false c1];rfl
  cases c:(decide (l[j].f0.size≤2147483647) && decide (l[j].f1.size≤2147483647)) with
  | true =>
   rw[Bool.true_and];refine Ev.step (fun k=>?_) (ih (j+1) bA bA);simp only[fW.l0];rw[if_pos bA,if_pos bA,if_pos bA,oF _ _ hj,e4,c,w64 bA bA];rfl
  | false =>
   rw[Bool.false_and];refine Ev.step (f:=fun _=>some false) (fun k=>?_) (Ev.now _);simp only[fW.l0];rw[if_pos bA,if_pos bA,if_pos bA,oF _ _ hj,e4,c];rfl
theorem aGr (l:List S37):Ev (fun k=>fW.f k l) (fits3 l):=by
 unfold fW.f fits3
 by_cases c:l.length≤MM
 ·have:=aC2 l c l.length 0 bA bA;rw[decide_eq_true c,Bool.true_and];refine Ev.congr (fun k=>?_) this;unfold MM at c;rw[if_neg bA];rfl
 rw[decide_eq_false c,Bool.false_and];refine Ev.congr (fun k=>?_) (Ev.now _);unfold MM at c;rw[if_pos bA]
def fits1 (a b:List ByteArray) (c:List S37) (d:List ByteArray):Bool:=fits2 a && (fits2 b && (fits3 c && fits2 d))
theorem ev_fits1 (a b:List ByteArray) (c:List S37) (d:List ByteArray):Ev (fun k=>lL.f k a b c d) (fits1 a b c d):=by
 unfold lL.f fits1;refine Ev.bind (wQ a) ?_;cases fits2 a
 ·exact Ev.now _
 simp only[if_true,Bool.true_and];refine Ev.bind (wQ b) ?_;cases fits2 b
 ·exact Ev.now _
 simp only[if_true,Bool.true_and];refine Ev.bind (aGr c) ?_;cases fits3 c
 ·exact Ev.now _
 simp only[if_true,Bool.true_and];refine Ev.bind (wQ d) ?_;cases fits2 d
 ·exact Ev.now _
 exact Ev.now _
def wt (l:List ByteArray):Nat:=(l.map ByteArray.size).sum
def wt3 (l:List S37):Nat:=(l.map fun s=>1+s.f0.size+s.f1.size).sum
theorem aFv (l:List ByteArray) (hl:fits2 l=true):∀ (n j a:Nat),l.length - j=n→j≤l.length→a≤MM+j * MM→Ev (fun k=>gQ.l0 k (a:Int) l (l.length:Int) (j:Int)) (decide (a+wt (l.drop j)≤2000)):=by
 unfold fits2 at hl;simp only[Bool.and_eq_true,decide_eq_true_eq,List.all_eq_true] at hl;obtain ⟨hl1,hl2⟩:=hl;unfold MM at *;intro n
 induction n with
 | zero =>
  intro j a h1 h2 h3;rw[List.drop_of_length_le bA];refine Ev.step (f:=fun _=>some (decide ((a:Int)≤2000))) (fun k=>?_) ?_
  ·simp only[gQ.l0];rw[if_neg bA]
  have:decide ((a:Int)≤2000)=decide (a+wt []≤2000):=by unfold wt;simp;omega
  rw[this];exact Ev.now _
 | succ n ih =>
  intro j a h1 h2 h3;have hj:j < l.length:=by omega
  have hz:=hl2 l[j] (List.getElem_mem hj);rw[List.drop_eq_getElem_cons hj];have e:a+wt (l[j]::l.drop (j+1))=(a+l[j].size)+wt (l.drop (j+1)):=by simp only[wt,List.map_cons,List.sum_cons];omega
  rw[e];have hm:(j+1) * 2147483647=j * 2147483647+2147483647:=by omega
  have hjj:j * 2147483647≤2147483647 * 2147483647:=by omega
  refine Ev.step (fun k=>?_) (ih (j+1) (a+l[j].size) bA bA bA);simp only[gQ.l0];rw[if_pos bA,if_pos bA,if_pos bA,oG _ _ _ hj,w64 (n:=(j:Int)+1) bA bA,w64 bA bA];rfl
def fewB (l:List ByteArray):Bool:=decide (l.length+wt l≤2000)
theorem aBo (l:List ByteArray) (hl:fits2 l=true):Ev (fun k=>gQ.f k l) (fewB l):=by
 have h9:=hl;unfold fits2 at h9;simp only[Bool.and_eq_true,decide_eq_true_eq] at h9;exact aFv l hl l.length 0 l.length bA bA bA
def aCi (a b:List ByteArray) (c:List S37) (d:List ByteArray) (x y:ByteArray):Bool:=decide (x.size+y.size+wt3 c≤2000) && (fewB a && (fewB b && fewB d))
theorem aC3 (a b:List ByteArray) (c:List S37) (d:List ByteArray) (h:fits1 a b c d=true):∀ (n j x:Nat),c.length - j=n→j≤c.length→x≤2 * MM+j * (2 * MM+1) →
 Ev (fun k=>hY.l0 k (x:Int) c (c.length:Int) (j:Int) a b c d) (decide (x+wt3 (c.drop j)≤2000) && (fewB a && (fewB b && fewB d))):=by
 unfold fits1 at h;simp only[Bool.and_eq_true] at h;obtain ⟨ha,hb,hc,hd⟩:=h;have hc9:=hc;unfold fits3 at hc9;simp only[Bool.and_eq_true,decide_eq_true_eq,List.all_eq_true] at hc9;obtain ⟨hl1,hl2⟩:=hc9;intro n
 induction n with
 | zero =>
  intro j x h1 h2 h3;rw[List.drop_of_length_le bA];have e:decide (x+wt3 []≤2000)=decide ((x:Int)≤2000):=by unfold wt3;simp;omega
  rw[e];refine Ev.step (f:=fun k=>if (x:Int)≤2000 then ((gQ.f k a).bind fun t105=>(if t105=true then ((gQ.f k b).bind fun t106=>(if t106=true then ((gQ.f k d).bind fun t107=>(some t107)) else (some false))) else (some false))) else (some false)) (fun k=>?_) ?_
  ·simp only[hY.l0];rw[if_neg bA]
  by_cases cx:(x:Int)≤2000
  ·simp only[if_pos cx,decide_eq_true cx,Bool.true_and];refine Ev.bind (aBo a ha) ?_;cases fewB a
   ·exact Ev.now _
   simp only[if_true,Bool.true_and];refine Ev.bind (aBo b hb) ?_;cases fewB b
   ·exact Ev.now _
   simp only[if_true,Bool.true_and];exact Ev.bind (aBo d hd) (Ev.now _)
  simp only[if_neg cx,decide_eq_false cx,Bool.false_and];exact Ev.now _
 | succ n ih =>
  intro j x h1 h2 h3;have hj:j < c.length:=by omega
  have hz:=hl2 c[j] (List.getElem_mem hj);unfold MM at *;rw[List.drop_eq_getElem_cons hj];have e:x+wt3 (c[j]::c.drop (j+1))=(x+(1+c[j].f0.size+c[j].f1.size))+wt3 (c.drop (j+1)):=by simp only[wt3,List.map_cons,List.sum_cons];omega
  rw[e];have hm:(j+1) * (2 * 2147483647+1)=j * (2 * 2147483647+1)+(2 * 2147483647+1):=by omega
  have hjj:j * (2 * 2147483647+1)≤2147483646 * (2 * 2147483647+1):=by omega
  refine Ev.step (fun k=>?_) (ih (j+1) (x+(1+c[j].f0.size+c[j].f1.size)) bA bA bA);simp only[hY.l0];rw[if_pos bA,if_pos bA,if_pos bA,oF _ _ hj,w64 (n:=(j:Int)+1) bA bA,w64 (n:=1+(c[j].f0.size:Int)) bA bA,w64 (n:=1+(c[j].f0.size:Int)+(c[j].f1.size:Int)) bA bA,w64 bA bA];have e1:(x:Int)+(1+(c[j].f0.size:Int)+(c[j].f1.size:Int))=((x+(1+c[j].f0.size+c[j].f1.size):Nat):Int):=by omega
  rw[e1];rfl
theorem aGt (a b:List ByteArray) (c:List S37) (d:List ByteArray) (x y:ByteArray) (h:fits1 a b c d=true) (hx:x.size≤MM) (hy:y.size≤MM):Ev (fun k=>hY.f k a b c d x y) (aCi a b c d x y):=by
 have e:=aC3 a b c d h c.length 0 (x.size+y.size) bA bA bA;refine Ev.congr (fun k=>?_) e;unfold hY.f;unfold MM at hx hy;rw[w64 bA bA];rfl
end Go.Proofs.YtbkobfoaphcamaaGreatDoor.Total
namespace Go.Proofs.YtbkobfoaphcamaaGreatDoor.Total
open Go.RowKit Go.Proofs.YtbkobfoaphcamaaGreatDoorW.PrintWords Go.Proofs.YtbkobfoaphcamaaGreatDoor.Base Go.Proofs.YtbkobfoaphcamaaGreatDoor.PCore Go.Proofs.YtbkobfoaphcamaaGreatDoor.Ext
def PEv {α:Type} (P:α→Prop) (g:Nat→Option α):Prop:=∃ r,Ev g r∧P r
section
variable {α β:Type} {P:α→Prop} {Q:β→Prop}
theorem PEv.now {r:α} (h:P r):PEv P (fun _=>some r):=⟨r,Ev.now r,h⟩
theorem PEv.succ {g:Nat→Option α} (h:PEv P (fun k=>g (k+1))):PEv P g:=by
 obtain ⟨r,h,hp⟩:=h;exact ⟨r,Ev.step (fun _=>rfl) h,hp⟩
theorem PEv.ite {c:Prop} [Decidable c] {a b:Nat→Option α} (h1:c→PEv P a) (h2:¬ c→PEv P b):PEv P (fun k=>if c then a k else b k):=by
 by_cases h:c
 ·simpa only [if_pos h] using h1 h
 simpa only [if_neg h] using h2 h
theorem PEv.bind {g:Nat→Option α} {f:Nat→α→Option β} (h:PEv P g) (k:∀ a,P a→PEv Q (fun n=>f n a)):PEv Q (fun n=>(g n).bind (f n)):=by
 obtain ⟨a,ha,hp⟩:=h;obtain ⟨r,hr,hq⟩:=k a hp;exact ⟨r,Ev.bind ha hr,hq⟩
theorem PEv.bindC {x:Option α} {f:Nat→α→Option β} {a:α} (h:x=some a) (k:PEv Q (fun n=>f n a)):PEv Q (fun n=>x.bind (f n)):=by
 subst h;exact k
theorem PEv.mono {P' : α→Prop} {g:Nat→Option α} (h:PEv P g) (hp:∀ r,P r→P' r):PEv P' g:=by
 obtain ⟨r,h,h2⟩:=h;exact ⟨r,h,hp r h2⟩
end
def Any {α:Type} (_:α):Prop:=True
theorem any {α:Type} (a:α):Any a:=trivial
theorem aBr (l:List ByteArray) (s:ByteArray) (hl:l.length≤100000000):PEv Any (fun k=>fK.f k l s):=by
 have h:∀ (n:Nat) (i:Int),0≤i→(l.length:Int) - i≤n→PEv Any (fun k=>fK.l0 k l s i):=by
  intro n
  induction n with
  | zero =>
   intro i h1 h2;refine PEv.succ ?_;simp only[fK.l0];exact PEv.ite (fun h=>by exfalso;omega) (fun _=>PEv.now (any _))
  | succ n ih =>
   intro i h1 h2;refine PEv.succ ?_;simp only[fK.l0];refine PEv.ite (fun h=>?_) (fun _=>PEv.now (any _));refine PEv.ite (fun _=>?_) (fun h=>by exfalso;omega);refine PEv.ite (fun _=>PEv.now (any _)) (fun _=>?_);rw[w64 bA bA];exact ih (i+1) bA bA
 exact h l.length 0 bA bA
def pU (n:Int) (r:List Int):Prop:=(∀ x∈r,0≤x∧x < n)∧r.Pairwise (· < ·)
theorem pU.snoc {n i:Int} {r:List Int} (h:pU i r) (hi:0≤i) (hn:i+1≤n):pU n (r++[i]):=by
 refine ⟨fun x hx=>?_,?_⟩
 ·rcases List.mem_append.1 hx with hx | hx
  ·have:=h.1 x hx;omega
  rw[List.mem_singleton] at hx;omega
 rw[List.pairwise_append];refine ⟨h.2,eB,fun a ha b hb=>?_⟩;rw[List.mem_singleton] at hb;have:=h.1 a ha;omega
theorem pU.up {n m:Int} {r:List Int} (h:pU n r) (hm:n≤m):pU m r:=⟨fun x hx=>by have:=h.1 x hx;omega,h.2⟩
theorem aBs (s:ByteArray) (hs:s.size≤1000000):PEv (fun r=>pU s.size r∧r.length≤s.size) (fun k=>eO.f k s):=by
 have h:∀ (n:Nat) (i:Int) (acc:List Int),0≤i→i≤s.size→(s.size:Int) - i≤n→pU i acc→(acc.length:Int)≤i→PEv (fun r=>pU s.size r∧r.length≤s.size) (fun k=>eO.l0 k s acc i):=by
  intro n
  induction n with
  | zero =>
   intro i acc h1 h3 h2 hc hl;refine PEv.succ ?_;simp only[eO.l0];exact PEv.ite (fun h=>by exfalso;omega) (fun _=>PEv.now ⟨hc.up bA,aR⟩)
  | succ n ih =>
   intro i acc h1 h3 h2 hc hl;refine PEv.succ ?_;simp only[eO.l0];refine PEv.ite (fun hi=>?_) (fun _=>PEv.now ⟨hc.up bA,aR⟩);refine PEv.ite (fun _=>?_) (fun h=>by exfalso;omega);rw[w64 (n:=i+1) bA bA];refine PEv.ite (fun _=>?_) (fun _=>ih (i+1) acc bA bA bA (hc.up bA) bA);refine PEv.ite (fun _=>?_) (fun h=>by exfalso;omega);have hc2:pU (i+1) (acc++[i]):=hc.snoc h1 (Int.le_refl _);have hl2:((acc++[i]).length:Int)≤i+1:=by simp;omega
   obtain ⟨y,hy⟩:∃ y,acc++[i]=y:=⟨_,rfl⟩
   rw[hy] at hc2 hl2 ⊢
   have hl1:∀ (m:Nat) (p:Int),i+1 < p→p≤s.size+1→(s.size:Int) - p≤m→PEv (fun r=>pU s.size r∧r.length≤s.size) (fun k=>eO.l1 k s y i p):=by
    intro m
    induction m with
    | zero =>
     intro p g1 g3 g2;refine PEv.succ ?_;simp only[eO.l1];refine PEv.ite (fun h=>by exfalso;omega) (fun _=>?_);rw[w64 bA bA];exact ih (i+1) y bA bA bA hc2 hl2
    | succ m ihm =>
     intro p g1 g3 g2;refine PEv.succ ?_;simp only[eO.l1];rw[w64 (n:=p+1) bA bA,w64 (n:=i+1) bA bA];refine PEv.ite (fun h=>?_) (fun _=>ih (i+1) y bA bA bA hc2 hl2);refine PEv.ite (fun _=>?_) (fun h=>by exfalso;omega);refine PEv.ite (fun _=>?_) (fun _=>ihm (p+1) bA bA bA);refine PEv.ite (fun _=>ih (p+1) y bA bA bA (hc2.up bA) bA) (fun _=>?_);refine PEv.ite (fun _=>?_) (fun h=>by exfalso;omega);refine PEv.ite (fun _=>?_) (fun h=>by exfalso;omega);exact PEv.ite (fun _=>ih (p+1) y bA bA bA (hc2.up bA) bA) (fun _=>ihm (p+1) bA bA bA)
   have hj:∀ x:Bool,PEv (fun r=>pU s.size r∧r.length≤s.size) (fun k=>eO.j1 k s y i x):=by
    intro x;refine PEv.succ ?_;simp only[eO.j1];rw[w64 (n:=i+1) bA bA,w64 (n:=i+2) bA bA];exact PEv.ite (fun _=>ih (i+1) y bA bA bA hc2 hl2) (fun _=>hl1 s.size (i+2) bA bA bA)
   refine PEv.bindC rfl ?_;refine PEv.ite (fun _=>hj _) (fun _=>?_);refine PEv.ite (fun _=>?_) (fun h=>by exfalso;omega);exact PEv.ite (fun _=>hj _) (fun h=>by exfalso;omega)
 exact h s.size 0 [] bA bA bA ⟨eB,eB⟩ bL
theorem aI3 {n:Int} {r:List Int} (h:pU n r) (i:Int) (h0:0≤i) (h1:i+1 < r.length):rd r i+1≤rd r (i+1):=by
 obtain ⟨m,rfl⟩:=Int.eq_ofNat_of_zero_le h0;have hm:m+1 < r.length:=by omega
 have:=List.pairwise_iff_getElem.1 h.2 m (m+1) bA hm bA;have e1:rd r (m:Int)=r[m]:=by unfold rd;simp[show m < r.length by omega]
 have e2:rd r ((m:Int)+1)=r[m+1]:=by
  have e3:((m:Int)+1)=((m+1:Nat):Int):=by omega
  rw[e3];unfold rd;simp[hm]
 rw[e1,e2];omega
theorem wJ (s:ByteArray) (own:Bool) (hs:s.size≤900000):(Path.pathOf s own).size≤1000000:=by
 unfold Path.pathOf;rw[← eN,kR];have:=Path.mText_length (L (if own then s else Lower.norm s))
 have h2:(L (if own then s else Lower.norm s)).length≤900000:=by
  rw[eN];cases own
  ·show (Lower.norm s).size≤_;rw[Lower.norm_size];exact hs
  exact hs
 omega
end Go.Proofs.YtbkobfoaphcamaaGreatDoor.Total
namespace Go.Proofs.YtbkobfoaphcamaaGreatDoor.Total
open Go.RowKit Go.Proofs.YtbkobfoaphcamaaGreatDoorW.PrintWords Go.Proofs.YtbkobfoaphcamaaGreatDoor.Base Go.Proofs.YtbkobfoaphcamaaGreatDoor.PCore Go.Proofs.YtbkobfoaphcamaaGreatDoor.Ext Go.Proofs.YtbkobfoaphcamaaGreatDoor.Lower
open Go.Proofs.YtbkobfoaphcamaaGreatDoor.Path (qC lH mE ints eW pathOf behind iJ)
def nM (n:List UInt8) (i:Nat):Nat:=if n[i+1]? = some 95 then (match qC n (i+2) with | some e=>e+1 | none=>i+1) else i+1
def kM (n:List UInt8):Nat→Nat→List Nat
 | 0,_=>[]
 | g+1,i=>if n.length≤i then [] else if n[i]? = some 46 then i::kM n g (nM n i) else kM n g (i+1)
def eY (n:List UInt8):List Nat:=kM n n.length 0
def iO (w:List UInt8):Bool:=decide (3≤w.length) && (w[0]? == some 95 && w[w.length - 1]? == some 95)
def inner (w:List UInt8):List UInt8:=(w.drop 1).take (w.length - 2)
def aIc:List UInt8:=[108,97,121,111,117,116,95]
def sS (n:List UInt8):Nat→List Nat→List (List UInt8)
 | a,[]=>[n.drop a]
 | a,c::cs=>(n.drop a).take (c - a)::sS n (c+1) cs
def okW (w:List UInt8):Prop:=iO w=true→(inner w).map jK≠aIc
structure oB (lay:Bool) (n:List UInt8):Prop where
 last:∀ c,(eY n).getLast? = some c→iO (n.drop (c+1))=false∧c+1≠n.length
 first:(eY n).head?≠some 0
 words:lay=true→eY n≠[]→∀ w∈sS n 0 (eY n),okW w
structure mS (x:ByteArray):Prop where
 pos:0 < x.size
 most:x.size≤20
 each:∀ i:Int,0≤i→i < x.size→(97≤bt x i∧bt x i≤122)∨(48≤bt x i∧bt x i≤57)∨bt x i=45
structure aEf (a b:List ByteArray) (c:List S37) (d:List ByteArray):Prop where
 langs:∀ x∈a,mS x
 dis:∀ x∈b,mS x
 fmts:∀ x∈c,mS x.f0∧mS x.f1
 cont:∀ x∈d,mS x
 apart:∀ x∈b,x∉a
 la:a.length≤12
 lb:b.length≤12
 lc:c.length≤12
 ld:d.length≤12
structure aEc (a b:List ByteArray) (c:List S37) (d:List ByteArray) (x y:ByteArray):Prop where
 site:aEf a b c d
 slashes:∀ i:Nat,¬ ((L y)[i]? = some 47∧(L y)[i+1]? = some 47)
 ascY:ascii (L y)=true
 ascX:ascii (L x)=true
 most:y.size≤400
 low:oB (eW x) ((L (pathOf y false)).drop (behind (L (pathOf y false))))
 own:oB (eW x) ((L (pathOf y true)).drop (behind (L (pathOf y true))))
theorem PEv.and {α:Type} {P Q:α→Prop} {g:Nat→Option α} (h1:PEv P g) (h2:PEv Q g):PEv (fun r=>P r∧Q r) g:=by
 obtain ⟨r,h,hp⟩:=h1;obtain ⟨r',h',hq⟩:=h2;obtain rfl:=Ev.fun_ h h';exact ⟨r,h,hp,hq⟩
theorem aHd (l:List ByteArray) (s:ByteArray) (hl:l.length≤100000000):PEv (fun r=>r=true↔s∈l) (fun k=>fK.f k l s):=by
 have h:∀ (n i:Nat),i≤l.length→l.length - i≤n→PEv (fun r=>r=true↔s∈l.drop i) (fun k=>fK.l0 k l s (i:Int)):=by
  intro n
  induction n with
  | zero =>
   intro i h1 h2;refine PEv.succ ?_;simp only[fK.l0];refine PEv.ite (fun h=>by exfalso;omega) (fun _=>PEv.now ?_);rw[List.drop_of_length_le bA]
   simp
  | succ n ih =>
   intro i h1 h2;refine PEv.succ ?_;simp only[fK.l0];refine PEv.ite (fun h=>?_) (fun h=>PEv.now ?_)
   ·have hi:i < l.length:=by omega
    refine PEv.ite (fun _=>?_) (fun h=>by exfalso;omega);rw[oG _ _ _ hi,List.drop_eq_getElem_cons hi];refine PEv.ite (fun e=>PEv.now ?_) (fun e=>?_)
    ·have:l[i]=s:=by rw[L_toList,L_toList] at e;exact L_inj e
     simp[this]
    have hne:s≠l[i]:=fun x=>e (by rw[x]);rw[w64 bA bA];refine PEv.mono (ih (i+1) bA bA) (fun r hr=>?_);rw[hr,List.mem_cons];exact ⟨.inr,fun h=>h.resolve_left hne⟩
   rw[List.drop_of_length_le bA]
   simp
 exact h l.length 0 bA bA
theorem sK (s:ByteArray) (hs:s.size≤1000000):PEv (fun r=>r=true→mS s) (fun k=>eU.f k s):=by
 have h:∀ (n:Nat) (i:Int),0≤i→(s.size:Int) - i≤n→PEv (fun r=>r=true→(0 < s.size∧s.size≤20)∧∀ j:Int,i≤j→j < s.size→(97≤bt s j∧bt s j≤122)∨(48≤bt s j∧bt s j≤57)∨bt s j=45) (fun k=>eU.l0 k s i):=by
  have fin:∀ i:Int,(s.size:Int)≤i→PEv (fun r=>r=true→(0 < s.size∧s.size≤20)∧∀ j:Int,i≤j→j < s.size→(97≤bt s j∧bt s j≤122)∨(48≤bt s j∧bt s j≤57)∨bt s j=45) (fun _=>if s.toList=([]:List UInt8) then (some false) else (some (decide ((s.size:Int)≤20)))):=by
   intro i hi;refine PEv.ite (fun _=>PEv.now (fun h=>by cases h)) (fun hne=>PEv.now (fun h=>?_));have h20:=of_decide_eq_true h;refine ⟨⟨?_,aR⟩,fun j h1 h2=>by exfalso;omega⟩;rcases Nat.eq_zero_or_pos s.size with h0 | h0
   ·exact absurd (by rw[L_toList];exact List.eq_nil_of_length_eq_zero (by rw[eN];exact h0)) hne
   exact h0
  intro n
  induction n with
  | zero =>
   intro i h1 h2;refine PEv.succ ?_;simp only[eU.l0];exact PEv.ite (fun h=>by exfalso;omega) (fun _=>fin i bA)
  | succ n ih =>
   intro i h1 h2;refine PEv.succ ?_;simp only[eU.l0];refine PEv.ite (fun h=>?_) (fun _=>fin i bA);refine PEv.ite (fun _=>?_) (fun h=>by exfalso;omega);rw[w64 bA bA]
   have hr:((97≤bt s i∧bt s i≤122)∨(48≤bt s i∧bt s i≤57)∨bt s i=45)→PEv (fun r=>r=true→(0 < s.size∧s.size≤20)∧∀ j:Int,i≤j→j < s.size→(97≤bt s j∧bt s j≤122)∨(48≤bt s j∧bt s j≤57)∨bt s j=45) (fun k=>eU.l0 k s (i+1)):=by
    intro hc;refine PEv.mono (ih (i+1) bA bA) (fun r hr e=>⟨(hr e).1,fun j g1 g2=>?_⟩)
    by_cases c:j=i
    ·rw[c];exact hc
    exact (hr e).2 j bA g2
   have no:PEv (fun r=>r=true→(0 < s.size∧s.size≤20)∧∀ j:Int,i≤j→j < s.size→(97≤bt s j∧bt s j≤122)∨(48≤bt s j∧bt s j≤57)∨bt s j=45) (fun _=>some false):=PEv.now (fun h=>by cases h);refine PEv.ite (fun _=>?_) (fun _=>?_)
   ·exact PEv.ite (fun _=>PEv.ite (fun c=>hr (.inr (.inr c))) (fun _=>no)) (fun _=>PEv.ite (fun _=>PEv.ite (fun c=>hr (.inr (.inr c))) (fun _=>no)) (fun _=>hr (.inr (.inl ⟨aR,aR⟩))))
   refine PEv.ite (fun _=>?_) (fun _=>hr (.inl ⟨aR,aR⟩));exact PEv.ite (fun _=>PEv.ite (fun c=>hr (.inr (.inr c))) (fun _=>no)) (fun _=>PEv.ite (fun _=>PEv.ite (fun c=>hr (.inr (.inr c))) (fun _=>no)) (fun _=>hr (.inr (.inl ⟨aR,aR⟩))))
 refine PEv.mono (h s.size 0 bA bA) (fun r hr e=>?_);obtain ⟨⟨h1,h2⟩,h3⟩:=hr e;exact ⟨h1,h2,h3⟩
theorem rQ (l:List ByteArray) (hl:l.length≤1000000) (hz:∀ x∈l,x.size≤1000000):PEv (fun r=>r=true→l.length≤12∧∀ x∈l,mS x) (fun k=>eR.f k l):=by
 have h:∀ (n i:Nat),i≤l.length→l.length - i≤n→PEv (fun r=>r=true→l.length≤12∧∀ x∈l.drop i,mS x) (fun k=>eR.l0 k l (i:Int)):=by
  intro n
  induction n with
  | zero =>
   intro i h1 h2;refine PEv.succ ?_;simp only[eR.l0];refine PEv.ite (fun h=>by exfalso;omega) (fun _=>PEv.now (fun h=>?_));have:=of_decide_eq_true h;rw[List.drop_of_length_le bA];exact ⟨aR,eB⟩
  | succ n ih =>
   intro i h1 h2;refine PEv.succ ?_;simp only[eR.l0];refine PEv.ite (fun h=>?_) (fun h=>PEv.now (fun e=>?_))
   ·have hi:i < l.length:=by omega
    refine PEv.ite (fun _=>?_) (fun h=>by exfalso;omega);rw[oG _ _ _ hi,List.drop_eq_getElem_cons hi];refine PEv.bind (sK _ (hz _ (List.getElem_mem hi))) (fun a ha=>?_);refine PEv.ite (fun e=>?_) (fun _=>PEv.now (fun h=>by cases h));refine PEv.ite (fun _=>?_) (fun h=>by exfalso;omega);refine PEv.bind (aBr _ _ (by simp;omega)) (fun a _=>?_);refine PEv.ite (fun _=>PEv.now (fun h=>by cases h)) (fun _=>?_);rw[w64 bA bA];refine PEv.mono (ih (i+1) bA bA) (fun r hr e2=>⟨(hr e2).1,fun x hx=>?_⟩);rcases List.mem_cons.1 hx with rfl | hx
    ·exact ha e
    exact (hr e2).2 x hx
   have:=of_decide_eq_true e;rw[List.drop_of_length_le bA];exact ⟨aR,eB⟩
 exact h l.length 0 bA bA
theorem aCm (a b:List ByteArray) (c:List S37) (d:List ByteArray) (ha:a.length≤1000000) (hb:b.length≤1000000) (hc:c.length≤1000000) (hd:d.length≤1000000) (za:∀ x∈a,x.size≤1000000) (zb:∀ x∈b,x.size≤1000000) (zc:∀ x∈c,x.f0.size≤1000000∧x.f1.size≤1000000) (zd:∀ x∈d,x.size≤1000000):PEv (fun r=>r=true→aEf a b c d) (fun k=>eM.f k a b c d):=by
 have h1:∀ (n i:Nat),i≤c.length→c.length - i≤n→PEv (fun r=>r=true→∀ x∈c.drop i,mS x.f0∧mS x.f1) (fun k=>eM.l1 k (i:Int) a b c d):=by
  intro n
  induction n with
  | zero =>
   intro i h1 h2;refine PEv.succ ?_;simp only[eM.l1];refine PEv.ite (fun h=>by exfalso;omega) (fun _=>PEv.now (fun _=>?_));rw[List.drop_of_length_le bA]
   simp
  | succ n ih =>
   intro i h1 h2;refine PEv.succ ?_;simp only[eM.l1];refine PEv.ite (fun h=>?_) (fun _=>PEv.now (fun _=>?_))
   ·have hi:i < c.length:=by omega
    refine PEv.ite (fun _=>?_) (fun h=>by exfalso;omega);rw[oF _ _ hi,List.drop_eq_getElem_cons hi];refine PEv.bind (sK _ (zc _ (List.getElem_mem hi)).1) (fun x hx=>?_);refine PEv.ite (fun e1=>?_) (fun _=>PEv.now (fun h=>by cases h));refine PEv.bind (sK _ (zc _ (List.getElem_mem hi)).2) (fun y hy=>?_);refine PEv.ite (fun e2=>?_) (fun _=>PEv.now (fun h=>by cases h));rw[w64 bA bA];refine PEv.mono (ih (i+1) bA bA) (fun r hr e x hx=>?_);rcases List.mem_cons.1 hx with rfl | hx
    ·exact ⟨by first | exact ‹_→mS c[i].f0› e1 | assumption,hy e2⟩
    exact hr e x hx
   rw[List.drop_of_length_le bA]
   simp
 have h0:∀ (n i:Nat),i≤b.length→b.length - i≤n→PEv (fun r=>r=true→(∀ x∈c,mS x.f0∧mS x.f1)∧∀ x∈b.drop i,x∉a) (fun k=>eM.l0 k (i:Int) a b c d):=by
  have fin:∀ i:Nat,b.length≤i→PEv (fun r=>r=true→(∀ x∈c,mS x.f0∧mS x.f1)∧∀ x∈b.drop i,x∉a) (fun k=>eM.l1 k 0 a b c d):=by
   intro i hi;refine PEv.mono (h1 c.length 0 bA bA) (fun r hr e=>⟨hr e,?_⟩);rw[List.drop_of_length_le hi]
   simp
  intro n
  induction n with
  | zero =>
   intro i g1 g2;refine PEv.succ ?_;simp only[eM.l0];exact PEv.ite (fun h=>by exfalso;omega) (fun _=>fin i bA)
  | succ n ih =>
   intro i g1 g2;refine PEv.succ ?_;simp only[eM.l0];refine PEv.ite (fun h=>?_) (fun _=>fin i bA);have hi:i < b.length:=by omega
   refine PEv.ite (fun _=>?_) (fun h=>by exfalso;omega);rw[oG _ _ _ hi,List.drop_eq_getElem_cons hi];refine PEv.bind (aHd _ _ bA) (fun x hx=>?_);refine PEv.ite (fun _=>PEv.now (fun h=>by cases h)) (fun hf=>?_);rw[w64 bA bA];refine PEv.mono (ih (i+1) bA bA) (fun r hr e=>⟨(hr e).1,fun y hy=>?_⟩);rcases List.mem_cons.1 hy with rfl | hy
   ·exact fun hm=>hf (hx.2 hm)
   exact (hr e).2 y hy
 have hj:∀ x:Bool,PEv (fun r=>r=true→x=false∧(∀ x∈c,mS x.f0∧mS x.f1)∧∀ x∈b,x∉a) (fun k=>eM.j0 k x a b c d):=by
  intro x;refine PEv.succ ?_;simp only[eM.j0];refine PEv.ite (fun _=>PEv.now (fun h=>by cases h)) (fun hx=>?_);exact PEv.mono (h0 b.length 0 bA bA) (fun r hr e=>⟨by simpa using hx,hr e⟩)
 have no:PEv (fun r=>r=true→aEf a b c d) (fun k=>eM.j0 k true a b c d):=PEv.mono (hj true) (fun r hr e=>by cases (hr e).1);unfold eM.f;refine PEv.bind (rQ a ha za) (fun _ p1=>PEv.ite (fun e1=>?_) (fun _=>no));refine PEv.bind (rQ b hb zb) (fun _ p2=>PEv.ite (fun e2=>?_) (fun _=>no));refine PEv.bind (rQ d hd zd) (fun _ p3=>PEv.ite (fun e3=>?_) (fun _=>no));refine PEv.mono (hj _) (fun r hr e=>?_);obtain ⟨q1,q2,q3⟩:=hr e;have q4:=of_decide_eq_false q1;exact ⟨(p1 e1).2,(p2 e2).2,q2,(p3 e3).2,q3,(p1 e1).1,(p2 e2).1,aR,(p3 e3).1⟩
theorem aHe (s:ByteArray) (hs:s.size≤1000000):PEv (fun r=>r=false→∀ i:Nat,¬ ((L s)[i]? = some 47∧(L s)[i+1]? = some 47)) (fun k=>fU.f k s (⟨#[47,47]⟩:ByteArray)):=by
 have hl:=eN s;have hz:((⟨#[47,47]⟩:ByteArray).size:Int)=2:=rfl
 have h:∀ (n i:Nat),i≤1000001→s.size+1 - i≤n→PEv (fun r=>r=false→∀ j:Nat,i≤j→¬ ((L s)[j]? = some 47∧(L s)[j+1]? = some 47)) (fun k=>fU.l0 k s (⟨#[47,47]⟩:ByteArray) (i:Int)):=by
  have fin:∀ i:Nat,s.size < i+2→PEv (fun r=>r=false→∀ j:Nat,i≤j→¬ ((L s)[j]? = some 47∧(L s)[j+1]? = some 47)) (fun _=>some false):=by
   intro i hi;refine PEv.now (fun _ j hj h=>?_);have:=(List.getElem?_eq_some_iff.1 h.2).1;omega
  intro n
  induction n with
  | zero =>
   intro i h3 h2;refine PEv.succ ?_;simp only[fU.l0,hz];rw[w64 (n:=(i:Int)+2) bA bA];exact PEv.ite (fun h=>by exfalso;omega) (fun _=>fin i bA)
  | succ n ih =>
   intro i h3 h2;refine PEv.succ ?_;simp only[fU.l0,hz];rw[w64 (n:=(i:Int)+2) bA bA];refine PEv.ite (fun h=>?_) (fun _=>fin i bA);refine PEv.ite (fun _=>?_) (fun h=>by exfalso;omega);refine PEv.ite (fun _=>?_) (fun h=>by exfalso;omega);refine PEv.ite (fun _=>PEv.now (fun h=>by cases h)) (fun hne=>?_);rw[w64 bA bA];refine PEv.mono (ih (i+1) bA bA) (fun r hr e j hj hp=>?_)
   by_cases c:j=i
   ·subst c;refine hne ?_;obtain ⟨a1,a2⟩:=List.getElem?_eq_some_iff.1 hp.1;obtain ⟨b1,b2⟩:=List.getElem?_eq_some_iff.1 hp.2;rw[L_toList,L_toList,eX,show ((j:Int)+2).toNat - (j:Int).toNat=2 by omega,Int.toNat_natCast,List.drop_eq_getElem_cons a1,List.drop_eq_getElem_cons b1,a2,b2];rfl
   exact hr e j bA hp
 exact PEv.mono (h (s.size+1) 0 bA bA) (fun r hr e j=>hr e j (Nat.zero_le _))
theorem vH (s:ByteArray) (hs:s.size≤1000000) (h47:∀ j:Nat,(L s)[j]?≠some 47):PEv (fun r=>r=ints (eY (L s))) (fun k=>eO.f k s):=by
 have hl:=eN s
 have h:∀ (m i:Nat) (acc:List Int),i≤s.size→s.size - i≤m→acc.length≤i→PEv (fun r=>r=acc++ints (kM (L s) m i)) (fun k=>eO.l0 k s acc (i:Int)):=by
  intro m
  induction m with
  | zero =>
   intro i acc h1 h2 h3;refine PEv.succ ?_;simp only[eO.l0];exact PEv.ite (fun h=>by exfalso;omega) (fun _=>PEv.now (by simp[kM,ints]))
  | succ m ih =>
   intro i acc h1 h2 h3;refine PEv.succ ?_;simp only[eO.l0];refine PEv.ite (fun hi=>?_) (fun hi=>?_);rotate_left
   ·have:kM (L s) (m+1) i=[]:=by unfold kM;rw[if_pos bA]
    rw[this];exact PEv.now (by simp[ints])
   have hb:=mE s i bA 46 46 rfl;refine PEv.ite (fun _=>?_) (fun h=>by exfalso;omega);rw[w64 (n:=(i:Int)+1) bA bA];have ei:(i:Int)+1=((i+1:Nat):Int):=by omega
   refine PEv.ite (fun h46=>?_) (fun h46=>?_);rotate_left
   ·have:kM (L s) (m+1) i=kM (L s) m (i+1):=by rw[kM,if_neg bA,if_neg (fun x=>h46 (hb.2 x))]
    rw[this,ei];exact ih (i+1) acc bA bA bA
   refine PEv.ite (fun _=>?_) (fun h=>by exfalso;omega);have hc:kM (L s) (m+1) i=i::kM (L s) m (nM (L s) i):=by rw[kM,if_neg bA,if_pos (hb.1 h46)]
   have hd:acc++ints (i::kM (L s) m (nM (L s) i))=(acc++[(i:Int)])++ints (kM (L s) m (nM (L s) i)):=by simp[ints]
   have hl2:(acc++[(i:Int)]).length≤i+1:=by simp;omega
   rw[hc,hd]
   obtain ⟨y,hy⟩:∃ y,acc++[(i:Int)]=y:=⟨_,rfl⟩
   rw[hy] at hl2 ⊢
   have hl1:∀ (q p:Nat),s.size - p=q→p≤s.size+1→i+1 < p→PEv (fun r=>r=y++ints (kM (L s) m (match lH (L s) q p with | some e=>e+1 | none=>i+1))) (fun k=>eO.l1 k s y (i:Int) (p:Int)):=by
    intro q
    induction q with
    | zero =>
     intro p g1 g3 g2;refine PEv.succ ?_;simp only[eO.l1];refine PEv.ite (fun h=>by exfalso;omega) (fun _=>?_);rw[w64 (n:=(i:Int)+1) bA bA,ei];exact ih (i+1) y bA bA hl2
    | succ q ihq =>
     intro p g1 g3 g2;have hp:p < s.size:=by omega
     have hb1:=mE s p hp 95 95 rfl;have ep:(p:Int)+1=((p+1:Nat):Int):=by omega
     refine PEv.succ ?_;simp only[eO.l1];rw[w64 (n:=(p:Int)+1) bA bA,w64 (n:=(i:Int)+1) bA bA];refine PEv.ite (fun _=>?_) (fun h=>by exfalso;omega);refine PEv.ite (fun _=>?_) (fun h=>by exfalso;omega)
     have yes:((L s)[p]? = some 95∧((L s).length≤p+1∨(L s)[p+1]? = some 46))→lH (L s) (q+1) p=some p:=by
      intro h;rw[lH,if_neg (h47 p),if_pos h]
     have no:¬ ((L s)[p]? = some 95∧((L s).length≤p+1∨(L s)[p+1]? = some 46))→lH (L s) (q+1) p=lH (L s) q (p+1):=by
      intro h;rw[lH,if_neg (h47 p),if_neg h]
     refine PEv.ite (fun h95=>?_) (fun h95=>?_);rotate_left
     ·rw[no (fun h=>h95 (hb1.2 h.1)),ep];exact ihq (p+1) bA bA bA
     refine PEv.ite (fun he=>?_) (fun he=>?_)
     ·rw[yes ⟨hb1.1 h95,.inl bA⟩,ep];exact ih (p+1) y bA bA bA
     have hb2:=mE s (p+1) bA 46 46 rfl;refine PEv.ite (fun _=>?_) (fun h=>by exfalso;omega);refine PEv.ite (fun _=>?_) (fun h=>by exfalso;omega);rw[ep];refine PEv.ite (fun h46=>?_) (fun h46=>?_)
     ·rw[yes ⟨hb1.1 h95,.inr (hb2.1 h46)⟩];exact ih (p+1) y bA bA bA
     rw[no (fun h=>by rcases h.2 with h | h <;> first | omega | exact h46 (hb2.2 h))];exact ihq (p+1) bA bA bA
   have hj:∀ x:Bool,(x=true↔(L s)[i+1]?≠some 95)→PEv (fun r=>r=y++ints (kM (L s) m (nM (L s) i))) (fun k=>eO.j1 k s y (i:Int) x):=by
    intro x hx;refine PEv.succ ?_;simp only[eO.j1];rw[w64 (n:=(i:Int)+1) bA bA,w64 (n:=(i:Int)+2) bA bA];refine PEv.ite (fun e=>?_) (fun e=>?_)
    ·have:nM (L s) i=i+1:=by unfold nM;rw[if_neg (hx.1 e)]
     rw[this,ei];exact ih (i+1) y bA bA hl2
    have h95:(L s)[i+1]? = some 95:=Classical.byContradiction fun c=>e (hx.2 c);have hlt:=(List.getElem?_eq_some_iff.1 h95).1;have:nM (L s) i=(match lH (L s) (s.size - (i+2)) (i+2) with | some e=>e+1 | none=>i+1):=by unfold nM qC;rw[if_pos h95,hl]
    rw[this,show (i:Int)+2=((i+2:Nat):Int) by omega];exact hl1 (s.size - (i+2)) (i+2) rfl bA bA
   refine PEv.bindC rfl ?_;refine PEv.ite (fun he=>hj _ ?_) (fun he=>?_)
   ·simp only[true_iff];rw[List.getElem?_eq_none bA]
    simp
   refine PEv.ite (fun _=>?_) (fun h=>by exfalso;omega);refine PEv.ite (fun _=>hj _ ?_) (fun h=>by exfalso;omega);have hb2:=mE s (i+1) bA 95 95 rfl;rw[ei,bne_iff_ne];exact not_congr hb2
 have:=h s.size 0 [] bA bA bL;unfold eO.f eY;rw[hl];exact this
theorem tN (s:ByteArray) (hs:s.size≤1000000):∃ x,jM.f s=some (x,iO (L s))∧(iO (L s)=true→L x=inner (L s))∧x.size≤s.size:=by
 have hl:=eN s;have h0:(⟨#[]⟩:ByteArray).size≤s.size:=Nat.zero_le _;unfold jM.f
 by_cases c1:(s.size:Int) < 3
 ·have:iO (L s)=false:=by unfold iO;rw[decide_eq_false bA];rfl
  rw[if_pos c1,this];exact ⟨_,rfl,(fun h=>by cases h),h0⟩
 rw[if_neg c1,if_pos bA];have hb:=mE s 0 bA 95 95 rfl;have e1:((s.size:Int) - 1)=((s.size - 1:Nat):Int):=by omega
 by_cases c2:bt s 0=95
 ·rw[if_pos c2,w64 bA bA,if_pos bA,if_pos bA];have hb2:=mE s (s.size - 1) bA 95 95 rfl;rw[e1]
  by_cases c3:bt s ((s.size - 1:Nat):Int)=95
  ·have:iO (L s)=true:=by unfold iO;rw[decide_eq_true bA,hb.1 c2,hl,hb2.1 c3];rfl
   rw[if_pos c3,if_pos bA,if_pos bA,this];refine ⟨_,rfl,fun _=>?_,?_⟩
   ·unfold inner;rw[eX,hl,Int.toNat_natCast,show s.size - 1 - 1=s.size - 2 by omega]
   rw[← eN,eX,← eN]
   simp
   omega
  have:iO (L s)=false:=by
   unfold iO;rw[hl];have:((L s)[s.size - 1]? == some 95)=false:=by simpa using fun x=>c3 (hb2.2 x)
   rw[this]
   simp
  rw[if_neg c3,this];exact ⟨_,rfl,(fun h=>by cases h),h0⟩
 have:iO (L s)=false:=by
  unfold iO;have:((L s)[0]? == some 95)=false:=by simpa using fun x=>c2 (hb.2 x)
  rw[this]
  simp
 rw[if_neg c2,this];exact ⟨_,rfl,(fun h=>by cases h),h0⟩
theorem aGc (s t:ByteArray):∃ r,iK.f s t=some r∧(L s=L t→r=true):=by
 unfold iK.f
 by_cases c:(s.size:Int)≥(t.size:Int)
 ·rw[if_pos c,if_pos bA,if_pos bA];refine ⟨_,rfl,fun e=>?_⟩;have:s.size=t.size:=by rw[← eN,← eN,e]
  rw[L_toList,L_toList,eX,← e,beq_iff_eq,Int.toNat_natCast,List.drop_zero,Nat.sub_zero,← this,← eN,List.take_length]
 rw[if_neg c];refine ⟨_,rfl,fun e=>?_⟩;have:s.size=t.size:=by rw[← eN,← eN,e]
 omega
def oR (n:List UInt8) (C:List Nat) (i a:Nat):List (List UInt8):=if i≤C.length then sS n a (C.drop i) else []
theorem qB (C:List Nat) (i:Nat) (h:i < C.length):rd (ints C) (i:Int)=((C[i]'h:Nat):Int):=by
 unfold rd ints
 simp[h]
theorem tX (comp s:ByteArray) (hs:s.size≤1000000) (h47:∀ j:Nat,(L s)[j]?≠some 47):PEv (fun r=>r=true→oB (eW comp) (L s)) (fun k=>eI.f k comp s):=by
 have hls:=eN s
 have hx:∀ a b,(s.extract a b).size≤1000000:=by
  intro a b;rw[← eN,eX]
  simp
  omega
 unfold eI.f;refine PEv.bind (PEv.and (aBs s hs) (vH s hs h47)) (fun r hr=>?_);obtain ⟨⟨hr,hrl⟩,rfl⟩:=hr
 obtain ⟨C,hC⟩:∃ C,eY (L s)=C:=⟨_,rfl⟩
 rw[hC] at hr hrl ⊢;have hCl:(ints C).length=C.length:=by simp[ints]
 rw[hCl] at hrl
 have hin:∀ (i:Nat) (h:i < C.length),C[i]'h < s.size:=by
  intro i h;have:=hr.1 ((C[i]'h:Nat):Int) (by unfold ints;exact List.mem_map.2 ⟨_,List.getElem_mem h,rfl⟩);omega
 have hup:∀ (i:Nat) (h:i+1 < C.length),C[i]' bA+1≤C[i+1]'h:=by
  intro i h;have h9:=aI3 hr (i:Int) bA (by rw[hCl];omega);rw[qB C i bA,show (i:Int)+1=((i+1:Nat):Int) by omega,qB C (i+1) h] at h9;omega
 refine PEv.ite (fun h0=>PEv.now (fun _=>?_)) (fun hne=>?_)
 ·have:C=[]:=by
   rw[hCl] at h0;exact List.eq_nil_of_length_eq_zero bA
  subst this;exact ⟨fun c hc=>by rw[hC] at hc;simp at hc,by rw[hC];simp,fun _ h=>absurd hC h⟩
 rw[hCl] at hne ⊢;have hpos:0 < C.length:=by omega
 rw[w64 (n:=(C.length:Int) - 1) bA bA];refine PEv.ite (fun _=>?_) (fun h=>by exfalso;omega);refine PEv.ite (fun _=>?_) (fun h=>by exfalso;omega)
 have elast:rd (ints C) ((C.length:Int) - 1)=((C[C.length - 1]' bA:Nat):Int):=by
  rw[show (C.length:Int) - 1=((C.length - 1:Nat):Int) by omega,qB]
 have hlin:=hin (C.length - 1) bA;rw[elast]
 obtain ⟨cl,hcl⟩:∃ cl,C[C.length - 1]' bA=cl:=⟨_,rfl⟩
 rw[hcl] at hlin ⊢;rw[w64 (n:=(cl:Int)+1) bA bA];refine PEv.ite (fun _=>?_) (fun h=>by exfalso;omega);refine PEv.ite (fun _=>?_) (fun h=>by exfalso;omega)
 -- the loop
 have hl0:∀ (n:Nat) (i fr:Nat) (x8:List ByteArray),C.length+1 - i≤n→i≤C.length+1→(∀ h:i < C.length,fr≤C[i]'h)→(i=C.length→fr≤s.size)→x8.length≤3 * i→PEv (fun r=>r=true→eW comp=true→∀ w∈oR (L s) C i fr,okW w) (fun k=>eI.l0 k comp s (ints C) x8 (fr:Int) (i:Int)):=by
  intro n
  induction n with
  | zero =>
   intro i fr x8 h2 h3 h5 h6 h7;refine PEv.succ ?_;simp only[eI.l0];rw[hCl];refine PEv.ite (fun h=>by exfalso;omega) (fun _=>?_);refine PEv.succ ?_;simp only[eI.j2,Bool.false_eq_true,if_false];refine PEv.now (fun _ _ w hw=>?_);unfold oR at hw;rw[if_neg bA] at hw;cases hw
  | succ n ih =>
   intro i fr x8 h2 h3 h5 h6 h7
   have hj2:∀ x:Bool,x=eW comp→i≤C.length→PEv (fun r=>r=true→eW comp=true→∀ w∈oR (L s) C i fr,okW w) (fun k=>eI.j2 k comp s (ints C) x8 (fr:Int) (i:Int) x):=by
    intro x hxl hi;refine PEv.succ ?_;simp only[eI.j2];rw[hCl];refine PEv.ite (fun _=>?_) (fun hf=>PEv.now (fun _ hl=>by rw[← hxl] at hl;exact absurd hl hf))
    have hj3:∀ e:Nat,fr≤e→e≤s.size→(∀ h:i+1 < C.length,e+1≤C[i+1]'h)→(i+1=C.length→e+1≤s.size)→PEv (fun r=>r=true→eW comp=true→okW (((L s).drop fr).take (e - fr))∧∀ w∈oR (L s) C (i+1) (e+1),okW w) (fun k=>eI.j3 k comp s (ints C) x8 (fr:Int) (i:Int) (e:Int)):=by
     intro e g1 g2 g3 g4;refine PEv.succ ?_;simp only[eI.j3];refine PEv.ite (fun _=>?_) (fun h=>by exfalso;omega);refine PEv.ite (fun _=>?_) (fun h=>by exfalso;omega);refine PEv.ite (fun _=>?_) (fun h=>by exfalso;omega);refine PEv.ite (fun _=>PEv.now (fun h=>by cases h)) (fun _=>?_);have hwd:L (s.extract (fr:Int).toNat (e:Int).toNat)=((L s).drop fr).take (e - fr):=by rw[eX,Int.toNat_natCast,Int.toNat_natCast]
     obtain ⟨wx,hw1,hw3,hw2⟩:=tN (s.extract (fr:Int).toNat (e:Int).toNat) (hx _ _);rw[hwd] at hw1 hw3
     obtain ⟨W,hW⟩:∃ W,((L s).drop fr).take (e - fr)=W:=⟨_,rfl⟩
     rw[hW] at hw1 hw3 ⊢;refine PEv.bindC hw1 ?_;refine PEv.bindC rfl ?_;have hwz:wx.size≤1000000:=Nat.le_trans hw2 (hx _ _);have hy2:gW ByteArray.empty [(⟨#[111,117,116,112,117,116,102,111,114,109,97,116,95]⟩:ByteArray),(⟨#[107,105,110,100,95]⟩:ByteArray),(⟨#[108,97,121,111,117,116,95]⟩:ByteArray)] 2=⟨#[108,97,121,111,117,116,95]⟩:=rfl
     obtain ⟨y,hy⟩:∃ y:List ByteArray,[(⟨#[111,117,116,112,117,116,102,111,114,109,97,116,95]⟩:ByteArray),(⟨#[107,105,110,100,95]⟩:ByteArray),(⟨#[108,97,121,111,117,116,95]⟩:ByteArray)]=y:=⟨_,rfl⟩
     have hy3:y.length=3:=by rw[← hy];rfl
     simp only[hy];rw[hy] at hy2;clear hy
     have hl1:∀ (m:Nat) (q:Nat) (z8:List ByteArray),3 - q≤m→q≤3→z8.length≤3 * i+q→PEv (fun r=>r=true→eW comp=true→(q≤2→okW W)∧∀ w∈oR (L s) C (i+1) (e+1),okW w) (fun k=>eI.l1 k comp s (ints C) z8 (i:Int) (e:Int) wx (iO W) y (y.length:Int) (q:Int)):=by
      have fin:∀ (q:Nat) (z8:List ByteArray),3≤q→z8.length≤3 * i+3→PEv (fun r=>r=true→eW comp=true→(q≤2→okW W)∧∀ w∈oR (L s) C (i+1) (e+1),okW w) (fun k=>eI.l0 k comp s (ints C) z8 (wrap64 ((e:Int)+1)) (wrap64 ((i:Int)+1))):=by
       intro q z8 hq hz;rw[w64 bA bA,w64 bA bA];exact PEv.mono (ih (i+1) (e+1) z8 bA bA (fun h=>g3 h) (fun h=>g4 h) bA) (fun r hr e1 e2=>⟨fun h=>by omega,hr e1 e2⟩)
      intro m
      induction m with
      | zero =>
       intro q z8 k2 k4 k3;refine PEv.succ ?_;simp only[eI.l1];exact PEv.ite (fun h=>by exfalso;omega) (fun _=>fin q z8 bA bA)
      | succ m ihm =>
       intro q z8 k2 k4 k3;refine PEv.succ ?_;simp only[eI.l1];refine PEv.ite (fun hq=>?_) (fun _=>fin q z8 bA bA);refine PEv.ite (fun _=>?_) (fun h=>by exfalso;omega);refine PEv.ite (fun _=>?_) (fun h=>by exfalso;omega)
       have step:∀ z:List ByteArray,z.length≤3 * i+(q+1)→(q=2→okW W)→PEv (fun r=>r=true→eW comp=true→(q≤2→okW W)∧∀ w∈oR (L s) C (i+1) (e+1),okW w) (fun k=>eI.l1 k comp s (ints C) z (i:Int) (e:Int) wx (iO W) y (y.length:Int) ((q:Int)+1)):=by
        intro z hz hok;refine PEv.mono (ihm (q+1) z bA bA hz) (fun r hr e1 e2=>⟨fun h=>?_,(hr e1 e2).2⟩)
        by_cases c:q=2
        ·exact hok c
        exact (hr e1 e2).1 bA
       have hj5:∀ x:Bool,(q=2→x=false→okW W)→PEv (fun r=>r=true→eW comp=true→(q≤2→okW W)∧∀ w∈oR (L s) C (i+1) (e+1),okW w) (fun k=>eI.j5 k comp s (ints C) z8 (i:Int) (e:Int) wx (iO W) (gW ByteArray.empty y (q:Int)) y (y.length:Int) (q:Int) x):=by
        intro x hxf;refine PEv.succ ?_;simp only[eI.j5];rw[w64 (n:=(q:Int)+1) bA bA];refine PEv.ite (fun _=>?_) (fun hf=>step z8 bA (fun h=>hxf h (by simpa using hf)));refine PEv.bind (aBr _ _ bA) (fun _ _=>?_);refine PEv.ite (fun _=>PEv.now (fun h=>by cases h)) (fun _=>?_);refine PEv.ite (fun _=>PEv.now (fun h=>by cases h)) (fun hsz=>?_);refine PEv.ite (fun _=>?_) (fun h=>by exfalso;omega);refine step _ (by simp;omega) (fun h2 hw hi=>hsz ?_);subst h2;rw[show ((2:Nat):Int)=2 from rfl,hy2];have:=congrArg List.length hi;rw[← hw3 hw,List.length_map,eN] at this;rw[this];rfl
       refine PEv.ite (fun _=>?_) (fun hf=>hj5 _ (fun _ _ h=>absurd h hf));refine PEv.bindC (show iS.f wx=some (Go.Proofs.YtbkobfoaphcamaaGreatDoor.Lower.low wx) by unfold iS.f;rw[if_pos bA]) ?_;obtain ⟨b,hb,hbt⟩:=aGc (Go.Proofs.YtbkobfoaphcamaaGreatDoor.Lower.low wx) (gW ByteArray.empty y (q:Int));refine PEv.bindC hb (hj5 _ (fun h2 hbf hw hi=>?_));subst h2;rw[hbt (by rw[show ((2:Nat):Int)=2 from rfl,hy2,rU,hw3 hw,hi];rfl)] at hbf;cases hbf
     exact PEv.mono (hl1 3 0 x8 bA bA bA) (fun r hr e1 e2=>⟨(hr e1 e2).1 bA,(hr e1 e2).2⟩)
    refine PEv.ite (fun hlt=>?_) (fun hge=>?_)
    ·have hlt' : i < C.length:=by omega
     refine PEv.ite (fun _=>?_) (fun h=>by exfalso;omega);rw[qB C i hlt'];refine PEv.mono (hj3 _ (h5 hlt') (Nat.le_of_lt (hin i hlt')) (fun h=>hup i h) (fun _=>hin i hlt')) (fun r hr e1 e2 w hw=>?_);unfold oR at hw;rw[if_pos hi,List.drop_eq_getElem_cons hlt',sS] at hw;rcases List.mem_cons.1 hw with rfl | hw
     ·exact (hr e1 e2).1
     refine (hr e1 e2).2 w ?_;unfold oR;rw[if_pos bA];exact hw
    have hi2:i=C.length:=by omega
    refine PEv.mono (hj3 _ (h6 hi2) (Nat.le_refl _) (fun h=>by exfalso;omega) (fun h=>by exfalso;omega)) (fun r hr e1 e2 w hw=>?_);unfold oR at hw;rw[if_pos hi,List.drop_of_length_le bA,sS,List.mem_singleton] at hw;subst hw;have:=(hr e1 e2).1;rwa[List.take_of_length_le (by rw[List.length_drop];omega)] at this
   refine PEv.succ ?_;simp only[eI.l0];rw[hCl];refine PEv.ite (fun h=>hj2 _ rfl bA) (fun _=>?_);refine PEv.succ ?_;simp only[eI.j2,Bool.false_eq_true,if_false];refine PEv.now (fun _ _ w hw=>?_);unfold oR at hw;rw[if_neg bA] at hw;cases hw
 have hj0:∀ x:Bool,(x=false→iO ((L s).drop (cl+1))=false∧C[0]'hpos≠0∧cl+1≠s.size)→PEv (fun r=>r=true→oB (eW comp) (L s)) (fun k=>eI.j0 k comp s (ints C) x):=by
  intro x hxf;refine PEv.succ ?_;simp only[eI.j0];refine PEv.ite (fun _=>PEv.now (fun h=>by cases h)) (fun hf=>?_);obtain ⟨k1,k2,k3⟩:=hxf (by simpa using hf);refine PEv.mono (hl0 (C.length+1) 0 0 [] bA bA (fun _=>Nat.zero_le _) (fun _=>Nat.zero_le _) bL) (fun r hr e=>⟨fun c hc=>?_,?_,fun hl _ w hw=>?_⟩)
  ·rw[hC,List.getLast?_eq_getElem?,List.getElem?_eq_getElem bA] at hc;injection hc with hc
   rw[hcl] at hc;subst hc;exact ⟨k1,by rw[hls];exact k3⟩
  ·rw[hC,List.head?_eq_getElem?,List.getElem?_eq_getElem hpos];intro h;injection h with h
   exact k2 h
  refine hr e hl w ?_;unfold oR;rw[if_pos (Nat.zero_le _),List.drop_zero,← hC];exact hw
 obtain ⟨wx,hw1,_,_⟩:=tN (s.extract ((cl:Int)+1).toNat s.size) (hx _ _)
 have hwd:L (s.extract ((cl:Int)+1).toNat s.size)=(L s).drop (cl+1):=by
  rw[eX,show ((cl:Int)+1).toNat=cl+1 by omega];exact List.take_of_length_le (by rw[List.length_drop];omega)
 rw[hwd] at hw1;refine PEv.bindC hw1 ?_;refine PEv.ite (fun _=>hj0 _ (fun h=>by cases h)) (fun hwf=>?_);refine PEv.ite (fun _=>?_) (fun h=>by exfalso;omega);have e0:=qB C 0 hpos;rw[show ((0:Nat):Int)=0 from rfl] at e0;rw[e0];refine PEv.ite (fun _=>hj0 _ (fun h=>by cases h)) (fun h0=>hj0 _ (fun h=>⟨by simpa using hwf,aR,?_⟩))
 have h9:¬ ((cl:Int)+1=(s.size:Int)):=by
  intro e;rw[e] at h
  simp at h
 omega
theorem pB (s:ByteArray) (hs:s.size≤1000000) (hex:∃ j:Nat,(L s)[j]? = some 47):PEv (fun r=>L r=(L s).drop (behind (L s))∧r.size≤1000000∧∀ j:Nat,(L r)[j]?≠some 47) (fun k=>fN.f k s):=by
 have hl:=eN s;obtain ⟨j0,_,hb,hj0,hj1⟩:=Go.Proofs.YtbkobfoaphcamaaGreatDoor.Path.last_slash s hex;have hjl:j0 < s.size:=by rw[← hl];exact (List.getElem?_eq_some_iff.1 hj0).1
 have h:∀ (n i:Nat),j0≤i→i < s.size→i - j0≤n→PEv (fun r=>r=(j0:Int)) (fun k=>eV.l0 k s (i:Int)):=by
  intro n
  induction n with
  | zero =>
   intro i h1 h2 h3;have:i=j0:=by omega
   subst this;refine PEv.succ ?_;simp only[eV.l0];refine PEv.ite (fun _=>?_) (fun h=>by exfalso;omega);refine PEv.ite (fun _=>?_) (fun h=>by exfalso;omega);refine PEv.ite (fun _=>?_) (fun h=>by exfalso;omega);exact PEv.ite (fun _=>PEv.now rfl) (fun h=>absurd ((mE s i h2 47 47 rfl).2 hj0) h)
  | succ n ih =>
   intro i h1 h2 h3;refine PEv.succ ?_;simp only[eV.l0];refine PEv.ite (fun _=>?_) (fun h=>by exfalso;omega);refine PEv.ite (fun _=>?_) (fun h=>by exfalso;omega);refine PEv.ite (fun _=>?_) (fun h=>by exfalso;omega);refine PEv.ite (fun h=>PEv.now ?_) (fun h=>?_)
   ·by_cases c:i=j0
    ·rw[c]
    exact absurd ((mE s i h2 47 47 rfl).1 h) (hj1 i bA)
   have:i≠j0:=by intro c;subst c;exact h ((mE s i h2 47 47 rfl).2 hj0)
   rw[w64 bA bA,show (i:Int) - 1=((i - 1:Nat):Int) by omega];exact ih (i - 1) bA bA bA
 have h0:PEv (fun r=>r=(j0:Int)) (fun k=>eV.f k s (s.size:Int)):=by
  unfold eV.f;rw[w64 bA bA,show (s.size:Int) - 1=((s.size - 1:Nat):Int) by omega];exact h s.size (s.size - 1) bA bA bA
 unfold fN.f;refine PEv.bind h0 (fun r hr=>?_);subst hr;rw[w64 bA bA];refine PEv.ite (fun _=>?_) (fun h=>by exfalso;omega);refine PEv.ite (fun _=>?_) (fun h=>by exfalso;omega);refine PEv.now ?_
 have e:L (s.extract ((j0:Int)+1).toNat s.size)=(L s).drop (behind (L s)):=by
  rw[eX,hb,show ((j0:Int)+1).toNat=j0+1 by omega];exact List.take_of_length_le (by rw[List.length_drop];omega)
 refine ⟨e,?_,fun j=>?_⟩
 ·rw[← eN,e,List.length_drop];omega
 rw[e,hb,List.getElem?_drop];exact hj1 _ bA
theorem uZ (s:ByteArray) (own:Bool):∃ j:Nat,(L (pathOf s own))[j]? = some 47:=by
 refine ⟨0,?_⟩;unfold pathOf;rw[kR,← List.head?_eq_getElem?];exact Go.Proofs.YtbkobfoaphcamaaGreatDoor.Path.mText_head _
theorem aCl (a b:List ByteArray) (c:List S37) (d:List ByteArray) (x y:ByteArray) (ha:a.length≤1000000) (hb:b.length≤1000000) (hc:c.length≤1000000) (hd:d.length≤1000000) (za:∀ x∈a,x.size≤1000000) (zb:∀ x∈b,x.size≤1000000) (zc:∀ x∈c,x.f0.size≤1000000∧x.f1.size≤1000000) (zd:∀ x∈d,x.size≤1000000) (hx:x.size≤900000) (hy:y.size≤900000) :
 PEv (fun r=>r=true→aEc a b c d x y) (fun k=>kN.f k a b c d x y):=by
 unfold kN.f;have no:PEv (fun r=>r=true→aEc a b c d x y) (fun _=>some false):=PEv.now (fun h=>by cases h);refine PEv.bind (aCm a b c d ha hb hc hd za zb zc zd) (fun r0 h0=>?_);refine PEv.ite (fun e0=>?_) (fun _=>no);refine PEv.bind (aHe y bA) (fun r4 h4=>?_);refine PEv.ite (fun _=>no) (fun e4=>?_);refine PEv.bind (P:=fun r=>r=ascii (L y)) ⟨_,aBk y bA,rfl⟩ (fun r1 h1=>?_);refine PEv.ite (fun e1=>?_) (fun _=>no);refine PEv.bind (P:=fun r=>r=ascii (L x)) ⟨_,aBk x bA,rfl⟩ (fun r2 h2=>?_);refine PEv.ite (fun e2=>?_) (fun _=>no);refine PEv.ite (fun e3=>?_) (fun _=>no);refine PEv.bindC (show hJ.f y false=some (pathOf y false) by unfold hJ.f;rw[if_pos bA]) ?_
 refine PEv.bind (pB _ (wJ y false hy) (uZ y false)) (fun p1 hp1=>?_);refine PEv.bind (tX x p1 hp1.2.1 hp1.2.2) (fun r5 h5=>?_);refine PEv.ite (fun e5=>?_) (fun _=>no);refine PEv.bindC (show hJ.f y true=some (pathOf y true) by unfold hJ.f;rw[if_pos bA]) ?_;refine PEv.bind (pB _ (wJ y true hy) (uZ y true)) (fun p2 hp2=>?_);refine PEv.bind (tX x p2 hp2.2.1 hp2.2.2) (fun r6 h6=>PEv.now (fun e6=>?_));exact ⟨h0 e0,h4 (by simpa using e4),h1▸e1,h2▸e2,aR,hp1.1▸h5 e5,hp2.1▸h6 e6⟩
end Go.Proofs.YtbkobfoaphcamaaGreatDoor.Total
namespace Go.Proofs.YtbkobfoaphcamaaGreatDoor.Path
open Go.RowKit Go.Proofs.YtbkobfoaphcamaaGreatDoor.Base Go.Proofs.YtbkobfoaphcamaaGreatDoor.Total Go.Proofs.YtbkobfoaphcamaaGreatDoor.PCore
def mkF (x:ByteArray×ByteArray):S37:=⟨x.1,x.2⟩
def sL (st:fP) (comp s:ByteArray):Prop:=aEc st.langs st.dis (st.fmts.map mkF) st.cont comp s
end Go.Proofs.YtbkobfoaphcamaaGreatDoor.Path
namespace Go.Proofs.YtbkobfoaphcamaaGreatDoor.Path
open Go.RowKit Go.WideMaps Go.Proofs.YtbkobfoaphcamaaGreatDoorW.PrintWords Go.Proofs.YtbkobfoaphcamaaGreatDoor.Base Go.Proofs.YtbkobfoaphcamaaGreatDoor.Lower Go.Proofs.YtbkobfoaphcamaaGreatDoor.Total Go.Proofs.YtbkobfoaphcamaaGreatDoor.PCore
theorem fM.kd {w:World} {v:Value} {l:List ByteArray} (H:fM w 0 v l) (hl:l.length≤9223372036854775807):∃ A c,v = .slice A l.length c∧l.length≤c∧Kd.C Kd.string w A l.length l:=by
 obtain ⟨A,c,e,hc,h⟩:=H;refine ⟨A,c,e,hc,rfl,hl,fun hn=>?_⟩;obtain ⟨g,o,ea,_,hh⟩:=h hn;refine ⟨⟨g,o,none⟩,ea,fun j p hp=>⟨[.string p],rfl,rfl,fun i u hu=>?_⟩⟩
 have hj:=(List.getElem?_eq_some_iff.1 hp)
 obtain ⟨hj1,hj2⟩:=hj
 have hi:i=0:=by
  cases i with
  | zero=>rfl
  | succ i=>simp at hu
 subst hi;simp only[List.getElem?_cons_zero,Option.some.injEq] at hu;subst hu;have ad:(⟨g,o,none⟩:Addr).add (j * 1+0)=⟨g,o+j,none⟩:=by unfold Addr.add;split <;> simp_all
 show w.cell? ((⟨g,o,none⟩:Addr).add (j * 1+0))=_;rw[ad,hh j hj1,hj2]
theorem nA.kd {w:World} {v:Value} {l:List (ByteArray×ByteArray)} (H:nA w 0 v l) (hl:l.length≤9223372036854775807):∃ A c,v = .slice A (l.map mkF).length c∧(l.map mkF).length≤c∧Kd.C k37 w A (l.map mkF).length (l.map mkF):=by
 obtain ⟨A,c,e,hc,h⟩:=H;refine ⟨A,c,by rw[List.length_map];exact e,by rw[List.length_map];exact hc,rfl,by rw[List.length_map];exact hl,fun hn=>?_⟩;rw[List.length_map] at hn;obtain ⟨g,o,ea,_,hh⟩:=h hn;refine ⟨⟨g,o,none⟩,ea,fun j p hp=>⟨[.string p.f0,.string p.f1],rfl,aIn _ _,fun i u hu=>?_⟩⟩;rw[List.getElem?_map,Option.map_eq_some_iff] at hp;obtain ⟨x,hx,rfl⟩:=hp;obtain ⟨hj1,hj2⟩:=List.getElem?_eq_some_iff.1 hx;obtain ⟨c1,c2⟩:=hh j hj1;rw[hj2] at c1 c2;have ad:∀ i,(⟨g,o,none⟩:Addr).add (j * 2+i)=⟨g,o+(j * 2+i),none⟩:=by intro i;unfold Addr.add;split <;> simp_all
 show w.cell? ((⟨g,o,none⟩:Addr).add (j * 2+i))=_;rw[ad]
 match i,hu with
 | 0,hu=>simp only[List.getElem?_cons_zero,Option.some.injEq] at hu;subst hu;exact c1
 | 1,hu=>simp only[List.getElem?_cons_succ,List.getElem?_cons_zero,Option.some.injEq] at hu;subst hu;exact c2
 | (i+2),hu=>simp at hu
end Go.Proofs.YtbkobfoaphcamaaGreatDoor.Path
namespace Go.Proofs.YtbkobfoaphcamaaGreatDoor.Path
open Go.RowKit Go.WideMaps Go.Proofs.YtbkobfoaphcamaaGreatDoorW.PrintWords Go.Proofs.YtbkobfoaphcamaaGreatDoor.Base Go.Proofs.YtbkobfoaphcamaaGreatDoor.Lower Go.Proofs.YtbkobfoaphcamaaGreatDoor.Total Go.Proofs.YtbkobfoaphcamaaGreatDoor.PCore
structure kC (w:World) (st:fP) (vl vd vf vc:Value):Prop extends SiteIn w st vl vd vf vc where
 ll:st.langs.length≤9223372036854775807
 dl:st.dis.length≤9223372036854775807
 fl:st.fmts.length≤9223372036854775807
 cl:st.cont.length≤9223372036854775807
theorem kC.below {w w' : World} {st:fP} {vl vd vf vc:Value} (H:kC w st vl vd vf vc) (hb:Below w.heap.size w w'):kC w' st vl vd vf vc :=
 ⟨H.toSiteIn.below hb,H.ll,H.dl,H.fl,H.cl⟩
def nU (st:fP):Bool:=Total.fits1 st.langs st.dis (st.fmts.map mkF) st.cont
def shortS (st:fP) (comp s:ByteArray):Bool:=aCi st.langs st.dis (st.fmts.map mkF) st.cont comp s
section
variable {w:World} {st:fP} {vl vd vf vc:Value}
theorem jW (S:kC w st vl vd vf vc):Calls Tryz.prog 15 #[.agg #[vl,vd,vf,vc]] w fun e w'=>e = .returned (.bool (nU st))∧Below w.heap.size w w':=by
 obtain ⟨k,hk⟩:=(Total.ev_fits1 st.langs st.dis (st.fmts.map mkF) st.cont).rounds;obtain ⟨A0,c0,rfl,h0,r0⟩:=S.l.kd S.ll;obtain ⟨A1,c1,rfl,h1,r1⟩:=S.d.kd S.dl;obtain ⟨A2,c2,rfl,h2,r2⟩:=S.f.kd S.fl;obtain ⟨A3,c3,rfl,h3,r3⟩:=S.c.kd S.cl;exact lL.calls k A0 c0 _ A1 c1 _ A2 c2 _ A3 c3 _ _ w r0 h0 r1 h1 r2 h2 r3 h3 hk
theorem aDt (S:kC w st vl vd vf vc) (hf:nU st=true) (comp s:ByteArray) (hc:comp.size≤MM) (hs:s.size≤MM):Calls Tryz.prog 20 #[.agg #[vl,vd,vf,vc],.string comp,.string s] w fun e w'=>e = .returned (.bool (shortS st comp s))∧Below w.heap.size w w':=by
 obtain ⟨k,hk⟩:=(aGt st.langs st.dis (st.fmts.map mkF) st.cont comp s hf hc hs).rounds;obtain ⟨A0,c0,rfl,h0,r0⟩:=S.l.kd S.ll;obtain ⟨A1,c1,rfl,h1,r1⟩:=S.d.kd S.dl;obtain ⟨A2,c2,rfl,h2,r2⟩:=S.f.kd S.fl;obtain ⟨A3,c3,rfl,h3,r3⟩:=S.c.kd S.cl;exact hY.calls k A0 c0 _ A1 c1 _ A2 c2 _ A3 c3 _ comp s _ w r0 h0 r1 h1 r2 h2 r3 h3 hk
theorem aBt {l:List ByteArray} (h:fewB l=true):l.length≤2000∧∀ x∈l,x.size≤2000:=by
 unfold fewB at h;simp only[decide_eq_true_eq] at h;refine ⟨aR,fun x hx=>?_⟩
 have:x.size≤wt l:=by
  unfold wt
  induction l with
  | nil=>cases hx
  | cons a r ih =>
   simp only[List.map_cons,List.sum_cons];rcases List.mem_cons.1 hx with rfl | hx
   ·omega
   have:=ih (by simp only[wt,List.map_cons,List.sum_cons,List.length_cons] at h;simp only[wt];omega) hx;omega
 omega
theorem aIf (l:List (S37)):l.length≤wt3 l:=by
 unfold wt3
 induction l with
 | nil=>simp
 | cons a r ih=>simp only[List.map_cons,List.sum_cons,List.length_cons];omega
theorem aIg (l:List (S37)) (x:S37) (hx:x∈l):x.f0.size+x.f1.size≤wt3 l:=by
 unfold wt3
 induction l with
 | nil=>cases hx
 | cons a r ih =>
  simp only[List.map_cons,List.sum_cons];rcases List.mem_cons.1 hx with rfl | hx
  ·omega
  have:=ih hx;omega
theorem tL {comp s:ByteArray} (h:shortS st comp s=true):jT st∧comp.size≤2000∧s.size≤2000∧st.langs.length≤2000∧st.dis.length≤2000∧(st.fmts.map mkF).length≤2000∧st.cont.length≤2000∧(∀ x∈st.langs,x.size≤2000)∧(∀ x∈st.dis,x.size≤2000)∧(∀ x∈st.fmts.map mkF,x.f0.size≤2000∧x.f1.size≤2000)∧(∀ x∈st.cont,x.size≤2000):=by
 unfold shortS aCi at h;simp only[Bool.and_eq_true,decide_eq_true_eq] at h;obtain ⟨h0,h1,h2,h3⟩:=h;obtain ⟨a1,a2⟩:=aBt h1;obtain ⟨b1,b2⟩:=aBt h2;obtain ⟨c1,c2⟩:=aBt h3;have hw:=aIf (st.fmts.map mkF);have hm:=aIg (st.fmts.map mkF);have hlen:(st.fmts.map mkF).length=st.fmts.length:=by simp
 refine ⟨⟨aR,aR,aR,aR,fun x hx=>Nat.le_trans (a2 x hx) bA⟩,aR,aR,a1,b1,aR,c1,a2,b2,fun x hx=>?_,c2⟩;have:=hm x hx;omega
theorem aFl {s:ByteArray} (h:Ext.ascii (L s)=true):asc s:=by
 intro j c hc;have:=List.all_eq_true.1 h c (List.mem_of_getElem? hc);simp only[decide_eq_true_eq] at this;omega
theorem yE (S:kC w st vl vd vf vc) (comp s:ByteArray) (h:shortS st comp s=true):∃ r:Bool,(r=true→asc s∧asc comp∧s.size≤400∧sL st comp s)∧∀ w',Below w.heap.size w w'→Calls Tryz.prog 21 #[.agg #[vl,vd,vf,vc],.string comp,.string s] w' fun e w''=>e = .returned (.bool r)∧Below w'.heap.size w' w'':=by
 obtain ⟨_,h1,h2,h3,h4,h5,h6,h7,h8,h9,h10⟩:=tL h;obtain ⟨r,hr,hp⟩:=aCl st.langs st.dis (st.fmts.map mkF) st.cont comp s bA bA bA bA (fun x hx=>Nat.le_trans (h7 x hx) bA) (fun x hx=>Nat.le_trans (h8 x hx) bA) (fun x hx=>⟨Nat.le_trans (h9 x hx).1 bA,Nat.le_trans (h9 x hx).2 bA⟩) (fun x hx=>Nat.le_trans (h10 x hx) bA) bA bA;obtain ⟨k,hk⟩:=hr.rounds;refine ⟨r,fun e=>⟨aFl (hp e).ascY,aFl (hp e).ascX,(hp e).most,hp e⟩,fun w' hb=>?_⟩;have S':=S.below hb;obtain ⟨A0,c0,rfl,g0,r0⟩:=S'.l.kd S.ll;obtain ⟨A1,c1,rfl,g1,r1⟩:=S'.d.kd S.dl;obtain ⟨A2,c2,rfl,g2,r2⟩:=S'.f.kd S.fl;obtain ⟨A3,c3,rfl,g3,r3⟩:=S'.c.kd S.cl
 exact kN.calls k A0 c0 _ A1 c1 _ A2 c2 _ A3 c3 _ comp s _ w' r0 g0 r1 g1 r2 g2 r3 g3 hk
end
end Go.Proofs.YtbkobfoaphcamaaGreatDoor.Path
namespace Go.Proofs.YtbkobfoaphcamaaGreatDoor.SiteRow
open Go.ChangeShapes Go.WideShapes Go.ChangeAt Go.RowKit Go.Joins Go.Deep Go.Proofs.YtbkobfoaphcamaaGreatDoor.Path
theorem laidOut:laidOutB Tryz.prog=true:=by kernel_rfl
theorem aA6 {a:Addr} (h:a.spot=none) (j:Nat):a.add j=⟨a.block,a.off+j,none⟩:=by
 cases a with
 | mk b o s =>
  simp only at h;subst h;unfold Addr.add;split
  ·rename_i h0;subst h0;rfl
  rfl
theorem aAf {w:World} {a:Addr} {v:Value} (h:w.cell? a=some v):a.spot=none:=by
 unfold World.cell? at h;split at h
 ·cases hs:a.spot with
  | none=>rfl
  | some x=>rw[hs] at h;simp at h
 cases h
section
variable {H:Type} {enc:TypeId×Value→H} {W:World}
set_option maxRecDepth 100000 in
theorem open_strs {n:Nat} {v:Value} {y:DataW H×List MemPlace} (h:DataW.trod enc Tryz.prog W 0 (fun _=>true) true n 22 [v]=some y):∃ l,fM W 0 v l∧l.length≤9223372036854775807:=by
 rcases open_strings Tryz.underlying22 Tryz.underlying9 bB h with ⟨hcs,_⟩ | ⟨a,len,cap,ss,hcs,_,hl,hm,hz,_,hcell,_⟩
 ·injection hcs with hcs
  subst hcs;exact ⟨[],fM.nil _ _ _ _,eB⟩
 injection hcs with hcs
 subst hcs;simp only[if_true] at hz;have hlen:(ss.take len).length=len:=by rw[List.length_take];omega
 have hmx:cap≤9223372036854775807:=by have:=hm;unfold maxLen at this;omega
 refine ⟨ss.take len,⟨some a,cap,by rw[hlen],by rw[hlen];exact hl,fun hp=>?_⟩,by rw[hlen];omega⟩;rw[hlen] at hp;have hsp:a.spot=none:=aAf (show W.cell? a=_ by have:=hcell 0 bA;rwa[show a.add 0=a by simp[Addr.add]] at this);refine ⟨a.block,a.off,by cases a;simp only at hsp;subst hsp;rfl,Nat.zero_le _,fun j hj=>?_⟩;have hj2:j < len:=by rw[hlen] at hj;exact hj
 have:=hcell j bA;rw[aA6 hsp] at this;rw[this];congr 2;rw[List.getElem_take,List.getD_eq_getElem?_getD,List.getElem?_eq_getElem bA];rfl
set_option maxRecDepth 100000 in
theorem aF7 {n:Nat} {v:Value} {y:DataW H×List MemPlace} (h:DataW.trod enc Tryz.prog W 0 (fun _=>true) true n 23 [v]=some y):∃ l,nA W 0 v l∧l.length≤9223372036854775807:=by
 rcases open_slice Tryz.underlying23 h with ⟨hcs,_⟩ | ⟨a,len,cap,m,n2,D,Pl,hcs,_,hl,hm,hmm,_,hi⟩
 ·injection hcs with hcs
  subst hcs;exact ⟨[],⟨none,0,rfl,Nat.le_refl _,fun h=>absurd h bL⟩,eB⟩
 injection hcs with hcs
 subst hcs;simp only[if_true] at hmm;have hmx:cap≤9223372036854775807:=by have:=hm;unfold maxLen at this;omega
 have h2:Tryz.prog.cellsOf 37=2:=by kernel_rfl
 have each:∀ i,i < len→∃ x:ByteArray×ByteArray,W.cell? (a.add (i * 2))=some (.string x.1)∧W.cell? (a.add (i * 2+1))=some (.string x.2):=by
  intro i hil;obtain ⟨cs,hc,ht⟩:=hi i bA;rw[h2] at hc;obtain ⟨_,hcl,hat⟩:=World.cells?_some hc;obtain ⟨y0,y1,n3,_,_,h0,h1⟩:=trod_struct2 Tryz.underlying37 ht
  match cs,hcl with
  | [c0,c1],_ =>
   have e0:DataW.trod enc Tryz.prog W 0 (fun _=>true) true n3 9 [c0]=some y0:=h0;have e1:DataW.trod enc Tryz.prog W 0 (fun _=>true) true n3 9 [c1]=some y1:=h1;obtain ⟨s0,hs0,_⟩:=DataW.trod_string Tryz.underlying9 e0;obtain ⟨s1,hs1,_⟩:=DataW.trod_string Tryz.underlying9 e1;injection hs0 with hs0
   injection hs1 with hs1
   subst hs0 hs1;have a0:=hat 0 bA;have a1:=hat 1 bA;rw[Go.Deep.add_add] at a0 a1;exact ⟨(s0,s1),a0,a1⟩
 obtain ⟨f,hf⟩:=choose_lt each;have hlen:((List.range len).map f).length=len:=by simp
 refine ⟨(List.range len).map f,⟨some a,cap,by rw[hlen],by rw[hlen];exact hl,fun hp=>?_⟩,by rw[hlen];omega⟩;rw[hlen] at hp;have hsp:a.spot=none:=aAf (show W.cell? a=_ by have:=(hf 0 hp).1;rwa[show a.add (0 * 2)=a by simp[Addr.add]] at this);refine ⟨a.block,a.off,by cases a;simp only at hsp;subst hsp;rfl,Nat.zero_le _,fun j hj=>?_⟩;have hj2:j < len:=by rw[hlen] at hj;exact hj
 obtain ⟨g1,g2⟩:=hf j hj2;rw[aA6 hsp] at g1 g2;rw[g1,g2]
 simp
set_option maxRecDepth 100000 in
theorem open_site {r:Reach} {base:Nat} {v:Value} {d:DataW H} {p:List MemPlace} (hv:Value.okWide Tryz.prog W r base 25 v) (h:DataW.Trod enc Tryz.prog W 0 (fun _=>true) true 25 v d p) :
 ∃ st vl vd vf vc,v = .agg #[vl,vd,vf,vc]∧kC W st vl vd vf vc:=by
 obtain ⟨v0,v1,v2,v3,y0,y1,y2,y3,n,rfl,_,_,h0,h1,h2,h3⟩:=open_agg4 Tryz.underlying25 bB bB hv h;obtain ⟨l0,s0,z0⟩:=open_strs h0;obtain ⟨l1,s1,z1⟩:=open_strs h1;obtain ⟨l2,s2,z2⟩:=aF7 h2;obtain ⟨l3,s3,z3⟩:=open_strs h3;exact ⟨⟨l0,l1,l2,l3⟩,v0,v1,v2,v3,rfl,⟨⟨s0,s1,s2,s3⟩,z0,z1,z2,z3⟩⟩
end
end Go.Proofs.YtbkobfoaphcamaaGreatDoor.SiteRow
namespace Go.Proofs.YtbkobfoaphcamaaGreatDoor.Path
open Go.RowKit Go.WideMaps Go.Proofs.YtbkobfoaphcamaaGreatDoorW.PrintWords Go.Proofs.YtbkobfoaphcamaaGreatDoor.Base Go.Proofs.YtbkobfoaphcamaaGreatDoor.Lower Go.Proofs.YtbkobfoaphcamaaGreatDoor.Total Go.Proofs.YtbkobfoaphcamaaGreatDoor.PCore
theorem gY {ops:Array Oper} {rest:List Oper} {op:Oper} {a:Act} {w:World} {Q:Exit→Act→World→Prop} (hgd:op.guard=none) (x y:Operand) (ho:op.op = .store 28 x y) (b:Nat) (C:Array Value)
 (hx:a.eval x = .pointer (some ⟨b,0,none⟩)) (hy:a.eval y = .agg C) {cs:List Value} (hR:Row w b cs) (hcs:cs.length=31) (hC:C.size=31) (hone:C.all (·.oneCell')=true) (h:wpList Tryz.prog ops Q rest (a.put op.dst undef) (w.setCells b 0 C.toList)) :
 wpList Tryz.prog ops Q (op::rest) a w:=by
 have ht:w.there b 0 31:=hcs▸hR.there;exact wpList_store_mid hgd 28 x y ho b 0 C hx hy (by rw[hC];exact ht) (by rw[hC];kernel_rfl) hone h
def aHp:gV:=⟨⟨#[]⟩,⟨#[]⟩,⟨#[]⟩,⟨#[]⟩,⟨#[]⟩,⟨#[]⟩,⟨#[]⟩,⟨#[]⟩,⟨#[]⟩,⟨#[]⟩,⟨#[]⟩,⟨#[]⟩,⟨#[]⟩,⟨#[]⟩,⟨#[]⟩,⟨#[]⟩,⟨#[]⟩,⟨#[]⟩,⟨#[]⟩,⟨#[]⟩,⟨#[]⟩,[],[],[],false,false,false,false,false,false,0⟩
end Go.Proofs.YtbkobfoaphcamaaGreatDoor.Path
namespace Go.Proofs.YtbkobfoaphcamaaGreatDoor.Path
open Go.RowKit Go.Proofs.YtbkobfoaphcamaaGreatDoorW.PrintWords Go.Proofs.YtbkobfoaphcamaaGreatDoor.Base
theorem aB2 {E:Env} {lay:Bool} {p q:eQ} {pre v:ByteArray} {x:Int×Int} (h:jD E lay p pre x v=some q):Same p q:=by
 unfold jD at h
 repeat' split at h
 all_goals first | (cases h;exact ⟨rfl,rfl,rfl,rfl,rfl,rfl,rfl,rfl,rfl⟩) | cases h
theorem wH (E:Env) (p:eQ) (comp:ByteArray) (lo ld:Nat) (nd:Int) (last:Bool):Same p (jE E p comp lo ld nd last).1:=by
 unfold jE;simp only;split
 ·unfold nE;simp only;split
  ·exact ⟨rfl,rfl,rfl,rfl,rfl,rfl,rfl,rfl,rfl⟩
  split
  ·rename_i q hq
   exact aB2 hq
  exact ⟨rfl,rfl,rfl,rfl,rfl,rfl,rfl,rfl,rfl⟩
 split
 ·exact ⟨rfl,rfl,rfl,rfl,rfl,rfl,rfl,rfl,rfl⟩
 unfold jI
 repeat' split
 all_goals exact ⟨rfl,rfl,rfl,rfl,rfl,rfl,rfl,rfl,rfl⟩
theorem qL (E:Env) (p:eQ) (comp:ByteArray) (i ld:Nat) (nd:Int) (last:Bool):Same p (mId E p comp i ld nd last):=by
 unfold mId;split
 ·exact Same.refl p
 obtain ⟨e,he,_⟩:=qG (jE E p comp (i+1) ld nd last) i ld last;rw[he];have h:=wH E p comp (i+1) ld nd last;exact ⟨h.s,h.cLow,h.cHigh,h.sec,h.comp,h.typ,h.nLow,h.nHigh,h.trim⟩
structure lU (T:ByteArray) (t:Int) (p:eQ):Prop where
 s:p.s=T
 typ:p.typ=t
 hi:p.cHigh = -1∨∃ j:Nat,p.cHigh=(j:Int)+1∧T.data.toList[j]? = some 47
 lo:p.cLow = -1∨∃ j:Nat,p.cLow=(j:Int)+1∧T.data.toList[j]? = some 47
theorem lU.same {s:ByteArray} {t:Int} {p q:eQ} (h:lU s t p) (g:Same p q):lU s t q :=
 ⟨g.s.trans h.s,g.typ.trans h.typ,by rw[g.cHigh];exact h.hi,by rw[g.cLow];exact h.lo⟩
theorem lU.step {E:Env} {s comp:ByteArray} {t:Int} {sk:List Nat} {nd:Int} {i:Nat} {d:DoV} (h:lU s t d.p):lU s t (iU E comp sk nd i d).p:=by
 unfold iU;rw[h.s];split
 ·split
  ·exact h
  exact h.same (qL _ _ _ _ _ _ _)
 split
 ·rename_i hc
  have key:∀ q:eQ,lU s t q→lU s t { q with cHigh:=(i:Int)+1 }:=fun q hq=>⟨hq.s,hq.typ,.inr ⟨i,rfl,hc⟩,hq.lo⟩
  have key2:∀ q:eQ,lU s t q→lU s t { q with cLow:=(i:Int)+1 }:=fun q hq=>⟨hq.s,hq.typ,hq.hi,.inr ⟨i,rfl,hc⟩⟩
  have key3:∀ q:eQ,lU s t q→lU s t { q with sec:=(i:Int) }:=fun q hq=>⟨hq.s,hq.typ,hq.hi,hq.lo⟩
  have hq:lU s t (if 0 < d.ld then mId E d.p comp i d.ld nd true else d.p):=by
   split
   ·exact h.same (qL _ _ _ _ _ _ _)
   exact h
  have h1:lU s t (if d.p.cHigh = -1 then { (if 0 < d.ld then mId E d.p comp i d.ld nd true else d.p) with cHigh:=(i:Int)+1 } else if d.p.cLow = -1 then { d.p with cLow:=(i:Int)+1 } else d.p):=by
   split
   ·exact key _ hq
   split
   ·exact key2 _ h
   exact h
  simp only;split
  ·exact key3 _ h1
  exact h1
 exact h
theorem lU.loop {E:Env} {s comp:ByteArray} {t:Int} {sk:List Nat} {nd:Int}:∀ (i:Nat) (d:DoV),lU s t d.p→lU s t (jC E comp sk nd i d).p
 | 0,_,h=>h
 | i+1,d,h=>by unfold jC;exact lU.loop i _ h.step
theorem aDd (E:Env) (comp s:ByteArray):∃ (T:ByteArray) (d:DoV),T=⟨(iJ s.data.toList).toArray⟩∧L T=iJ (L s)∧jN E comp s=tF E comp d∧In2 T comp 0 d∧lU T (if fH T.data.toList gC then 7 else 0) d.p∧d=zH E comp (jV { gJ with comp:=comp } T):=by
 obtain ⟨T,hT⟩:∃ T:ByteArray,⟨(iJ s.data.toList).toArray⟩=T:=⟨_,rfl⟩
 have hl:L T=iJ (L s):=by rw[← hT];exact kR _
 have h0:T.data.toList[0]? = some 47:=by show (L T)[0]? = _;rw[hl,← List.head?_eq_getElem?];exact mText_head _
 have hI:In1 T comp T.size ⟨jV { gJ with comp:=comp } T,0,0⟩:=In1.start rfl rfl rfl rfl rfl rfl rfl rfl rfl rfl rfl rfl rfl;have h2:=(InD.loop (E:=E) (sk:=lV T.data.toList) (nd:=qV T.data.toList) h0 T.size _ (Nat.le_refl _) (.inl hI)).last h0
 have hk:lU T (if fH T.data.toList gC then 7 else 0) (jV { gJ with comp:=comp } T):=⟨rfl,rfl,.inl rfl,.inl rfl⟩
 refine ⟨T,_,hT.symm,hl,?_,h2,lU.loop (E:=E) (comp:=comp) (sk:=lV T.data.toList) (nd:=qV T.data.toList) T.size ⟨jV { gJ with comp:=comp } T,0,0⟩ hk,rfl⟩;unfold jN mDo;rw[hT];rfl
end Go.Proofs.YtbkobfoaphcamaaGreatDoor.Path
namespace Go.Proofs.YtbkobfoaphcamaaGreatDoor.Path
open Go.RowKit Go.Proofs.YtbkobfoaphcamaaGreatDoorW.PrintWords Go.Proofs.YtbkobfoaphcamaaGreatDoor.Base
theorem aIx (s:ByteArray) (a:Nat):L (frm s (a:Int))=(L s).drop a:=by
 show L (s.extract (a:Int).toNat s.size)=_;rw[eX,Int.toNat_natCast];exact List.take_of_length_le (by rw[List.length_drop,eN];omega)
end Go.Proofs.YtbkobfoaphcamaaGreatDoor.Path
