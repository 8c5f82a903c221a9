/- Texts that the law leans on: Total3, PathKS, Kd, Keep, Keep2, Cuts, First. Condition: as told at each. -/
import Derived.Test.YtlkoeeccebmjmaaGreatDoorQa
import Derived.Test.YtlkoeeccebmjmaaGreatDoorQ15
set_option linter.unusedVariables false
set_option linter.unusedSimpArgs false
set_option maxRecDepth 100000
set_option maxHeartbeats 16000000
namespace Go.Proofs.YtlkoeeccebmjmaaGreatDoor.Total
open Go.RowKit Go.ZW.PrintWords Go.Proofs.YtlkoeeccebmjmaaGreatDoor.Base Go.Proofs.YtlkoeeccebmjmaaGreatDoor.PCore Go.Proofs.YtlkoeeccebmjmaaGreatDoor.Ext Go.Proofs.YtlkoeeccebmjmaaGreatDoor.Lower
open Go.Proofs.YtlkoeeccebmjmaaGreatDoor.Path (pW lA lX ints eQ pathOf behind iC)
def nF (n:List UInt8) (i:Nat):Nat:=if n[i+1]? = some 95 then (match pW n (i+2) with | some e=>e+1 | none=>i+1) else i+1
def kG (n:List UInt8):Nat→Nat→List Nat
 | 0,_=>[]
 | g+1,i=>if n.length≤i then [] else if n[i]? = some 46 then i::kG n g (nF n i) else kG n g (i+1)
def eS (n:List UInt8):List Nat:=kG n n.length 0
def iH (w:List UInt8):Bool:=decide (3≤w.length) && (w[0]? == some 95 && w[w.length - 1]? == some 95)
def inner (w:List UInt8):List UInt8:=(w.drop 1).take (w.length - 2)
def aIf:List UInt8:=[108,97,121,111,117,116,95]
def sT (n:List UInt8):Nat→List Nat→List (List UInt8)
 | a,[]=>[n.drop a]
 | a,c::cs=>(n.drop a).take (c - a)::sT n (c+1) cs
def okW (w:List UInt8):Prop:=iH w=true→(inner w).map jH≠aIf
structure nW (lay:Bool) (n:List UInt8):Prop where
 last:∀ c,(eS n).getLast? = some c→iH (n.drop (c+1))=false∧c+1≠n.length
 first:(eS n).head?≠some 0
 words:lay=true→eS n≠[]→∀ w∈sT n 0 (eS n),okW w
structure mK (x:ByteArray):Prop where
 pos:0 < x.size
 most:x.size≤20
 each:∀ i:Int,0≤i→i < x.size→(97≤bt x i∧bt x i≤122)∨(48≤bt x i∧bt x i≤57)∨bt x i=45
structure aEi (a b:List ByteArray) (c:List S53) (d:List ByteArray):Prop where
 langs:∀ x∈a,mK x
 dis:∀ x∈b,mK x
 fmts:∀ x∈c,mK x.f0∧mK x.f1
 cont:∀ x∈d,mK x
 apart:∀ x∈b,x∉a
 la:a.length≤12
 lb:b.length≤12
 lc:c.length≤12
 ld:d.length≤12
structure aEf (a b:List ByteArray) (c:List S53) (d:List ByteArray) (x y:ByteArray):Prop where
 site:aEi a b c d
 slashes:∀ i:Nat,¬ ((L y)[i]? = some 47∧(L y)[i+1]? = some 47)
 ascY:ascii (L y)=true
 ascX:ascii (L x)=true
 most:y.size≤400
 low:nW (eQ x) ((L (pathOf y false)).drop (behind (L (pathOf y false))))
 own:nW (eQ x) ((L (pathOf y true)).drop (behind (L (pathOf y true))))
theorem PEv.and {α:Type} {P Q:α→Prop} {g:Nat→Option α} (h1:PEv P g) (h2:PEv Q g):PEv (fun r=>P r∧Q r) g:=by
 obtain ⟨r,h,hp⟩:=h1;obtain ⟨r',h',hq⟩:=h2;obtain rfl:=Ev.fun_ h h';exact ⟨r,h,hp,hq⟩
theorem aHh (l:List ByteArray) (s:ByteArray) (hl:l.length≤4000000000):PEv (fun r=>r=true↔s∈l) (fun k=>fF.f k l s):=by
 have h:∀ (n i:Nat),i≤l.length→l.length - i≤n→PEv (fun r=>r=true↔s∈l.drop i) (fun k=>fF.l0 k l s (i:Int)):=by
  intro n
  induction n with
  | zero =>
   intro i h1 h2;refine PEv.succ ?_;simp only[fF.l0];refine PEv.ite (fun h=>by exfalso;omega) (fun _=>PEv.now ?_);rw[List.drop_of_length_le bA]
   simp
  | succ n ih =>
   intro i h1 h2;refine PEv.succ ?_;simp only[fF.l0];refine PEv.ite (fun h=>?_) (fun h=>PEv.now ?_)
   ·have hi:i < l.length:=by omega
    refine PEv.ite (fun _=>?_) (fun h=>by exfalso;omega);rw[oB _ _ _ hi,List.drop_eq_getElem_cons hi];refine PEv.ite (fun e=>PEv.now ?_) (fun e=>?_)
    ·have:l[i]=s:=by rw[L_toList,L_toList] at e;exact L_inj e
     simp[this]
    have hne:s≠l[i]:=fun x=>e (by rw[x]);rw[w64 bA bA];refine PEv.mono (ih (i+1) bA bA) (fun r hr=>?_);rw[hr,List.mem_cons];exact ⟨.inr,fun h=>h.resolve_left hne⟩
   rw[List.drop_of_length_le bA]
   simp
 exact h l.length 0 bA bA
theorem sM (s:ByteArray) (hs:s.size≤4000000000):PEv (fun r=>r=true→mK s) (fun k=>eP.f k s):=by
 have h:∀ (n:Nat) (i:Int),0≤i→(s.size:Int) - i≤n→PEv (fun r=>r=true→(0 < s.size∧s.size≤20)∧∀ j:Int,i≤j→j < s.size→(97≤bt s j∧bt s j≤122)∨(48≤bt s j∧bt s j≤57)∨bt s j=45) (fun k=>eP.l0 k s i):=by
  have fin:∀ i:Int,(s.size:Int)≤i→PEv (fun r=>r=true→(0 < s.size∧s.size≤20)∧∀ j:Int,i≤j→j < s.size→(97≤bt s j∧bt s j≤122)∨(48≤bt s j∧bt s j≤57)∨bt s j=45) (fun _=>if s.toList=([]:List UInt8) then (some false) else (some (decide ((s.size:Int)≤20)))):=by
   intro i hi;refine PEv.ite (fun _=>PEv.now (fun h=>by cases h)) (fun hne=>PEv.now (fun h=>?_));have h20:=of_decide_eq_true h;refine ⟨⟨?_,aR⟩,fun j h1 h2=>by exfalso;omega⟩;rcases Nat.eq_zero_or_pos s.size with h0 | h0
   ·exact absurd (by rw[L_toList];exact List.eq_nil_of_length_eq_zero (by rw[eF];exact h0)) hne
   exact h0
  intro n
  induction n with
  | zero =>
   intro i h1 h2;refine PEv.succ ?_;simp only[eP.l0];exact PEv.ite (fun h=>by exfalso;omega) (fun _=>fin i bA)
  | succ n ih =>
   intro i h1 h2;refine PEv.succ ?_;simp only[eP.l0];refine PEv.ite (fun h=>?_) (fun _=>fin i bA);refine PEv.ite (fun _=>?_) (fun h=>by exfalso;omega);rw[w64 bA bA]
   have hr:((97≤bt s i∧bt s i≤122)∨(48≤bt s i∧bt s i≤57)∨bt s i=45)→PEv (fun r=>r=true→(0 < s.size∧s.size≤20)∧∀ j:Int,i≤j→j < s.size→(97≤bt s j∧bt s j≤122)∨(48≤bt s j∧bt s j≤57)∨bt s j=45) (fun k=>eP.l0 k s (i+1)):=by
    intro hc;refine PEv.mono (ih (i+1) bA bA) (fun r hr e=>⟨(hr e).1,fun j g1 g2=>?_⟩)
    by_cases c:j=i
    ·rw[c];exact hc
    exact (hr e).2 j bA g2
   have no:PEv (fun r=>r=true→(0 < s.size∧s.size≤20)∧∀ j:Int,i≤j→j < s.size→(97≤bt s j∧bt s j≤122)∨(48≤bt s j∧bt s j≤57)∨bt s j=45) (fun _=>some false):=PEv.now (fun h=>by cases h);refine PEv.ite (fun _=>?_) (fun _=>?_)
   ·exact PEv.ite (fun _=>PEv.ite (fun c=>hr (.inr (.inr c))) (fun _=>no)) (fun _=>PEv.ite (fun _=>PEv.ite (fun c=>hr (.inr (.inr c))) (fun _=>no)) (fun _=>hr (.inr (.inl ⟨aR,aR⟩))))
   refine PEv.ite (fun _=>?_) (fun _=>hr (.inl ⟨aR,aR⟩));exact PEv.ite (fun _=>PEv.ite (fun c=>hr (.inr (.inr c))) (fun _=>no)) (fun _=>PEv.ite (fun _=>PEv.ite (fun c=>hr (.inr (.inr c))) (fun _=>no)) (fun _=>hr (.inr (.inl ⟨aR,aR⟩))))
 refine PEv.mono (h s.size 0 bA bA) (fun r hr e=>?_);obtain ⟨⟨h1,h2⟩,h3⟩:=hr e;exact ⟨h1,h2,h3⟩
theorem rS (l:List ByteArray) (hl:l.length≤4000000000) (hz:∀ x∈l,x.size≤4000000000):PEv (fun r=>r=true→l.length≤12∧∀ x∈l,mK x) (fun k=>eO.f k l):=by
 have h:∀ (n i:Nat),i≤l.length→l.length - i≤n→PEv (fun r=>r=true→l.length≤12∧∀ x∈l.drop i,mK x) (fun k=>eO.l0 k l (i:Int)):=by
  intro n
  induction n with
  | zero =>
   intro i h1 h2;refine PEv.succ ?_;simp only[eO.l0];refine PEv.ite (fun h=>by exfalso;omega) (fun _=>PEv.now (fun h=>?_));have:=of_decide_eq_true h;rw[List.drop_of_length_le bA];exact ⟨aR,dW⟩
  | succ n ih =>
   intro i h1 h2;refine PEv.succ ?_;simp only[eO.l0];refine PEv.ite (fun h=>?_) (fun h=>PEv.now (fun e=>?_))
   ·have hi:i < l.length:=by omega
    refine PEv.ite (fun _=>?_) (fun h=>by exfalso;omega);rw[oB _ _ _ hi,List.drop_eq_getElem_cons hi];refine PEv.bind (sM _ (hz _ (List.getElem_mem hi))) (fun a ha=>?_);refine PEv.ite (fun e=>?_) (fun _=>PEv.now (fun h=>by cases h));refine PEv.ite (fun _=>?_) (fun h=>by exfalso;omega);refine PEv.bind (aBw _ _ (by simp;omega)) (fun a _=>?_);refine PEv.ite (fun _=>PEv.now (fun h=>by cases h)) (fun _=>?_);rw[w64 bA bA];refine PEv.mono (ih (i+1) bA bA) (fun r hr e2=>⟨(hr e2).1,fun x hx=>?_⟩);rcases List.mem_cons.1 hx with rfl | hx
    ·exact ha e
    exact (hr e2).2 x hx
   have:=of_decide_eq_true e;rw[List.drop_of_length_le bA];exact ⟨aR,dW⟩
 exact h l.length 0 bA bA
theorem aCp (a b:List ByteArray) (c:List S53) (d:List ByteArray) (ha:a.length≤4000000000) (hb:b.length≤4000000000) (hc:c.length≤4000000000) (hd:d.length≤4000000000) (za:∀ x∈a,x.size≤4000000000) (zb:∀ x∈b,x.size≤4000000000) (zc:∀ x∈c,x.f0.size≤4000000000∧x.f1.size≤4000000000) (zd:∀ x∈d,x.size≤4000000000):PEv (fun r=>r=true→aEi a b c d) (fun k=>eJ.f k a b c d):=by
 have h1:∀ (n i:Nat),i≤c.length→c.length - i≤n→PEv (fun r=>r=true→∀ x∈c.drop i,mK x.f0∧mK x.f1) (fun k=>eJ.l1 k (i:Int) a b c d):=by
  intro n
  induction n with
  | zero =>
   intro i h1 h2;refine PEv.succ ?_;simp only[eJ.l1];refine PEv.ite (fun h=>by exfalso;omega) (fun _=>PEv.now (fun _=>?_));rw[List.drop_of_length_le bA]
   simp
  | succ n ih =>
   intro i h1 h2;refine PEv.succ ?_;simp only[eJ.l1];refine PEv.ite (fun h=>?_) (fun _=>PEv.now (fun _=>?_))
   ·have hi:i < c.length:=by omega
    refine PEv.ite (fun _=>?_) (fun h=>by exfalso;omega);rw[oA _ _ hi,List.drop_eq_getElem_cons hi];refine PEv.bind (sM _ (zc _ (List.getElem_mem hi)).1) (fun x hx=>?_);refine PEv.ite (fun e1=>?_) (fun _=>PEv.now (fun h=>by cases h));refine PEv.bind (sM _ (zc _ (List.getElem_mem hi)).2) (fun y hy=>?_);refine PEv.ite (fun e2=>?_) (fun _=>PEv.now (fun h=>by cases h));rw[w64 bA bA];refine PEv.mono (ih (i+1) bA bA) (fun r hr e x hx=>?_);rcases List.mem_cons.1 hx with rfl | hx
    ·exact ⟨by first | exact ‹_→mK c[i].f0› e1 | assumption,hy e2⟩
    exact hr e x hx
   rw[List.drop_of_length_le bA]
   simp
 have h0:∀ (n i:Nat),i≤b.length→b.length - i≤n→PEv (fun r=>r=true→(∀ x∈c,mK x.f0∧mK x.f1)∧∀ x∈b.drop i,x∉a) (fun k=>eJ.l0 k (i:Int) a b c d):=by
  have fin:∀ i:Nat,b.length≤i→PEv (fun r=>r=true→(∀ x∈c,mK x.f0∧mK x.f1)∧∀ x∈b.drop i,x∉a) (fun k=>eJ.l1 k 0 a b c d):=by
   intro i hi;refine PEv.mono (h1 c.length 0 bA bA) (fun r hr e=>⟨hr e,?_⟩);rw[List.drop_of_length_le hi]
   simp
  intro n
  induction n with
  | zero =>
   intro i g1 g2;refine PEv.succ ?_;simp only[eJ.l0];exact PEv.ite (fun h=>by exfalso;omega) (fun _=>fin i bA)
  | succ n ih =>
   intro i g1 g2;refine PEv.succ ?_;simp only[eJ.l0];refine PEv.ite (fun h=>?_) (fun _=>fin i bA);have hi:i < b.length:=by omega
   refine PEv.ite (fun _=>?_) (fun h=>by exfalso;omega);rw[oB _ _ _ hi,List.drop_eq_getElem_cons hi];refine PEv.bind (aHh _ _ bA) (fun x hx=>?_);refine PEv.ite (fun _=>PEv.now (fun h=>by cases h)) (fun hf=>?_);rw[w64 bA bA];refine PEv.mono (ih (i+1) bA bA) (fun r hr e=>⟨(hr e).1,fun y hy=>?_⟩);rcases List.mem_cons.1 hy with rfl | hy
   ·exact fun hm=>hf (hx.2 hm)
   exact (hr e).2 y hy
 have hj:∀ x:Bool,PEv (fun r=>r=true→x=false∧(∀ x∈c,mK x.f0∧mK x.f1)∧∀ x∈b,x∉a) (fun k=>eJ.j0 k x a b c d):=by
  intro x;refine PEv.succ ?_;simp only[eJ.j0];refine PEv.ite (fun _=>PEv.now (fun h=>by cases h)) (fun hx=>?_);exact PEv.mono (h0 b.length 0 bA bA) (fun r hr e=>⟨by simpa using hx,hr e⟩)
 have no:PEv (fun r=>r=true→aEi a b c d) (fun k=>eJ.j0 k true a b c d):=PEv.mono (hj true) (fun r hr e=>by cases (hr e).1);unfold eJ.f;refine PEv.bind (rS a ha za) (fun _ p1=>PEv.ite (fun e1=>?_) (fun _=>no));refine PEv.bind (rS b hb zb) (fun _ p2=>PEv.ite (fun e2=>?_) (fun _=>no));refine PEv.bind (rS d hd zd) (fun _ p3=>PEv.ite (fun e3=>?_) (fun _=>no));refine PEv.mono (hj _) (fun r hr e=>?_);obtain ⟨q1,q2,q3⟩:=hr e;have q4:=of_decide_eq_false q1;exact ⟨(p1 e1).2,(p2 e2).2,q2,(p3 e3).2,q3,(p1 e1).1,(p2 e2).1,aR,(p3 e3).1⟩
theorem aHi (s:ByteArray) (hs:s.size≤1000000):PEv (fun r=>r=false→∀ i:Nat,¬ ((L s)[i]? = some 47∧(L s)[i+1]? = some 47)) (fun k=>fL.f k s (⟨#[47,47]⟩:ByteArray)):=by
 have hl:=eF s;have hz:((⟨#[47,47]⟩:ByteArray).size:Int)=2:=rfl
 have h:∀ (n i:Nat),i≤1000001→s.size+1 - i≤n→PEv (fun r=>r=false→∀ j:Nat,i≤j→¬ ((L s)[j]? = some 47∧(L s)[j+1]? = some 47)) (fun k=>fL.l0 k s (⟨#[47,47]⟩:ByteArray) (i:Int)):=by
  have fin:∀ i:Nat,s.size < i+2→PEv (fun r=>r=false→∀ j:Nat,i≤j→¬ ((L s)[j]? = some 47∧(L s)[j+1]? = some 47)) (fun _=>some false):=by
   intro i hi;refine PEv.now (fun _ j hj h=>?_);have:=(List.getElem?_eq_some_iff.1 h.2).1;omega
  intro n
  induction n with
  | zero =>
   intro i h3 h2;refine PEv.succ ?_;simp only[fL.l0,hz];rw[w64 (n:=(i:Int)+2) bA bA];exact PEv.ite (fun h=>by exfalso;omega) (fun _=>fin i bA)
  | succ n ih =>
   intro i h3 h2;refine PEv.succ ?_;simp only[fL.l0,hz];rw[w64 (n:=(i:Int)+2) bA bA];refine PEv.ite (fun h=>?_) (fun _=>fin i bA);refine PEv.ite (fun _=>?_) (fun h=>by exfalso;omega);refine PEv.ite (fun _=>?_) (fun h=>by exfalso;omega);refine PEv.ite (fun _=>PEv.now (fun h=>by cases h)) (fun hne=>?_);rw[w64 bA bA];refine PEv.mono (ih (i+1) bA bA) (fun r hr e j hj hp=>?_)
   by_cases c:j=i
   ·subst c;refine hne ?_;obtain ⟨a1,a2⟩:=List.getElem?_eq_some_iff.1 hp.1;obtain ⟨b1,b2⟩:=List.getElem?_eq_some_iff.1 hp.2;rw[L_toList,L_toList,eR,show ((j:Int)+2).toNat - (j:Int).toNat=2 by omega,Int.toNat_natCast,List.drop_eq_getElem_cons a1,List.drop_eq_getElem_cons b1,a2,b2];rfl
   exact hr e j bA hp
 exact PEv.mono (h (s.size+1) 0 bA bA) (fun r hr e j=>hr e j (Nat.zero_le _))
theorem vG (s:ByteArray) (hs:s.size≤1000000) (h47:∀ j:Nat,(L s)[j]?≠some 47):PEv (fun r=>r=ints (eS (L s))) (fun k=>eH.f k s):=by
 have hl:=eF s
 have h:∀ (m i:Nat) (acc:List Int),i≤s.size→s.size - i≤m→acc.length≤i→PEv (fun r=>r=acc++ints (kG (L s) m i)) (fun k=>eH.l0 k s acc (i:Int)):=by
  intro m
  induction m with
  | zero =>
   intro i acc h1 h2 h3;refine PEv.succ ?_;simp only[eH.l0];exact PEv.ite (fun h=>by exfalso;omega) (fun _=>PEv.now (by simp[kG,ints]))
  | succ m ih =>
   intro i acc h1 h2 h3;refine PEv.succ ?_;simp only[eH.l0];refine PEv.ite (fun hi=>?_) (fun hi=>?_);rotate_left
   ·have:kG (L s) (m+1) i=[]:=by unfold kG;rw[if_pos bA]
    rw[this];exact PEv.now (by simp[ints])
   have hb:=lX s i bA 46 46 rfl;refine PEv.ite (fun _=>?_) (fun h=>by exfalso;omega);rw[w64 (n:=(i:Int)+1) bA bA];have ei:(i:Int)+1=((i+1:Nat):Int):=by omega
   refine PEv.ite (fun h46=>?_) (fun h46=>?_);rotate_left
   ·have:kG (L s) (m+1) i=kG (L s) m (i+1):=by rw[kG,if_neg bA,if_neg (fun x=>h46 (hb.2 x))]
    rw[this,ei];exact ih (i+1) acc bA bA bA
   refine PEv.ite (fun _=>?_) (fun h=>by exfalso;omega);have hc:kG (L s) (m+1) i=i::kG (L s) m (nF (L s) i):=by rw[kG,if_neg bA,if_pos (hb.1 h46)]
   have hd:acc++ints (i::kG (L s) m (nF (L s) i))=(acc++[(i:Int)])++ints (kG (L s) m (nF (L s) i)):=by simp[ints]
   have hl2:(acc++[(i:Int)]).length≤i+1:=by simp;omega
   rw[hc,hd]
   obtain ⟨y,hy⟩:∃ y,acc++[(i:Int)]=y:=⟨_,rfl⟩
   rw[hy] at hl2 ⊢
   have hl1:∀ (q p:Nat),s.size - p=q→p≤s.size+1→i+1 < p→PEv (fun r=>r=y++ints (kG (L s) m (match lA (L s) q p with | some e=>e+1 | none=>i+1))) (fun k=>eH.l1 k s y (i:Int) (p:Int)):=by
    intro q
    induction q with
    | zero =>
     intro p g1 g3 g2;refine PEv.succ ?_;simp only[eH.l1];refine PEv.ite (fun h=>by exfalso;omega) (fun _=>?_);rw[w64 (n:=(i:Int)+1) bA bA,ei];exact ih (i+1) y bA bA hl2
    | succ q ihq =>
     intro p g1 g3 g2;have hp:p < s.size:=by omega
     have hb1:=lX s p hp 95 95 rfl;have ep:(p:Int)+1=((p+1:Nat):Int):=by omega
     refine PEv.succ ?_;simp only[eH.l1];rw[w64 (n:=(p:Int)+1) bA bA,w64 (n:=(i:Int)+1) bA bA];refine PEv.ite (fun _=>?_) (fun h=>by exfalso;omega);refine PEv.ite (fun _=>?_) (fun h=>by exfalso;omega)
     have yes:((L s)[p]? = some 95∧((L s).length≤p+1∨(L s)[p+1]? = some 46))→lA (L s) (q+1) p=some p:=by
      intro h;rw[lA,if_neg (h47 p),if_pos h]
     have no:¬ ((L s)[p]? = some 95∧((L s).length≤p+1∨(L s)[p+1]? = some 46))→lA (L s) (q+1) p=lA (L s) q (p+1):=by
      intro h;rw[lA,if_neg (h47 p),if_neg h]
     refine PEv.ite (fun h95=>?_) (fun h95=>?_);rotate_left
     ·rw[no (fun h=>h95 (hb1.2 h.1)),ep];exact ihq (p+1) bA bA bA
     refine PEv.ite (fun he=>?_) (fun he=>?_)
     ·rw[yes ⟨hb1.1 h95,.inl bA⟩,ep];exact ih (p+1) y bA bA bA
     have hb2:=lX s (p+1) bA 46 46 rfl;refine PEv.ite (fun _=>?_) (fun h=>by exfalso;omega);refine PEv.ite (fun _=>?_) (fun h=>by exfalso;omega);rw[ep];refine PEv.ite (fun h46=>?_) (fun h46=>?_)
     ·rw[yes ⟨hb1.1 h95,.inr (hb2.1 h46)⟩];exact ih (p+1) y bA bA bA
     rw[no (fun h=>by rcases h.2 with h | h <;> first | omega | exact h46 (hb2.2 h))];exact ihq (p+1) bA bA bA
   have hj:∀ x:Bool,(x=true↔(L s)[i+1]?≠some 95)→PEv (fun r=>r=y++ints (kG (L s) m (nF (L s) i))) (fun k=>eH.j1 k s y (i:Int) x):=by
    intro x hx;refine PEv.succ ?_;simp only[eH.j1];rw[w64 (n:=(i:Int)+1) bA bA,w64 (n:=(i:Int)+2) bA bA];refine PEv.ite (fun e=>?_) (fun e=>?_)
    ·have:nF (L s) i=i+1:=by unfold nF;rw[if_neg (hx.1 e)]
     rw[this,ei];exact ih (i+1) y bA bA hl2
    have h95:(L s)[i+1]? = some 95:=Classical.byContradiction fun c=>e (hx.2 c);have hlt:=(List.getElem?_eq_some_iff.1 h95).1;have:nF (L s) i=(match lA (L s) (s.size - (i+2)) (i+2) with | some e=>e+1 | none=>i+1):=by unfold nF pW;rw[if_pos h95,hl]
    rw[this,show (i:Int)+2=((i+2:Nat):Int) by omega];exact hl1 (s.size - (i+2)) (i+2) rfl bA bA
   refine PEv.bindC rfl ?_;refine PEv.ite (fun he=>hj _ ?_) (fun he=>?_)
   ·simp only[true_iff];rw[List.getElem?_eq_none bA]
    simp
   refine PEv.ite (fun _=>?_) (fun h=>by exfalso;omega);refine PEv.ite (fun _=>hj _ ?_) (fun h=>by exfalso;omega);have hb2:=lX s (i+1) bA 95 95 rfl;rw[ei,bne_iff_ne];exact not_congr hb2
 have:=h s.size 0 [] bA bA bL;unfold eH.f eS;rw[hl];exact this
theorem tN (s:ByteArray) (hs:s.size≤1000000):∃ x,jP.f s=some (x,iH (L s))∧(iH (L s)=true→L x=inner (L s))∧x.size≤s.size:=by
 have hl:=eF s;have h0:(⟨#[]⟩:ByteArray).size≤s.size:=Nat.zero_le _;unfold jP.f
 by_cases c1:(s.size:Int) < 3
 ·have:iH (L s)=false:=by unfold iH;rw[decide_eq_false bA];rfl
  rw[if_pos c1,this];exact ⟨_,rfl,(fun h=>by cases h),h0⟩
 rw[if_neg c1,if_pos bA];have hb:=lX s 0 bA 95 95 rfl;have e1:((s.size:Int) - 1)=((s.size - 1:Nat):Int):=by omega
 by_cases c2:bt s 0=95
 ·rw[if_pos c2,w64 bA bA,if_pos bA,if_pos bA];have hb2:=lX s (s.size - 1) bA 95 95 rfl;rw[e1]
  by_cases c3:bt s ((s.size - 1:Nat):Int)=95
  ·have:iH (L s)=true:=by unfold iH;rw[decide_eq_true bA,hb.1 c2,hl,hb2.1 c3];rfl
   rw[if_pos c3,if_pos bA,if_pos bA,this];refine ⟨_,rfl,fun _=>?_,?_⟩
   ·unfold inner;rw[eR,hl,Int.toNat_natCast,show s.size - 1 - 1=s.size - 2 by omega]
   rw[← eF,eR,← eF]
   simp
   omega
  have:iH (L s)=false:=by
   unfold iH;rw[hl];have:((L s)[s.size - 1]? == some 95)=false:=by simpa using fun x=>c3 (hb2.2 x)
   rw[this]
   simp
  rw[if_neg c3,this];exact ⟨_,rfl,(fun h=>by cases h),h0⟩
 have:iH (L s)=false:=by
  unfold iH;have:((L s)[0]? == some 95)=false:=by simpa using fun x=>c2 (hb.2 x)
  rw[this]
  simp
 rw[if_neg c2,this];exact ⟨_,rfl,(fun h=>by cases h),h0⟩
theorem aGe (s t:ByteArray):∃ r,iM.f s t=some r∧(L s=L t→r=true):=by
 unfold iM.f
 by_cases c:(s.size:Int)≥(t.size:Int)
 ·rw[if_pos c,if_pos bA,if_pos bA];refine ⟨_,rfl,fun e=>?_⟩;have:s.size=t.size:=by rw[← eF,← eF,e]
  rw[L_toList,L_toList,eR,← e,beq_iff_eq,Int.toNat_natCast,List.drop_zero,Nat.sub_zero,← this,← eF,List.take_length]
 rw[if_neg c];refine ⟨_,rfl,fun e=>?_⟩;have:s.size=t.size:=by rw[← eF,← eF,e]
 omega
def oK (n:List UInt8) (C:List Nat) (i a:Nat):List (List UInt8):=if i≤C.length then sT n a (C.drop i) else []
theorem pU (C:List Nat) (i:Nat) (h:i < C.length):rd (ints C) (i:Int)=((C[i]'h:Nat):Int):=by
 unfold rd ints
 simp[h]
theorem tX (comp s:ByteArray) (hs:s.size≤1000000) (h47:∀ j:Nat,(L s)[j]?≠some 47):PEv (fun r=>r=true→nW (eQ comp) (L s)) (fun k=>eC.f k comp s):=by
 have hls:=eF s
 have hx:∀ a b,(s.extract a b).size≤1000000:=by
  intro a b;rw[← eF,eR]
  simp
  omega
 unfold eC.f;refine PEv.bind (PEv.and (aBx s hs) (vG s hs h47)) (fun r hr=>?_);obtain ⟨⟨hr,hrl⟩,rfl⟩:=hr
 obtain ⟨C,hC⟩:∃ C,eS (L s)=C:=⟨_,rfl⟩
 rw[hC] at hr hrl ⊢;have hCl:(ints C).length=C.length:=by simp[ints]
 rw[hCl] at hrl
 have hin:∀ (i:Nat) (h:i < C.length),C[i]'h < s.size:=by
  intro i h;have:=hr.1 ((C[i]'h:Nat):Int) (by unfold ints;exact List.mem_map.2 ⟨_,List.getElem_mem h,rfl⟩);omega
 have hup:∀ (i:Nat) (h:i+1 < C.length),C[i]' bA+1≤C[i+1]'h:=by
  intro i h;have h9:=aI8 hr (i:Int) bA (by rw[hCl];omega);rw[pU C i bA,show (i:Int)+1=((i+1:Nat):Int) by omega,pU C (i+1) h] at h9;omega
 refine PEv.ite (fun h0=>PEv.now (fun _=>?_)) (fun hne=>?_)
 ·have:C=[]:=by
   rw[hCl] at h0;exact List.eq_nil_of_length_eq_zero bA
  subst this;exact ⟨fun c hc=>by rw[hC] at hc;simp at hc,by rw[hC];simp,fun _ h=>absurd hC h⟩
 rw[hCl] at hne ⊢;have hpos:0 < C.length:=by omega
 rw[w64 (n:=(C.length:Int) - 1) bA bA];refine PEv.ite (fun _=>?_) (fun h=>by exfalso;omega);refine PEv.ite (fun _=>?_) (fun h=>by exfalso;omega)
 have elast:rd (ints C) ((C.length:Int) - 1)=((C[C.length - 1]' bA:Nat):Int):=by
  rw[show (C.length:Int) - 1=((C.length - 1:Nat):Int) by omega,pU]
 have hlin:=hin (C.length - 1) bA;rw[elast]
 obtain ⟨cl,hcl⟩:∃ cl,C[C.length - 1]' bA=cl:=⟨_,rfl⟩
 rw[hcl] at hlin ⊢;rw[w64 (n:=(cl:Int)+1) bA bA];refine PEv.ite (fun _=>?_) (fun h=>by exfalso;omega);refine PEv.ite (fun _=>?_) (fun h=>by exfalso;omega)
 -- the loop
 have hl0:∀ (n:Nat) (i fr:Nat) (x8:List ByteArray),C.length+1 - i≤n→i≤C.length+1→(∀ h:i < C.length,fr≤C[i]'h)→(i=C.length→fr≤s.size)→x8.length≤3 * i→PEv (fun r=>r=true→eQ comp=true→∀ w∈oK (L s) C i fr,okW w) (fun k=>eC.l0 k comp s (ints C) x8 (fr:Int) (i:Int)):=by
  intro n
  induction n with
  | zero =>
   intro i fr x8 h2 h3 h5 h6 h7;refine PEv.succ ?_;simp only[eC.l0];rw[hCl];refine PEv.ite (fun h=>by exfalso;omega) (fun _=>?_);refine PEv.succ ?_;simp only[eC.j2,Bool.false_eq_true,if_false];refine PEv.now (fun _ _ w hw=>?_);unfold oK at hw;rw[if_neg bA] at hw;cases hw
  | succ n ih =>
   intro i fr x8 h2 h3 h5 h6 h7
   have hj2:∀ x:Bool,x=eQ comp→i≤C.length→PEv (fun r=>r=true→eQ comp=true→∀ w∈oK (L s) C i fr,okW w) (fun k=>eC.j2 k comp s (ints C) x8 (fr:Int) (i:Int) x):=by
    intro x hxl hi;refine PEv.succ ?_;simp only[eC.j2];rw[hCl];refine PEv.ite (fun _=>?_) (fun hf=>PEv.now (fun _ hl=>by rw[← hxl] at hl;exact absurd hl hf))
    have hj3:∀ e:Nat,fr≤e→e≤s.size→(∀ h:i+1 < C.length,e+1≤C[i+1]'h)→(i+1=C.length→e+1≤s.size)→PEv (fun r=>r=true→eQ comp=true→okW (((L s).drop fr).take (e - fr))∧∀ w∈oK (L s) C (i+1) (e+1),okW w) (fun k=>eC.j3 k comp s (ints C) x8 (fr:Int) (i:Int) (e:Int)):=by
     intro e g1 g2 g3 g4;refine PEv.succ ?_;simp only[eC.j3];refine PEv.ite (fun _=>?_) (fun h=>by exfalso;omega);refine PEv.ite (fun _=>?_) (fun h=>by exfalso;omega);refine PEv.ite (fun _=>?_) (fun h=>by exfalso;omega);refine PEv.ite (fun _=>PEv.now (fun h=>by cases h)) (fun _=>?_);have hwd:L (s.extract (fr:Int).toNat (e:Int).toNat)=((L s).drop fr).take (e - fr):=by rw[eR,Int.toNat_natCast,Int.toNat_natCast]
     obtain ⟨wx,hw1,hw3,hw2⟩:=tN (s.extract (fr:Int).toNat (e:Int).toNat) (hx _ _);rw[hwd] at hw1 hw3
     obtain ⟨W,hW⟩:∃ W,((L s).drop fr).take (e - fr)=W:=⟨_,rfl⟩
     rw[hW] at hw1 hw3 ⊢;refine PEv.bindC hw1 ?_;refine PEv.bindC rfl ?_;have hwz:wx.size≤1000000:=Nat.le_trans hw2 (hx _ _);have hy2:iB ByteArray.empty [(⟨#[111,117,116,112,117,116,102,111,114,109,97,116,95]⟩:ByteArray),(⟨#[107,105,110,100,95]⟩:ByteArray),(⟨#[108,97,121,111,117,116,95]⟩:ByteArray)] 2=⟨#[108,97,121,111,117,116,95]⟩:=rfl
     obtain ⟨y,hy⟩:∃ y:List ByteArray,[(⟨#[111,117,116,112,117,116,102,111,114,109,97,116,95]⟩:ByteArray),(⟨#[107,105,110,100,95]⟩:ByteArray),(⟨#[108,97,121,111,117,116,95]⟩:ByteArray)]=y:=⟨_,rfl⟩
     have hy3:y.length=3:=by rw[← hy];rfl
     simp only[hy];rw[hy] at hy2;clear hy
     have hl1:∀ (m:Nat) (q:Nat) (z8:List ByteArray),3 - q≤m→q≤3→z8.length≤3 * i+q→PEv (fun r=>r=true→eQ comp=true→(q≤2→okW W)∧∀ w∈oK (L s) C (i+1) (e+1),okW w) (fun k=>eC.l1 k comp s (ints C) z8 (i:Int) (e:Int) wx (iH W) y (y.length:Int) (q:Int)):=by
      have fin:∀ (q:Nat) (z8:List ByteArray),3≤q→z8.length≤3 * i+3→PEv (fun r=>r=true→eQ comp=true→(q≤2→okW W)∧∀ w∈oK (L s) C (i+1) (e+1),okW w) (fun k=>eC.l0 k comp s (ints C) z8 (wrap64 ((e:Int)+1)) (wrap64 ((i:Int)+1))):=by
       intro q z8 hq hz;rw[w64 bA bA,w64 bA bA];exact PEv.mono (ih (i+1) (e+1) z8 bA bA (fun h=>g3 h) (fun h=>g4 h) bA) (fun r hr e1 e2=>⟨fun h=>by omega,hr e1 e2⟩)
      intro m
      induction m with
      | zero =>
       intro q z8 k2 k4 k3;refine PEv.succ ?_;simp only[eC.l1];exact PEv.ite (fun h=>by exfalso;omega) (fun _=>fin q z8 bA bA)
      | succ m ihm =>
       intro q z8 k2 k4 k3;refine PEv.succ ?_;simp only[eC.l1];refine PEv.ite (fun hq=>?_) (fun _=>fin q z8 bA bA);refine PEv.ite (fun _=>?_) (fun h=>by exfalso;omega);refine PEv.ite (fun _=>?_) (fun h=>by exfalso;omega)
       have step:∀ z:List ByteArray,z.length≤3 * i+(q+1)→(q=2→okW W)→PEv (fun r=>r=true→eQ comp=true→(q≤2→okW W)∧∀ w∈oK (L s) C (i+1) (e+1),okW w) (fun k=>eC.l1 k comp s (ints C) z (i:Int) (e:Int) wx (iH W) y (y.length:Int) ((q:Int)+1)):=by
        intro z hz hok;refine PEv.mono (ihm (q+1) z bA bA hz) (fun r hr e1 e2=>⟨fun h=>?_,(hr e1 e2).2⟩)
        by_cases c:q=2
        ·exact hok c
        exact (hr e1 e2).1 bA
       have hj5:∀ x:Bool,(q=2→x=false→okW W)→PEv (fun r=>r=true→eQ comp=true→(q≤2→okW W)∧∀ w∈oK (L s) C (i+1) (e+1),okW w) (fun k=>eC.j5 k comp s (ints C) z8 (i:Int) (e:Int) wx (iH W) (iB ByteArray.empty y (q:Int)) y (y.length:Int) (q:Int) x):=by
        intro x hxf;refine PEv.succ ?_;simp only[eC.j5];rw[w64 (n:=(q:Int)+1) bA bA];refine PEv.ite (fun _=>?_) (fun hf=>step z8 bA (fun h=>hxf h (by simpa using hf)));refine PEv.bind (aBw _ _ bA) (fun _ _=>?_);refine PEv.ite (fun _=>PEv.now (fun h=>by cases h)) (fun _=>?_);refine PEv.ite (fun _=>PEv.now (fun h=>by cases h)) (fun hsz=>?_);refine PEv.ite (fun _=>?_) (fun h=>by exfalso;omega);refine step _ (by simp;omega) (fun h2 hw hi=>hsz ?_);subst h2;rw[show ((2:Nat):Int)=2 from rfl,hy2];have:=congrArg List.length hi;rw[← hw3 hw,List.length_map,eF] at this;rw[this];rfl
       refine PEv.ite (fun _=>?_) (fun hf=>hj5 _ (fun _ _ h=>absurd h hf));refine PEv.bindC (show iL.f wx=some (Go.Proofs.YtlkoeeccebmjmaaGreatDoor.Lower.low wx) by unfold iL.f;rw[if_pos bA]) ?_;obtain ⟨b,hb,hbt⟩:=aGe (Go.Proofs.YtlkoeeccebmjmaaGreatDoor.Lower.low wx) (iB ByteArray.empty y (q:Int));refine PEv.bindC hb (hj5 _ (fun h2 hbf hw hi=>?_));subst h2;rw[hbt (by rw[show ((2:Nat):Int)=2 from rfl,hy2,rW,hw3 hw,hi];rfl)] at hbf;cases hbf
     exact PEv.mono (hl1 3 0 x8 bA bA bA) (fun r hr e1 e2=>⟨(hr e1 e2).1 bA,(hr e1 e2).2⟩)
    refine PEv.ite (fun hlt=>?_) (fun hge=>?_)
    ·have hlt' : i < C.length:=by omega
     refine PEv.ite (fun _=>?_) (fun h=>by exfalso;omega);rw[pU C i hlt'];refine PEv.mono (hj3 _ (h5 hlt') (Nat.le_of_lt (hin i hlt')) (fun h=>hup i h) (fun _=>hin i hlt')) (fun r hr e1 e2 w hw=>?_);unfold oK at hw;rw[if_pos hi,List.drop_eq_getElem_cons hlt',sT] at hw;rcases List.mem_cons.1 hw with rfl | hw
     ·exact (hr e1 e2).1
     refine (hr e1 e2).2 w ?_;unfold oK;rw[if_pos bA];exact hw
    have hi2:i=C.length:=by omega
    refine PEv.mono (hj3 _ (h6 hi2) (Nat.le_refl _) (fun h=>by exfalso;omega) (fun h=>by exfalso;omega)) (fun r hr e1 e2 w hw=>?_);unfold oK at hw;rw[if_pos hi,List.drop_of_length_le bA,sT,List.mem_singleton] at hw;subst hw;have:=(hr e1 e2).1;rwa[List.take_of_length_le (by rw[List.length_drop];omega)] at this
   refine PEv.succ ?_;simp only[eC.l0];rw[hCl];refine PEv.ite (fun h=>hj2 _ rfl bA) (fun _=>?_);refine PEv.succ ?_;simp only[eC.j2,Bool.false_eq_true,if_false];refine PEv.now (fun _ _ w hw=>?_);unfold oK at hw;rw[if_neg bA] at hw;cases hw
 have hj0:∀ x:Bool,(x=false→iH ((L s).drop (cl+1))=false∧C[0]'hpos≠0∧cl+1≠s.size)→PEv (fun r=>r=true→nW (eQ comp) (L s)) (fun k=>eC.j0 k comp s (ints C) x):=by
  intro x hxf;refine PEv.succ ?_;simp only[eC.j0];refine PEv.ite (fun _=>PEv.now (fun h=>by cases h)) (fun hf=>?_);obtain ⟨k1,k2,k3⟩:=hxf (by simpa using hf);refine PEv.mono (hl0 (C.length+1) 0 0 [] bA bA (fun _=>Nat.zero_le _) (fun _=>Nat.zero_le _) bL) (fun r hr e=>⟨fun c hc=>?_,?_,fun hl _ w hw=>?_⟩)
  ·rw[hC,List.getLast?_eq_getElem?,List.getElem?_eq_getElem bA] at hc;injection hc with hc
   rw[hcl] at hc;subst hc;exact ⟨k1,by rw[hls];exact k3⟩
  ·rw[hC,List.head?_eq_getElem?,List.getElem?_eq_getElem hpos];intro h;injection h with h
   exact k2 h
  refine hr e hl w ?_;unfold oK;rw[if_pos (Nat.zero_le _),List.drop_zero,← hC];exact hw
 obtain ⟨wx,hw1,_,_⟩:=tN (s.extract ((cl:Int)+1).toNat s.size) (hx _ _)
 have hwd:L (s.extract ((cl:Int)+1).toNat s.size)=(L s).drop (cl+1):=by
  rw[eR,show ((cl:Int)+1).toNat=cl+1 by omega];exact List.take_of_length_le (by rw[List.length_drop];omega)
 rw[hwd] at hw1;refine PEv.bindC hw1 ?_;refine PEv.ite (fun _=>hj0 _ (fun h=>by cases h)) (fun hwf=>?_);refine PEv.ite (fun _=>?_) (fun h=>by exfalso;omega);have e0:=pU C 0 hpos;rw[show ((0:Nat):Int)=0 from rfl] at e0;rw[e0];refine PEv.ite (fun _=>hj0 _ (fun h=>by cases h)) (fun h0=>hj0 _ (fun h=>⟨by simpa using hwf,aR,?_⟩))
 have h9:¬ ((cl:Int)+1=(s.size:Int)):=by
  intro e;rw[e] at h
  simp at h
 omega
theorem oS (s:ByteArray) (hs:s.size≤1000000) (hex:∃ j:Nat,(L s)[j]? = some 47):PEv (fun r=>L r=(L s).drop (behind (L s))∧r.size≤1000000∧∀ j:Nat,(L r)[j]?≠some 47) (fun k=>gR.f k s):=by
 have hl:=eF s;obtain ⟨j0,_,hb,hj0,hj1⟩:=Go.Proofs.YtlkoeeccebmjmaaGreatDoor.Path.last_slash s hex;have hjl:j0 < s.size:=by rw[← hl];exact (List.getElem?_eq_some_iff.1 hj0).1
 have h:∀ (n i:Nat),j0≤i→i < s.size→i - j0≤n→PEv (fun r=>r=(j0:Int)) (fun k=>eU.l0 k s (i:Int)):=by
  intro n
  induction n with
  | zero =>
   intro i h1 h2 h3;have:i=j0:=by omega
   subst this;refine PEv.succ ?_;simp only[eU.l0];refine PEv.ite (fun _=>?_) (fun h=>by exfalso;omega);refine PEv.ite (fun _=>?_) (fun h=>by exfalso;omega);refine PEv.ite (fun _=>?_) (fun h=>by exfalso;omega);exact PEv.ite (fun _=>PEv.now rfl) (fun h=>absurd ((lX s i h2 47 47 rfl).2 hj0) h)
  | succ n ih =>
   intro i h1 h2 h3;refine PEv.succ ?_;simp only[eU.l0];refine PEv.ite (fun _=>?_) (fun h=>by exfalso;omega);refine PEv.ite (fun _=>?_) (fun h=>by exfalso;omega);refine PEv.ite (fun _=>?_) (fun h=>by exfalso;omega);refine PEv.ite (fun h=>PEv.now ?_) (fun h=>?_)
   ·by_cases c:i=j0
    ·rw[c]
    exact absurd ((lX s i h2 47 47 rfl).1 h) (hj1 i bA)
   have:i≠j0:=by intro c;subst c;exact h ((lX s i h2 47 47 rfl).2 hj0)
   rw[w64 bA bA,show (i:Int) - 1=((i - 1:Nat):Int) by omega];exact ih (i - 1) bA bA bA
 have h0:PEv (fun r=>r=(j0:Int)) (fun k=>eU.f k s (s.size:Int)):=by
  unfold eU.f;rw[w64 bA bA,show (s.size:Int) - 1=((s.size - 1:Nat):Int) by omega];exact h s.size (s.size - 1) bA bA bA
 unfold gR.f;refine PEv.bind h0 (fun r hr=>?_);subst hr;rw[w64 bA bA];refine PEv.ite (fun _=>?_) (fun h=>by exfalso;omega);refine PEv.ite (fun _=>?_) (fun h=>by exfalso;omega);refine PEv.now ?_
 have e:L (s.extract ((j0:Int)+1).toNat s.size)=(L s).drop (behind (L s)):=by
  rw[eR,hb,show ((j0:Int)+1).toNat=j0+1 by omega];exact List.take_of_length_le (by rw[List.length_drop];omega)
 refine ⟨e,?_,fun j=>?_⟩
 ·rw[← eF,e,List.length_drop];omega
 rw[e,hb,List.getElem?_drop];exact hj1 _ bA
theorem uY (s:ByteArray) (own:Bool):∃ j:Nat,(L (pathOf s own))[j]? = some 47:=by
 refine ⟨0,?_⟩;unfold pathOf;rw[kJ,← List.head?_eq_getElem?];exact Go.Proofs.YtlkoeeccebmjmaaGreatDoor.Path.mText_head _
theorem aCo (a b:List ByteArray) (c:List S53) (d:List ByteArray) (x y:ByteArray) (ha:a.length≤1000000) (hb:b.length≤1000000) (hc:c.length≤1000000) (hd:d.length≤1000000) (za:∀ x∈a,x.size≤4000000000) (zb:∀ x∈b,x.size≤4000000000) (zc:∀ x∈c,x.f0.size≤4000000000∧x.f1.size≤4000000000) (zd:∀ x∈d,x.size≤4000000000) (hx:x.size≤900000) (hy:y.size≤900000) :
 PEv (fun r=>r=true→aEf a b c d x y) (fun k=>jQ.f k a b c d x y):=by
 unfold jQ.f;have no:PEv (fun r=>r=true→aEf a b c d x y) (fun _=>some false):=PEv.now (fun h=>by cases h);refine PEv.bind (aCp a b c d bA bA bA bA za zb zc zd) (fun r0 h0=>?_);refine PEv.ite (fun e0=>?_) (fun _=>no);refine PEv.bind (aHi y bA) (fun r4 h4=>?_);refine PEv.ite (fun _=>no) (fun e4=>?_);refine PEv.bind (P:=fun r=>r=ascii (L y)) ⟨_,aBo y bA,rfl⟩ (fun r1 h1=>?_);refine PEv.ite (fun e1=>?_) (fun _=>no);refine PEv.bind (P:=fun r=>r=ascii (L x)) ⟨_,aBo x bA,rfl⟩ (fun r2 h2=>?_);refine PEv.ite (fun e2=>?_) (fun _=>no);refine PEv.ite (fun e3=>?_) (fun _=>no);refine PEv.bindC (show kB.f y false=some (pathOf y false) by unfold kB.f;rw[if_pos bA]) ?_
 refine PEv.bind (oS _ (wJ y false hy) (uY y false)) (fun p1 hp1=>?_);refine PEv.bind (tX x p1 hp1.2.1 hp1.2.2) (fun r5 h5=>?_);refine PEv.ite (fun e5=>?_) (fun _=>no);refine PEv.bindC (show kB.f y true=some (pathOf y true) by unfold kB.f;rw[if_pos bA]) ?_;refine PEv.bind (oS _ (wJ y true hy) (uY y true)) (fun p2 hp2=>?_);refine PEv.bind (tX x p2 hp2.2.1 hp2.2.2) (fun r6 h6=>PEv.now (fun e6=>?_));exact ⟨h0 e0,h4 (by simpa using e4),h1▸e1,h2▸e2,aR,hp1.1▸h5 e5,hp2.1▸h6 e6⟩
end Go.Proofs.YtlkoeeccebmjmaaGreatDoor.Total
namespace Go.Proofs.YtlkoeeccebmjmaaGreatDoor.Path
open Go.RowKit Go.Proofs.YtlkoeeccebmjmaaGreatDoor.Base Go.Proofs.YtlkoeeccebmjmaaGreatDoor.Total Go.Proofs.YtlkoeeccebmjmaaGreatDoor.PCore
def mkF (x:ByteArray×ByteArray):S53:=⟨x.1,x.2⟩
def rI (st:fO) (comp s:ByteArray):Prop:=aEf st.langs st.dis (st.fmts.map mkF) st.cont comp s
open Go.RowKit Go.WideMaps Go.ZW.PrintWords Go.Proofs.YtlkoeeccebmjmaaGreatDoor.Base Go.Proofs.YtlkoeeccebmjmaaGreatDoor.Lower Go.Proofs.YtlkoeeccebmjmaaGreatDoor.Total Go.Proofs.YtlkoeeccebmjmaaGreatDoor.PCore
theorem fN.kd {w:World} {v:Value} {l:List ByteArray} (H:fN w 0 v l) (hl:l.length≤9223372036854775807):∃ A c,v = .slice A l.length c∧l.length≤c∧Kd.C Kd.string w A l.length l:=by
 obtain ⟨A,c,e,hc,h⟩:=H;refine ⟨A,c,e,hc,rfl,hl,fun hn=>?_⟩;obtain ⟨g,o,ea,_,hh⟩:=h hn;refine ⟨⟨g,o,none⟩,ea,fun j p hp=>⟨[.string p],rfl,rfl,fun i u hu=>?_⟩⟩
 have hj:=(List.getElem?_eq_some_iff.1 hp)
 obtain ⟨hj1,hj2⟩:=hj
 have hi:i=0:=by
  cases i with
  | zero=>rfl
  | succ i=>simp at hu
 subst hi;simp only[List.getElem?_cons_zero,Option.some.injEq] at hu;subst hu;have ad:(⟨g,o,none⟩:Addr).add (j * 1+0)=⟨g,o+j,none⟩:=by unfold Addr.add;split <;> simp_all
 show w.cell? ((⟨g,o,none⟩:Addr).add (j * 1+0))=_;rw[ad,hh j hj1,hj2]
theorem mT.kd {w:World} {v:Value} {l:List (ByteArray×ByteArray)} (H:mT w 0 v l) (hl:l.length≤9223372036854775807):∃ A c,v = .slice A (l.map mkF).length c∧(l.map mkF).length≤c∧Kd.C k53 w A (l.map mkF).length (l.map mkF):=by
 obtain ⟨A,c,e,hc,h⟩:=H;refine ⟨A,c,by rw[List.length_map];exact e,by rw[List.length_map];exact hc,rfl,by rw[List.length_map];exact hl,fun hn=>?_⟩;rw[List.length_map] at hn;obtain ⟨g,o,ea,_,hh⟩:=h hn;refine ⟨⟨g,o,none⟩,ea,fun j p hp=>⟨[.string p.f0,.string p.f1],rfl,aIq _ _,fun i u hu=>?_⟩⟩;rw[List.getElem?_map,Option.map_eq_some_iff] at hp;obtain ⟨x,hx,rfl⟩:=hp;obtain ⟨hj1,hj2⟩:=List.getElem?_eq_some_iff.1 hx;obtain ⟨c1,c2⟩:=hh j hj1;rw[hj2] at c1 c2;have ad:∀ i,(⟨g,o,none⟩:Addr).add (j * 2+i)=⟨g,o+(j * 2+i),none⟩:=by intro i;unfold Addr.add;split <;> simp_all
 show w.cell? ((⟨g,o,none⟩:Addr).add (j * 2+i))=_;rw[ad]
 match i,hu with
 | 0,hu=>simp only[List.getElem?_cons_zero,Option.some.injEq] at hu;subst hu;exact c1
 | 1,hu=>simp only[List.getElem?_cons_succ,List.getElem?_cons_zero,Option.some.injEq] at hu;subst hu;exact c2
 | (i+2),hu=>simp at hu
open Go.RowKit Go.ZW.PrintWords Go.Proofs.YtlkoeeccebmjmaaGreatDoor.Base
theorem aB7 {E:Env} {lay:Bool} {p q:eI} {pre v:ByteArray} {x:Int×Int} (h:iX E lay p pre x v=some q):Same p q:=by
 unfold iX at h
 repeat' split at h
 all_goals first | (cases h;exact ⟨rfl,rfl,rfl,rfl,rfl,rfl,rfl,rfl,rfl⟩) | cases h
theorem wH (E:Env) (p:eI) (comp:ByteArray) (lo ld:Nat) (nd:Int) (last:Bool):Same p (iY E p comp lo ld nd last).1:=by
 unfold iY;simp only;split
 ·unfold mX;simp only;split
  ·exact ⟨rfl,rfl,rfl,rfl,rfl,rfl,rfl,rfl,rfl⟩
  split
  ·rename_i q hq
   exact aB7 hq
  exact ⟨rfl,rfl,rfl,rfl,rfl,rfl,rfl,rfl,rfl⟩
 split
 ·exact ⟨rfl,rfl,rfl,rfl,rfl,rfl,rfl,rfl,rfl⟩
 unfold jE
 repeat' split
 all_goals exact ⟨rfl,rfl,rfl,rfl,rfl,rfl,rfl,rfl,rfl⟩
theorem qH (E:Env) (p:eI) (comp:ByteArray) (i ld:Nat) (nd:Int) (last:Bool):Same p (mId E p comp i ld nd last):=by
 unfold mId;split
 ·exact Same.refl p
 obtain ⟨e,he,_⟩:=qA (iY E p comp (i+1) ld nd last) i ld last;rw[he];have h:=wH E p comp (i+1) ld nd last;exact ⟨h.s,h.cLow,h.cHigh,h.sec,h.comp,h.typ,h.nLow,h.nHigh,h.trim⟩
structure lN (T:ByteArray) (t:Int) (p:eI):Prop where
 s:p.s=T
 typ:p.typ=t
 hi:p.cHigh = -1∨∃ j:Nat,p.cHigh=(j:Int)+1∧T.data.toList[j]? = some 47
 lo:p.cLow = -1∨∃ j:Nat,p.cLow=(j:Int)+1∧T.data.toList[j]? = some 47
theorem lN.same {s:ByteArray} {t:Int} {p q:eI} (h:lN s t p) (g:Same p q):lN s t q :=
 ⟨g.s.trans h.s,g.typ.trans h.typ,by rw[g.cHigh];exact h.hi,by rw[g.cLow];exact h.lo⟩
theorem lN.step {E:Env} {s comp:ByteArray} {t:Int} {sk:List Nat} {nd:Int} {i:Nat} {d:DoV} (h:lN s t d.p):lN s t (iN E comp sk nd i d).p:=by
 unfold iN;rw[h.s];split
 ·split
  ·exact h
  exact h.same (qH _ _ _ _ _ _ _)
 split
 ·rename_i hc
  have key:∀ q:eI,lN s t q→lN s t { q with cHigh:=(i:Int)+1 }:=fun q hq=>⟨hq.s,hq.typ,.inr ⟨i,rfl,hc⟩,hq.lo⟩
  have key2:∀ q:eI,lN s t q→lN s t { q with cLow:=(i:Int)+1 }:=fun q hq=>⟨hq.s,hq.typ,hq.hi,.inr ⟨i,rfl,hc⟩⟩
  have key3:∀ q:eI,lN s t q→lN s t { q with sec:=(i:Int) }:=fun q hq=>⟨hq.s,hq.typ,hq.hi,hq.lo⟩
  have hq:lN s t (if 0 < d.ld then mId E d.p comp i d.ld nd true else d.p):=by
   split
   ·exact h.same (qH _ _ _ _ _ _ _)
   exact h
  have h1:lN s t (if d.p.cHigh = -1 then { (if 0 < d.ld then mId E d.p comp i d.ld nd true else d.p) with cHigh:=(i:Int)+1 } else if d.p.cLow = -1 then { d.p with cLow:=(i:Int)+1 } else d.p):=by
   split
   ·exact key _ hq
   split
   ·exact key2 _ h
   exact h
  simp only;split
  ·exact key3 _ h1
  exact h1
 exact h
theorem lN.loop {E:Env} {s comp:ByteArray} {t:Int} {sk:List Nat} {nd:Int}:∀ (i:Nat) (d:DoV),lN s t d.p→lN s t (iW E comp sk nd i d).p
 | 0,_,h=>h
 | i+1,d,h=>by unfold iW;exact lN.loop i _ h.step
theorem aDf (E:Env) (comp s:ByteArray):∃ (T:ByteArray) (d:DoV),T=⟨(iC s.data.toList).toArray⟩∧L T=iC (L s)∧jF E comp s=tG E comp d∧In2 T comp 0 d∧lN T (if fA T.data.toList fV then 7 else 0) d.p∧d=zI E comp (jN { gB with comp:=comp } T):=by
 obtain ⟨T,hT⟩:∃ T:ByteArray,⟨(iC s.data.toList).toArray⟩=T:=⟨_,rfl⟩
 have hl:L T=iC (L s):=by rw[← hT];exact kJ _
 have h0:T.data.toList[0]? = some 47:=by show (L T)[0]? = _;rw[hl,← List.head?_eq_getElem?];exact mText_head _
 have hI:In1 T comp T.size ⟨jN { gB with comp:=comp } T,0,0⟩:=In1.start rfl rfl rfl rfl rfl rfl rfl rfl rfl rfl rfl rfl rfl;have h2:=(InD.loop (E:=E) (sk:=lO T.data.toList) (nd:=qT T.data.toList) h0 T.size _ (Nat.le_refl _) (.inl hI)).last h0
 have hk:lN T (if fA T.data.toList fV then 7 else 0) (jN { gB with comp:=comp } T):=⟨rfl,rfl,.inl rfl,.inl rfl⟩
 refine ⟨T,_,hT.symm,hl,?_,h2,lN.loop (E:=E) (comp:=comp) (sk:=lO T.data.toList) (nd:=qT T.data.toList) T.size ⟨jN { gB with comp:=comp } T,0,0⟩ hk,rfl⟩;unfold jF mDo;rw[hT];rfl
theorem aI0 (s:ByteArray) (a:Nat):L (frm s (a:Int))=(L s).drop a:=by
 show L (s.extract (a:Int).toNat s.size)=_;rw[eR,Int.toNat_natCast];exact List.take_of_length_le (by rw[List.length_drop,eF];omega)
open Go.RowKit Go.ZW.PrintWords Go.Proofs.YtlkoeeccebmjmaaGreatDoor.Base Go.Proofs.YtlkoeeccebmjmaaGreatDoor.Total
theorem zV:∀ (a b:List Nat) (x:Nat),(∀ d∈a,d < x)→kK (a++b) x=kK b x
 | [],_,_,_=>rfl
 | d::a,b,x,h=>by
  have h1:=h d bL;show (if d=x then true else if x < d then false else kK (a++b) x)=_;rw[if_neg bA,if_neg bA];exact zV a b x (fun y hy=>h y (by simp[hy]))
theorem xY:∀ (a:List Nat) (x:Nat),(∀ d∈a,x < d)→kK a x=false
 | [],_,_=>rfl
 | d::a,x,h=>by
  have h1:=h d bL;show (if d=x then true else if x < d then false else kK a x)=_;rw[if_neg bA,if_pos h1]
theorem aB1:∀ (a b:List Nat) (x:Nat),a.Pairwise (· < ·)→x∈a→kK (a++b) x=true
 | [],_,_,_,h=>by cases h
 | d::a,b,x,hp,h=>by
  rw[List.pairwise_cons] at hp;show (if d=x then true else if x < d then false else kK (a++b) x)=true
  by_cases c:d=x
  ·rw[if_pos c]
  rcases List.mem_cons.1 h with h | h
  ·exact absurd h.symm c
  have:=hp.1 x h;rw[if_neg c,if_neg bA];exact aB1 a b x hp.2 h
theorem uK {l:List UInt8} {a n x:Nat}:x∈kA l a n↔(a≤x∧x < a+n)∧l[x]? = some 46:=by
 unfold kA;rw[List.mem_filter,List.mem_range'_1,beq_iff_eq]
theorem aGt (l:List UInt8) (a n:Nat):(kA l a n).Pairwise (· < ·):=by
 unfold kA;exact List.Pairwise.filter _ List.pairwise_lt_range'
theorem aAj (pre n:List UInt8):∀ (g k:Nat),lA (pre++n) g (pre.length+k)=(lA n g k).map (pre.length + ·)
 | 0,_=>rfl
 | g+1,k=>by
  have e1:(pre++n)[pre.length+k]? = n[k]?:=by rw[List.getElem?_append_right bA,Nat.add_sub_cancel_left]
  have e2:(pre++n)[pre.length+k+1]? = n[k+1]?:=by rw[Nat.add_assoc,List.getElem?_append_right bA,Nat.add_sub_cancel_left]
  rw[lA,lA,e1,e2,List.length_append]
  by_cases c1:n[k]? = some 47
  ·rw[if_pos c1,if_pos c1];rfl
  rw[if_neg c1,if_neg c1]
  by_cases c2:n[k]? = some 95∧(n.length≤k+1∨n[k+1]? = some 46)
  ·rw[if_pos c2,if_pos ⟨c2.1,by rcases c2.2 with h | h <;> first | exact .inr h | (left;omega)⟩];rfl
  rw[if_neg c2,if_neg (fun h=>c2 ⟨h.1,by rcases h.2 with h | h <;> first | exact .inr h | (left;omega)⟩)];exact aAj pre n g (k+1)
theorem aHo (pre n:List UInt8) (k:Nat):pW (pre++n) (pre.length+k)=(pW n k).map (pre.length + ·):=by
 unfold pW;rw[List.length_append,Nat.add_sub_add_left];exact aAj pre n _ k
theorem vD (l:List UInt8):∀ (g i x:Nat),x∈skF l g i→i≤x
 | 0,_,_,h=>by cases h
 | g+1,i,x,h=>by
  rw[skF] at h;split at h
  ·cases h
  split at h
  ·split at h
   ·rename_i e he
    have hl:=pX l _ _ _ he;rcases List.mem_append.1 h with h | h
    ·have:=(uK.1 h).1;omega
    have:=vD l g (e+1) x h;omega
   have:=vD l g (i+1) x h;omega
  have:=vD l g (i+1) x h;omega
theorem nH (c:UInt8) (r:List UInt8):iG (c::r)=(if c=46 then 1 else 0)+iG r:=by
 unfold iG;rw[List.filter_cons]
 by_cases h:c=46
 ·rw[if_pos h,h];simp;omega
 rw[if_neg h];simp[h]
theorem tS (a b:List UInt8):iG (a++b)=iG a+iG b:=by
 unfold iG;rw[List.filter_append,List.length_append]
theorem wB (pre n:List UInt8) (a:Nat):∀ m,a+m≤n.length→(kA (pre++n) (pre.length+a) m).length=iG ((n.drop a).take m)
 | 0,_=>by simp[kA,iG]
 | m+1,h=>by
  have ih:=wB pre n a m bA;have hi:m < (n.drop a).length:=by rw[List.length_drop];omega
  unfold kA at ih ⊢;rw[List.range'_concat,List.filter_append,List.length_append,ih,List.take_succ_eq_append_getElem hi,tS];congr 1
  have e1:(pre++n)[pre.length+a+1 * m]? = some (n.drop a)[m]:=by
   rw[Nat.one_mul,Nat.add_assoc,List.getElem?_append_right bA,Nat.add_sub_cancel_left,← List.getElem?_drop,List.getElem?_eq_getElem hi]
  rw[List.filter_cons,List.filter_nil,e1,nH]
  by_cases c:(n.drop a)[m]=46
  ·rw[if_pos c,c];rfl
  have hq:((some (n.drop a)[m]:Option UInt8)==some 46)=false:=by simpa using c
  rw[if_neg c,if_neg (by rw[hq];decide)];rfl
section
variable {pre n:List UInt8}
theorem aFt:∀ (d i g1 g2:Nat),n.length - i≤d→n.length - i≤g1→n.length - i≤g2 →
 kG n g1 i=(List.range' i (n.length - i)).filter (fun k=>n[k]? == some 46 && !kK (skF (pre++n) g2 (pre.length+i)) (pre.length+k)) ∧
 iG (n.drop i)=(kG n g1 i).length+(skF (pre++n) g2 (pre.length+i)).length:=by
 have out:∀ (i g1 g2:Nat),n.length≤i→kG n g1 i=[]∧skF (pre++n) g2 (pre.length+i)=[]:=by
  intro i g1 g2 h;constructor
  ·cases g1 with
   | zero=>rfl
   | succ g=>rw[kG,if_pos h]
  cases g2 with
  | zero=>rfl
  | succ g=>rw[skF,if_pos (by rw[List.length_append];omega)]
 intro d
 induction d with
 | zero =>
  intro i g1 g2 h1 _ _;obtain ⟨e1,e2⟩:=out i g1 g2 bA;rw[e1,e2,show n.length - i=0 by omega,List.drop_of_length_le bA];exact ⟨rfl,rfl⟩
 | succ d ih =>
  intro i g1 g2 h1 h2 h3
  by_cases hi:n.length≤i
  ·obtain ⟨e1,e2⟩:=out i g1 g2 hi;rw[e1,e2,show n.length - i=0 by omega,List.drop_of_length_le bA];exact ⟨rfl,rfl⟩
  obtain ⟨g1,rfl⟩:∃ g,g1=g+1:=⟨g1 - 1,aR⟩
  obtain ⟨g2,rfl⟩:∃ g,g2=g+1:=⟨g2 - 1,aR⟩
  have hi' : i < n.length:=by omega
  have ei:(pre++n)[pre.length+i]? = n[i]?:=by rw[List.getElem?_append_right bA,Nat.add_sub_cancel_left]
  have ei1:(pre++n)[pre.length+i+1]? = n[i+1]?:=by rw[Nat.add_assoc,List.getElem?_append_right bA,Nat.add_sub_cancel_left]
  have hgi:n[i]? = some n[i]:=List.getElem?_eq_getElem hi'
  have hr:List.range' i (n.length - i)=i::List.range' (i+1) (n.length - (i+1)):=by
   rw[show n.length - i=(n.length - (i+1))+1 by omega,List.range'_succ]
  have hd:n.drop i=n[i]::n.drop (i+1):=List.drop_eq_getElem_cons hi'
  -- no wrapper begins here
  have plain:skF (pre++n) (g2+1) (pre.length+i)=skF (pre++n) g2 (pre.length+(i+1))→(n[i]? = some 46→nF n i=i+1) →
   kG n (g1+1) i=(List.range' i (n.length - i)).filter (fun k=>n[k]? == some 46 && !kK (skF (pre++n) (g2+1) (pre.length+i)) (pre.length+k)) ∧
   iG (n.drop i)=(kG n (g1+1) i).length+(skF (pre++n) (g2+1) (pre.length+i)).length:=by
   intro hs hn;obtain ⟨e1,e2⟩:=ih (i+1) g1 g2 bA bA bA;rw[hs,hr,hd,List.filter_cons,nH,kG,if_neg hi];have hsk:kK (skF (pre++n) g2 (pre.length+(i+1))) (pre.length+i)=false:=xY _ _ (fun x hx=>by have:=vD _ _ _ _ hx;omega);rw[hsk,hgi]
   by_cases c:n[i]=46
   ·rw[if_pos (by rw[c]),if_pos (by rw[c];rfl),hn (by rw[hgi,c]),if_pos c,List.length_cons,e2];exact ⟨by rw[e1],aR⟩
   rw[if_neg (by simpa using c),if_neg (by simpa using c),if_neg c,e2];exact ⟨e1,aR⟩
  by_cases ho:opens (pre++n) (pre.length+i)=true
  ·have ho':=ho;unfold opens at ho';simp only[Bool.and_eq_true,beq_iff_eq,decide_eq_true_eq,List.length_append] at ho';obtain ⟨o1,o2,o3⟩:=ho';rw[ei] at o2;rw[ei1] at o3;have hw:=aHo pre n (i+2);rw[← Nat.add_assoc] at hw
   cases he:pW n (i+2) with
   | none =>
    rw[he] at hw;refine plain ?_ (fun _=>?_)
    ·rw[skF,if_neg (by rw[List.length_append];omega),if_pos ho,hw];rfl
    unfold nF;rw[if_pos o3,he]
   | some e =>
    obtain ⟨hle,hlt⟩:=pX n _ _ _ he;rw[he] at hw
    have hs:skF (pre++n) (g2+1) (pre.length+i)=kA (pre++n) (pre.length+(i+2)) (e - (i+2))++skF (pre++n) g2 (pre.length+(e+1)):=by
     rw[skF,if_neg (by rw[List.length_append];omega),if_pos ho,hw];show kA (pre++n) (pre.length+i+2) (pre.length+e - (pre.length+i+2))++skF (pre++n) g2 (pre.length+e+1)=_;rw[show pre.length+e - (pre.length+i+2)=e - (i+2) by omega];rfl
    have hn:nF n i=e+1:=by unfold nF;rw[if_pos o3,he]
    obtain ⟨e1,e2⟩:=ih (e+1) g1 g2 bA bA bA;have hge:∀ x∈skF (pre++n) g2 (pre.length+(e+1)),pre.length+(e+1)≤x:=fun x hx=>vD _ _ _ _ hx
    have hdl:∀ x∈kA (pre++n) (pre.length+(i+2)) (e - (i+2)),pre.length+(i+2)≤x∧x < pre.length+e:=by
     intro x hx;have:=(uK.1 hx).1;omega
    rw[hs,kG,if_neg hi,if_pos o2,hn];constructor
    ·
     have hsp:List.range' i (n.length - i)=i::(List.range' (i+1) (e - i)++List.range' (e+1) (n.length - (e+1))):=by
      rw[hr,show n.length - (i+1)=(e - i)+(n.length - (e+1)) by omega,← List.range'_append_1,show i+1+(e - i)=e+1 by omega]
     rw[hsp,List.filter_cons,List.filter_append]
     have hsk:kK (kA (pre++n) (pre.length+(i+2)) (e - (i+2))++skF (pre++n) g2 (pre.length+(e+1))) (pre.length+i)=false:=by
      refine xY _ _ (fun x hx=>?_);rcases List.mem_append.1 hx with hx | hx
      ·have:=hdl x hx;omega
      have:=hge x hx;omega
     rw[hsk,o2,if_pos (show ((some (46:UInt8)==some 46 && !false)=true) from rfl)]
     have hmid:(List.range' (i+1) (e - i)).filter (fun k=>n[k]? == some 46 && !kK (kA (pre++n) (pre.length+(i+2)) (e - (i+2))++skF (pre++n) g2 (pre.length+(e+1))) (pre.length+k))=[]:=by
      rw[List.filter_eq_nil_iff];intro k hk hc;rw[List.mem_range'_1] at hk;simp only[Bool.and_eq_true,beq_iff_eq,Bool.not_eq_true'] at hc;obtain ⟨c1,c2⟩:=hc;have hk1:k≠i+1:=by intro h;subst h;rw[o3] at c1;cases c1
      have hke:k≠e:=by
       intro h;subst h
       have h95:n[k]? = some 95:=by
        have:∀ (g q:Nat),lA n g q=some k→n[k]? = some 95:=by
         intro g
         induction g with
         | zero=>intro q h;cases h
         | succ g ihg =>
          intro q h;rw[lA] at h;split at h
          ·cases h
          split at h
          ·rename_i hh
           injection h with h
           subst h;exact hh.1
          exact ihg _ h
        exact this _ _ he
       rw[h95] at c1;cases c1
      have hm:pre.length+k∈kA (pre++n) (pre.length+(i+2)) (e - (i+2)):=by
       rw[uK];refine ⟨aR,?_⟩;rw[List.getElem?_append_right bA,Nat.add_sub_cancel_left];exact c1
      rw[aB1 _ _ _ (aGt _ _ _) hm] at c2;cases c2
     rw[hmid,List.nil_append,e1];congr 1;refine List.filter_congr (fun k hk=>?_);rw[List.mem_range'_1] at hk;rw[zV _ _ _ (fun x hx=>by have:=hdl x hx;omega)]
    rw[List.length_cons,List.length_append,wB pre n (i+2) (e - (i+2)) bA]
    have hsplit:n.drop i=n[i]::n[i+1]' bA::((n.drop (i+2)).take (e - (i+2))++n[e]::n.drop (e+1)):=by
     rw[hd,List.drop_eq_getElem_cons (by omega:i+1 < n.length)];congr 2;have:=(List.take_append_drop (e - (i+2)) (n.drop (i+2))).symm;rw[List.drop_drop,show i+2+(e - (i+2))=e by omega,List.drop_eq_getElem_cons hlt] at this;exact this
    have c0:n[i]=46:=by rw[hgi] at o2;injection o2
    have c1:n[i+1]' bA=95:=by rw[List.getElem?_eq_getElem bA] at o3;injection o3
    have ce:n[e]=95:=by
     have:∀ (g q:Nat),lA n g q=some e→n[e]? = some 95:=by
      intro g
      induction g with
      | zero=>intro q h;cases h
      | succ g ihg =>
       intro q h;rw[lA] at h;split at h
       ·cases h
       split at h
       ·rename_i hh
        injection h with h
        subst h;exact hh.1
       exact ihg _ h
     have h9:=this _ _ he;rw[List.getElem?_eq_getElem hlt] at h9;injection h9
    rw[hsplit,nH,nH,tS,nH,c0,c1,ce,e2];simp only[if_true,show ¬ ((95:UInt8)=46) by decide,if_false];omega
  refine plain ?_ (fun h46=>?_)
  ·rw[skF,if_neg (by rw[List.length_append];omega),if_neg ho];rfl
  unfold nF
  by_cases c:n[i+1]? = some 95
  ·rw[if_pos c]
   have:¬ (i+2 < n.length):=by
    intro hlt;refine ho ?_;unfold opens;rw[ei,ei1,h46,c,List.length_append,decide_eq_true bA];rfl
   have hw:pW n (i+2)=none:=by
    unfold pW;rw[show n.length - (i+2)=0 by omega];rfl
   rw[hw]
  rw[if_neg c]
end
def mA (E:Env) (comp:ByteArray) (nd:Int) (d:DoV) (c:Nat):DoV:={ d with p:=mId E d.p comp c d.ld nd false,ld:=c }
structure mV (l pre n:List UInt8):Prop where
 eq:l=pre++n
 slash:∃ q,pre=q++[47]
 no:∀ j:Nat,n[j]?≠some 47
theorem mV.behind {l pre n:List UInt8} (S:mV l pre n):behind l=pre.length∧n=l.drop pre.length:=by
 obtain ⟨q,hq⟩:=S.slash;have hl:L (⟨l.toArray⟩:ByteArray)=l:=kJ l;have e1:l[q.length]? = some 47:=by rw[S.eq,hq,List.append_assoc,List.getElem?_append_right (Nat.le_refl _),Nat.sub_self];rfl
 obtain ⟨j,_,hb,hj,hk⟩:=last_slash ⟨l.toArray⟩ ⟨q.length,by rw[hl];exact e1⟩;rw[hl] at hb hj hk
 have:j=q.length:=by
  rcases Nat.lt_trichotomy j q.length with h | h | h
  ·exact absurd e1 (hk _ h)
  ·exact h
  exfalso;have hp:pre.length≤j:=by rw[hq];simp;omega
  rw[S.eq,List.getElem?_append_right hp] at hj;exact S.no _ hj
 refine ⟨by rw[hb,this,hq];simp,by rw[S.eq,List.drop_left]⟩
theorem aCn (l:List UInt8) (h:∃ j:Nat,l[j]? = some 47):mV l (l.take (behind l)) (l.drop (behind l)):=by
 have hl:L (⟨l.toArray⟩:ByteArray)=l:=kJ l;obtain ⟨j,_,hb,hj,hk⟩:=last_slash ⟨l.toArray⟩ (by rw[hl];exact h);rw[hl] at hb hj hk;rw[hb];refine ⟨(List.take_append_drop _ _).symm,⟨l.take j,?_⟩,fun k=>?_⟩
 ·obtain ⟨h1,h2⟩:=List.getElem?_eq_some_iff.1 hj;rw[List.take_succ_eq_append_getElem h1,h2]
 rw[List.getElem?_drop];exact hk _ bA
theorem tF {l pre n:List UInt8} (S:mV l pre n):qT l=((eS n).length:Int)∧eS n=(List.range n.length).filter (fun k=>n[k]? == some 46 && !kK (lO l) (pre.length+k)):=by
 obtain ⟨hb,hn⟩:=S.behind;obtain ⟨q,hq⟩:=S.slash;have hpl:pre.length=q.length+1:=by rw[hq];simp
 have hll:l.length=pre.length+n.length:=by rw[S.eq,List.length_append]
 have hsk:lO l=skF (pre++n) (l.length - 1) (pre.length+0):=by
  unfold lO;rw[hb,show l.length=(l.length - 1)+1 by omega,skF,if_neg bA,← S.eq,if_neg,show pre.length - 1+1=pre.length+0 by omega]
  ·rfl
  intro ho;unfold opens at ho;simp only[Bool.and_eq_true,beq_iff_eq] at ho;have h1:=ho.2.1;rw[S.eq,hq,List.append_assoc,show (q++[(47:UInt8)]).length - 1=q.length by simp,List.getElem?_append_right (Nat.le_refl _),Nat.sub_self] at h1;cases h1
 obtain ⟨e1,e2⟩:=aFt (pre:=pre) (n:=n) n.length 0 n.length (l.length - 1) bA bA bA;rw[← hsk] at e1 e2;rw[List.drop_zero] at e2;refine ⟨?_,?_⟩
 ·unfold qT;rw[hb,← hn,e2];show (((eS n).length+(lO l).length:Nat):Int) - _=_;omega
 rw[List.range_eq_range'];exact e1
section
variable {E:Env} {comp:ByteArray}
theorem qS {l pre n:List UInt8} (S:mV l pre n) (sk:List Nat) (nd:Int):∀ (i:Nat) (d:DoV),i≤n.length→d.p.s.data.toList=l →
 iW E comp sk nd (pre.length+i) d=iW E comp sk nd pre.length ((((List.range i).filter (fun k=>n[k]? == some 46 && !kK sk (pre.length+k))).reverse.map (pre.length + ·)).foldl (mA E comp nd) d)
 | 0,_,_,_=>rfl
 | i+1,d,h,hs=>by
  have hi:i < n.length:=by omega
  have e1:l[pre.length+i]? = n[i]?:=by rw[S.eq,List.getElem?_append_right bA,Nat.add_sub_cancel_left]
  rw[List.range_succ,List.filter_append,List.reverse_append,List.map_append,List.foldl_append];show iW E comp sk nd (pre.length+i) (iN E comp sk nd (pre.length+i) d)=_;have hno:n[i]?≠some 47:=S.no i
  by_cases c:n[i]? = some 46
  ·cases hk:kK sk (pre.length+i) with
   | true =>
    rw[wA (by rw[hs,e1,c]) hk];have:[i].filter (fun k=>n[k]? == some 46 && !kK sk (pre.length+k))=[]:=by simp[hk]
    rw[this];exact qS S sk nd i d bA hs
   | false =>
    rw[tA (by rw[hs,e1,c]) hk];have:[i].filter (fun k=>n[k]? == some 46 && !kK sk (pre.length+k))=[i]:=by simp[hk,c]
    rw[this];refine qS S sk nd i _ bA ?_;show (mId E d.p comp (pre.length+i) d.ld nd false).s.data.toList=l;rw[(qH E d.p comp (pre.length+i) d.ld nd false).s];exact hs
  have:[i].filter (fun k=>n[k]? == some 46 && !kK sk (pre.length+k))=[]:=by simp[c]
  rw[this]
  have:iN E comp sk nd (pre.length+i) d=d:=by
   unfold iN;rw[hs,e1,if_neg c,if_neg hno]
  rw[this];exact qS S sk nd i d bA hs
theorem aE0 {p:eI} {pre n:List UInt8} (S:mV p.s.data.toList pre n):zI E comp p =
 iW E comp (lO p.s.data.toList) ((eS n).length:Int) pre.length (((eS n).reverse.map (pre.length + ·)).foldl (mA E comp ((eS n).length:Int)) ⟨p,0,0⟩):=by
 obtain ⟨e1,e2⟩:=tF S
 have hz:p.s.size=pre.length+n.length:=by
  have:p.s.data.toList.length=p.s.size:=eF p.s;rw[← this,S.eq,List.length_append]
 unfold zI;rw[e1,hz,qS S _ _ n.length ⟨p,0,0⟩ (Nat.le_refl _) rfl,← e2]
end
def nR (E:Env) (comp:ByteArray) (p:eI) (B:Nat) (n:List UInt8):DoV:=((eS n).reverse.map (B + ·)).foldl (mA E comp ((eS n).length:Int)) ⟨p,0,0⟩
def lW (E:Env) (comp:ByteArray) (p:eI) (q:Nat) (n:List UInt8):eI :=
 if 0 < (nR E comp p (q+1) n).ld then mId E (nR E comp p (q+1) n).p comp q (nR E comp p (q+1) n).ld ((eS n).length:Int) true else (nR E comp p (q+1) n).p
theorem sJ {E:Env} {comp:ByteArray} {nd:Int}:∀ (cs:List Nat) (d:DoV),Same d.p (cs.foldl (mA E comp nd) d).p
 | [],d=>Same.refl _
 | c::cs,d=>(qH E d.p comp c d.ld nd false).trans (sJ cs (mA E comp nd d c))
structure oU (x:Int×Int) (p:eI):Prop where
 at_:p.known[0]? = some x
 lay:p.lay = -1∨1≤p.lay
theorem oU.push {x y:Int×Int} {p:eI} (h:oU x p):(p.known++[y])[0]? = some x:=by
 have:=(List.getElem?_eq_some_iff.1 h.at_).1;rw[List.getElem?_append_left this];exact h.at_
theorem oU.len {x:Int×Int} {p:eI} (h:oU x p):1≤p.known.length:=(List.getElem?_eq_some_iff.1 h.at_).1
theorem aDd {E:Env} {lay:Bool} {p q:eI} {pre v:ByteArray} {x y:Int×Int} (A:oU x p) (h:iX E lay p pre y v=some q):oU x q:=by
 unfold iX at h
 repeat' split at h
 all_goals first | (cases h;exact ⟨A.push,A.lay⟩) | cases h
theorem aE1 {E:Env} {p:eI} {comp:ByteArray} {lo ld:Nat} {nd:Int} {last:Bool} {x:Int×Int} (A:oU x p):oU x (iY E p comp lo ld nd last).1:=by
 unfold iY;simp only;split
 ·unfold mX;simp only;split
  ·exact ⟨A.push,A.lay⟩
  split
  ·rename_i q hq
   exact aDd A hq
  exact ⟨A.push,A.lay⟩
 split
 ·rename_i h
  have:=A.len;rw[h] at this;cases this
 have hl:=A.len;unfold jE;split
 ·exact ⟨A.push,A.lay⟩
 split
 ·exact ⟨A.push,A.lay⟩
 split
 ·exact ⟨A.push,A.lay⟩
 split
 ·exact ⟨A.push,A.lay⟩
 split
 ·split
  ·rename_i hly
   refine ⟨?_,A.lay⟩;have h1:p.lay≠-1:=by simpa using hly
   have h2:1≤p.lay:=A.lay.resolve_left h1;show (p.known.set p.lay.toNat _)[0]? = _;rw[List.getElem?_set_ne bA];exact A.at_
  exact ⟨A.push,.inr (by show (1:Int)≤(p.known.length:Int);omega)⟩
 exact ⟨A.at_,A.lay⟩
theorem aB9 {E:Env} {p:eI} {comp:ByteArray} {i ld:Nat} {nd:Int} {last:Bool} {x:Int×Int} (A:oU x p):oU x (mId E p comp i ld nd last):=by
 unfold mId;split
 ·exact A
 obtain ⟨e,he,_⟩:=qA (iY E p comp (i+1) ld nd last) i ld last;rw[he];have h:=aE1 (E:=E) (comp:=comp) (lo:=i+1) (ld:=ld) (nd:=nd) (last:=last) A;exact ⟨h.at_,h.lay⟩
theorem xV {E:Env} {comp:ByteArray} {nd:Int} {x:Int×Int}:∀ (cs:List Nat) (d:DoV),oU x d.p→oU x (cs.foldl (mA E comp nd) d).p
 | [],_,h=>h
 | c::cs,d,h=>xV cs (mA E comp nd d c) (aB9 h)
theorem tC (s:ByteArray):mG s=iH (L s):=by
 unfold mG iH;have hl:=eF s
 by_cases c:2 < s.size
 ·rw[decide_eq_true c,decide_eq_true (by omega:3≤(L s).length),Bool.true_and,Bool.true_and]
  have h1:Lib.hasPrefix (L s) [95]=((L s)[0]? == some 95):=by
   cases hs:L s with
   | nil=>rw[hs] at hl;simp at hl;omega
   | cons a r =>
    show ((95:UInt8)==a && true)=(some a==some 95);rw[Bool.and_true,Bool.eq_iff_iff,beq_iff_eq,beq_iff_eq];exact ⟨fun h=>by rw[h],fun h=>by injection h with h;exact h.symm⟩
  have h2:Lib.hasSuffix (L s) [95]=((L s)[(L s).length - 1]? == some 95):=by
   rw[Bool.eq_iff_iff,beq_iff_eq,← List.getLast?_eq_getElem?];unfold Lib.hasSuffix;rw[List.isSuffixOf_iff_suffix];constructor
   ·rintro ⟨t,ht⟩;rw[← ht];simp
   intro h;rw[List.getLast?_eq_some_iff] at h;obtain ⟨t,ht⟩:=h;exact ⟨t,ht.symm⟩
  rw[h1,h2]
 rw[decide_eq_false c,decide_eq_false (by omega:¬ 3≤(L s).length),Bool.false_and,Bool.false_and]
theorem vC (n:List UInt8):∀ (g i c:Nat),c∈kG n g i→i≤c∧n[c]? = some 46
 | 0,_,_,h=>by cases h
 | g+1,i,c,h=>by
  rw[kG] at h;split at h
  ·cases h
  split at h
  ·rename_i hd
   rcases List.mem_cons.1 h with h | h
   ·subst h;exact ⟨Nat.le_refl _,hd⟩
   have:=vC n g _ c h
   have hn:i+1≤nF n i:=by
    unfold nF;split
    ·split
     ·rename_i e he
      have:=pX n _ _ _ he;omega
     exact Nat.le_refl _
    exact Nat.le_refl _
   exact ⟨aR,this.2⟩
  have:=vC n g _ c h;exact ⟨aR,this.2⟩
theorem aCt {E:Env} {comp T:ByteArray} {q:Nat} {pre n:List UInt8} (S:mV (L T) pre n) (hq:pre.length=q+1) {lay:Bool} (K:nW lay n) {p:eI} (hp:p.s=T) (hk:p.known=[]) (hl:p.lay = -1) (hc:p.cHigh = -1) :
 (eS n=[]→lW E comp p q n=p)∧∀ c,(eS n).getLast? = some c→oU (((q+1+c+1:Nat):Int),(T.size:Int)) (lW E comp p q n):=by
 constructor
 ·intro h;unfold lW nR;rw[h];rfl
 intro c hcl;have hne:eS n≠[]:=by intro h;rw[h] at hcl;cases hcl
 have hrev:(eS n).reverse=c::((eS n).reverse.tail):=by
  rw[List.getLast?_eq_head?_reverse] at hcl
  cases hr:(eS n).reverse with
  | nil=>rw[hr] at hcl;cases hcl
  | cons a r=>rw[hr] at hcl;injection hcl with h;subst h;rfl
 have hword:oU (((q+1+c+1:Nat):Int),(T.size:Int)) (mId E p comp (q+1+c) 0 ((eS n).length:Int) false):=by
  rw[uS hc];obtain ⟨e,he,_⟩:=qA (iY E p comp (q+1+c+1) 0 ((eS n).length:Int) false) (q+1+c) 0 false;rw[he];have hih:idHigh p 0=T.size:=by unfold idHigh;rw[if_pos hk,hp]
  have hw:mG (p.s.extract (q+1+c+1) T.size)=false:=by
   rw[tC,hp,eR,S.eq,show q+1+c+1=pre.length+(c+1) by omega,← List.drop_drop,List.drop_left,List.take_of_length_le]
   ·exact (K.last c hcl).1
   have:=eF T;rw[S.eq,List.length_append] at this;rw[List.length_drop];omega
  unfold iY;simp only;rw[hih,hw];simp only[Bool.false_eq_true,if_false];rw[if_pos hk];refine ⟨?_,.inl hl⟩;show (p.known++[_])[0]? = _;rw[hk];rfl
 have hD:oU (((q+1+c+1:Nat):Int),(T.size:Int)) (nR E comp p (q+1) n).p:=by
  unfold nR;rw[hrev,List.map_cons,List.foldl_cons];exact xV _ _ hword
 unfold lW;split
 ·exact aB9 hD
 exact hD
end Go.Proofs.YtlkoeeccebmjmaaGreatDoor.Path
