/- Texts that the law leans on: Words0, Ans0, Ans1, Ans3, Wrapper. Condition: as told at each. -/
import Derived.Deep.QuietTactic
import Derived.BigQuiet
import Derived.Test.YtcdgldnphhidlaaGreatDoorQa
import Derived.Test.YtcdgldnphhidlaaGreatDoorQ17
set_option linter.unusedVariables false
set_option linter.unusedSimpArgs false
set_option maxRecDepth 100000
set_option maxHeartbeats 16000000
namespace Go.Proofs.YtcdgldnphhidlaaGreatDoor.Path
open Go.RowKit Go.ZW.PrintWords Go.Proofs.YtcdgldnphhidlaaGreatDoor.Base Go.Proofs.YtcdgldnphhidlaaGreatDoor.Total Go.Proofs.YtcdgldnphhidlaaGreatDoor.Lower
structure pN (r:RV) (k:Nat):Prop where
 ids:r.ids.length≤k
 unk:r.unk.length≤k
 langs:r.langs.length≤k
 marks:r.marks.length≤k
 lay:r.layAt < (r.ids.length:Int)
theorem pN.zero:pN jT 0:=⟨Nat.le_refl _,Nat.le_refl _,Nat.le_refl _,Nat.le_refl _,by decide⟩
theorem pN.word {r:RV} {k:Nat} (h:pN r k) (st:eW) (comp:ByteArray) (sc:Bool) (pts:Nat) (w:ByteArray) (m:Int):pN (kG st comp sc pts r w m) (k+1):=by
 obtain ⟨h1,h2,h3,h4,h5⟩:=h;unfold kG nO kK jM jL RV.id
 repeat' split
 all_goals
  refine ⟨?_,?_,?_,?_,?_⟩ <;> simp only[List.length_append,List.length_singleton,List.length_set] <;> omega
section
variable (st:eW) (comp:ByteArray) (sc:Bool) (name:ByteArray) (cuts:List Nat)
def dK (k:Nat):RV×Nat:=(cuts.reverse.take k).foldl (kF st comp sc cuts.length name) (jT,name.size)
theorem aA5:dK st comp sc name cuts 0=(jT,name.size):=rfl
theorem sH (k:Nat) (h:k < cuts.length):dK st comp sc name cuts (k+1)=kF st comp sc cuts.length name (dK st comp sc name cuts k) (cuts[cuts.length - 1 - k]' bA):=by
 unfold dK;rw[List.take_succ_eq_append_getElem (by rw[List.length_reverse];exact h),List.foldl_append,List.getElem_reverse];rfl
theorem aC3 (k:Nat) (h:k < cuts.length):(dK st comp sc name cuts (k+1)).2=cuts[cuts.length - 1 - k]' bA:=by
 rw[sH _ _ _ _ _ k h];rfl
theorem uT:∀ k,k≤cuts.length→pN (dK st comp sc name cuts k).1 k
 | 0,_=>pN.zero
 | k+1,h=>by
  rw[sH _ _ _ _ _ k bA];exact (uT k bA).word ..
theorem aJb (r:RV) (pts:Nat) (w:ByteArray) (m:Int):(kG st comp sc pts r w m).ids≠[]:=by
 unfold kG;split
 ·simp[nO,RV.id]
 exact rZ bZ pts w m
theorem aGf (k:Nat) (h0:0 < k) (h:k≤cuts.length):(dK st comp sc name cuts k).1.ids≠[]:=by
 obtain ⟨j,rfl⟩:∃ j,k=j+1:=⟨k - 1,aM⟩
 rw[sH _ _ _ _ _ j bA];show (kG _ _ _ _ _ _ _).ids≠[];apply aJb
theorem uU (h:cuts≠[]):fW st comp sc name cuts=kG st comp sc cuts.length (dK st comp sc name cuts cuts.length).1 (name.extract 0 (dK st comp sc name cuts cuts.length).2) (-1):=by
 unfold fW dK;rw[if_neg h,List.take_of_length_le (by rw[List.length_reverse];exact Nat.le_refl _)]
theorem aK6 (hup:cuts.Pairwise (· < ·)) (hlt:∀ c∈cuts,c < name.size) (k:Nat) (h:k < cuts.length):cuts[cuts.length - 1 - k]' bA+1≤(dK st comp sc name cuts k).2∧(dK st comp sc name cuts k).2≤name.size:=by
 cases k with
 | zero=>exact ⟨hlt _ (List.getElem_mem _),Nat.le_refl _⟩
 | succ k =>
  rw[aC3 _ _ _ _ _ k bA];refine ⟨?_,Nat.le_of_lt (hlt _ (List.getElem_mem _))⟩;exact List.pairwise_iff_getElem.1 hup _ _ _ _ bA
theorem aJ2 (hlt:∀ c∈cuts,c < name.size) (h:cuts≠[]):(dK st comp sc name cuts cuts.length).2≤name.size:=by
 obtain ⟨j,hj⟩:∃ j,cuts.length=j+1:=⟨cuts.length - 1,by have:=List.length_pos_iff.2 h;omega⟩
 rw[hj,aC3 _ _ _ _ _ j bA];exact Nat.le_of_lt (hlt _ (List.getElem_mem _))
end
theorem aIb (m:List Int) (N:Int) (k:Nat) (h:k < m.length):kW (m.take (k+1)) N=if 0≤m[k]∧m[k] < kW (m.take k) N then m[k] else kW (m.take k) N:=by
 rw[List.take_succ_eq_append_getElem h,zK]
theorem aF2 (m:List Int) (N:Nat):0≤kW m (N:Int)∧kW m (N:Int)≤(N:Int):=by
 have:∀ (l:List Int) (e:Int),0≤e→e≤(N:Int)→0≤l.foldl (fun e m=>if 0≤m∧m < e then m else e) e∧l.foldl (fun e m=>if 0≤m∧m < e then m else e) e≤(N:Int):=by
  intro l
  induction l with
  | nil=>intro e h1 h2;exact ⟨h1,h2⟩
  | cons a l ih =>
   intro e h1 h2;rw[List.foldl_cons];split
   ·exact ih _ bA bA
   exact ih _ h1 h2
 exact this m N bA bA
open Go.RowKit Go.ZW.PrintWords Go.Proofs.YtcdgldnphhidlaaGreatDoor.Base Go.Proofs.YtcdgldnphhidlaaGreatDoor.Total Go.Proofs.YtcdgldnphhidlaaGreatDoor.Ext Go.Proofs.YtcdgldnphhidlaaGreatDoor.Lower Go.Proofs.YtcdgldnphhidlaaGreatDoor.PCore
structure wH (x:WV):Prop where
 path:x.path.size≤1000000
 head:(L x.path)[0]? = some 47
 name:x.name.size≤x.path.size
 nEnd:x.nEnd≤x.name.size
 ext:x.ids≠[]→x.ext.size+1≤x.name.size
 extz:x.ext.size≤1000000
 ids:x.ids.length≤2000000
 unk:x.unk.length≤2000000
 langs:x.langs.length≤2000000
def slI (l:List UInt8) (n:Nat):Int:=match slB l n with | some j=>(j:Int) | none=>-1
theorem aE1 (p:ByteArray) (hp:p.size≤1000000):∀ n:Nat,n≤p.size→Ev (fun k=>eU.l0 k p ((n:Int) - 1)) (slI (L p) n):=by
 have hl:=eG p;intro n
 induction n with
 | zero =>
  intro _;refine Ev.step (f:=fun _=>some (-1)) (fun k=>?_) (Ev.now _);simp only[eU.l0];rw[if_neg bA]
 | succ n ih =>
  intro h;have hn:n < (L p).length:=by omega
  have hb:=sP p n hn;have e:((n+1:Nat):Int) - 1=(n:Int):=by omega
  rw[e];unfold slI slB
  by_cases c:(L p)[n]=47
  ·rw[if_pos (by rw[List.getElem?_eq_getElem hn,c])];refine Ev.step (f:=fun _=>some (n:Int)) (fun k=>?_) (Ev.now _);simp only[eU.l0];rw[if_pos bA,if_pos bA,if_pos bA,if_pos (by rw[hb];exact (vQ _ 47 bF).2 c)]
  rw[if_neg (by rw[List.getElem?_eq_getElem hn];intro h2;injection h2 with h2;exact c h2)];refine Ev.step (fun k=>?_) (ih bA);simp only[eU.l0];rw[if_pos bA,if_pos bA,if_pos bA,if_neg (by rw[hb];exact fun h2=>c ((vQ _ 47 bF).1 h2)),w64 bA bA]
theorem zB (p:ByteArray) (hp:p.size≤1000000):Ev (fun k=>eU.f k p (p.size:Int)) (slI (L p) p.size):=by
 refine Ev.congr (fun k=>?_) (aE1 p hp p.size (Nat.le_refl _));unfold eU.f;rw[w64 bA bA]
theorem xL (l:List UInt8):∀ (n j:Nat),slB l n=some j→j < n
 | 0,j,h=>by cases h
 | n+1,j,h=>by
  unfold slB at h;split at h
  ·injection h with h;omega
  have:=xL l n j h;omega
theorem aDc (p:ByteArray) (hp:p.size≤1000000):Ev (fun k=>kY.f k p) (iI p):=by
 unfold kY.f;refine Ev.bind (zB p hp) ?_;unfold iI slI
 cases h:slB (L p) p.size with
 | none=>dsimp only;exact Ev.congr (fun k=>by rw[if_pos bA]) (Ev.now _)
 | some j =>
  have:=xL _ _ _ h
  cases j with
  | zero=>dsimp only;exact Ev.congr (fun k=>by rw[if_pos bA]) (Ev.now _)
  | succ a=>dsimp only;exact Ev.congr (fun k=>by rw[if_neg bA,if_pos bA,if_pos bA];rfl) (Ev.now _)
theorem aA7 (p:ByteArray) (hp:p.size≤1000000) (h0:(L p)[0]? = some 47):Ev (fun k=>jQ.f k p) (jN p):=by
 unfold jQ.f;refine Ev.bind (zB p hp) ?_;unfold jN slI
 cases h:slB (L p) p.size with
 | none=>dsimp only;exact Ev.congr (fun k=>by rw[if_pos bA]) (Ev.now _)
 | some j =>
  have hj:=xL _ _ _ h
  cases j with
  | zero=>dsimp only;exact Ev.congr (fun k=>by rw[if_pos bA]) (Ev.now _)
  | succ a =>
   dsimp only
   have hz:(p.extract 0 (a+1)).size≤1000000:=by rw[ByteArray.size_extract];omega
   obtain ⟨r,hr,h1,_,_⟩:=pQ (p.extract 0 (a+1)) hz ⟨0,by rw[eQ,List.drop_zero,List.getElem?_take_of_lt bA];exact h0⟩;have:r=lastB (p.extract 0 (a+1)):=L_inj (h1.trans (jP _).symm);subst this;refine Ev.congr (fun k=>?_) (Ev.bind hr (Ev.now _));rw[if_neg bA,if_pos bA,if_pos bA];rfl
theorem vS (t:Int):iM.f t=some (jZ t):=by
 unfold iM.f jZ
 by_cases c:3≤t
 ·rw[if_pos c];congr 1;exact decide_eq_decide.2 ⟨fun h=>⟨c,h⟩,fun h=>h.2⟩
 rw[if_neg c];congr 1;exact (decide_eq_false (fun h=>c h.1)).symm
section
variable {x:WV} (O:wH x)
include O
theorem aBo:mF.f x.comp x.path x.name (x.nEnd:Int) x.ids x.unk x.langs x.ext x.fmt x.kind x.lay x.lang x.cust x.dis x.typ=some (sG x):=by
 have:=O.name;have:=O.path;unfold mF.f sG;rw[w64 bA bA,if_pos bA,if_pos bA];congr 2;omega
omit O in
theorem head_size (x:WV):(sG x).size≤x.path.size:=by unfold sG;rw[ByteArray.size_extract];omega
theorem aBv:gH.f x.comp x.path x.name (x.nEnd:Int) x.ids x.unk x.langs x.ext x.fmt x.kind x.lay x.lang x.cust x.dis x.typ=some (lB x):=by
 have h1:=O.name;have h2:=O.path;have h3:=O.nEnd;have h4:=head_size x;unfold gH.f lB
 by_cases c:x.ids=[]
 ·rw[if_pos (by rw[c];rfl),if_pos c]
 rw[if_neg (by intro h;exact c (List.eq_nil_of_length_eq_zero bA)),if_neg c,aBo O,Option.bind_some,if_pos bA,if_pos bA,Int.toNat_natCast,if_pos (by rw[ByteArray.size_extract];omega)]
theorem aH6:(lB x).size≤2000000:=by
 have h1:=O.name;have h2:=O.path;have h4:=head_size x;unfold lB;split
 ·omega
 rw[size_append,ByteArray.size_extract];omega
theorem aFj:jR.f x.comp x.path x.name (x.nEnd:Int) x.ids x.unk x.langs x.ext x.fmt x.kind x.lay x.lang x.cust x.dis x.typ=some (mQ x):=by
 have h1:=O.name;have h2:=O.path;have h3:=O.nEnd;have h4:=head_size x;have h5:=O.extz;have hd:(⟨#[46]⟩:ByteArray).size=1:=rfl;unfold jR.f mQ
 by_cases c:x.lang=⟨#[]⟩
 ·rw[if_pos (by rw[c,L_toList];rfl),if_pos c]
 rw[if_neg (fun h=>c (L_inj (by rw[← L_toList,h];rfl))),if_neg c,aBo O,Option.bind_some,if_pos bA,if_pos bA,Int.toNat_natCast,if_pos (by rw[ByteArray.size_extract];omega),if_pos (by rw[size_append,ByteArray.size_extract];omega),if_pos (by rw[size_append,size_append,ByteArray.size_extract];omega)]
theorem aEr (s:ByteArray) (hs:s.size≤1000000) (hn:x.name.size≤s.size):mT.f x.comp x.path x.name (x.nEnd:Int) x.ids x.unk x.langs x.ext x.fmt x.kind x.lay x.lang x.cust x.dis x.typ s=some (lE x s):=by
 have h5:=O.extz;unfold mT.f lE
 by_cases c:x.ids=[]
 ·rw[if_pos (by rw[c];rfl),if_pos c]
 have h6:=O.ext c;rw[if_neg (by intro h;exact c (List.eq_nil_of_length_eq_zero bA)),if_neg c,w64 (n:=(s.size:Int) - (x.ext.size:Int)) bA bA,w64 bA bA,if_pos bA,if_pos bA];congr 2;omega
theorem uW (b:Bool):Ev (fun k=>gS.j0 k b x.comp x.path x.name (x.nEnd:Int) x.ids x.unk x.langs x.ext x.fmt x.kind x.lay x.lang x.cust x.dis x.typ) (if b=true then ⟨#[]⟩ else if x.ids=[] then x.path else if jZ x.typ=true then (if iI x.path=⟨#[47]⟩ then ⟨#[]⟩ else iI x.path) else if x.typ=2 then lB x else if x.ids.length=1 then x.path else lB x++⟨#[46]⟩++x.ext):=by
 have h5:=O.extz;have h6:=aH6 O;have hd:(⟨#[46]⟩:ByteArray).size=1:=rfl
 have e0:(x.ids.length:Int)=0↔x.ids=[]:=⟨fun h=>List.eq_nil_of_length_eq_zero bA,fun h=>by rw[h];rfl⟩
 have e1:(iI x.path).toList=([47]:List UInt8)↔iI x.path=⟨#[47]⟩:=⟨fun h=>L_inj (by rw[← L_toList,h];rfl),fun h=>by rw[h,L_toList];rfl⟩
 refine Ev.step (f:=fun k=>_) (fun k=>rfl) ?_;simp only[gS.j0]
 cases b with
 | true=>exact Ev.now _
 | false =>
  simp only[Bool.false_eq_true,if_false]
  by_cases c:x.ids=[]
  ·simp only[if_pos (e0.2 c),if_pos c];exact Ev.now _
  simp only[if_neg (fun h=>c (e0.1 h)),if_neg c,vS,Option.bind_some]
  by_cases c2:jZ x.typ=true
  ·simp only[if_pos c2];refine Ev.bind (aDc x.path O.path) ?_
   by_cases c3:iI x.path=⟨#[47]⟩
   ·simp only[if_pos (e1.2 c3),if_pos c3];exact Ev.now _
   simp only[if_neg (fun h=>c3 (e1.1 h)),if_neg c3];exact Ev.now _
  simp only[if_neg c2,aBv O,Option.bind_some]
  by_cases c4:x.typ=2
  ·simp only[if_pos c4];exact Ev.now _
  simp only[if_neg c4]
  by_cases c5:x.ids.length=1
  ·simp only[if_pos (show (x.ids.length:Int)=1 by omega),if_pos c5];exact Ev.now _
  simp only[if_neg (show ¬ (x.ids.length:Int)=1 by omega),if_neg c5];rw[show (fun (_:Nat)=>if (lB x).size+1≤9223372036854775807 then if (lB x++(⟨#[46]⟩:ByteArray)).size+x.ext.size≤9223372036854775807 then some ((lB x++(⟨#[46]⟩:ByteArray))++x.ext) else none else none)=fun _=>some (lB x++⟨#[46]⟩++x.ext) from by funext _;rw[if_pos bA,if_pos (by rw[size_append];omega)]];exact Ev.now _
theorem aHs:Ev (fun k=>gS.f k x.comp x.path x.name (x.nEnd:Int) x.ids x.unk x.langs x.ext x.fmt x.kind x.lay x.lang x.cust x.dis x.typ) (mG x):=by
 have e0:(x.ids.length:Int)=0↔x.ids=[]:=⟨fun h=>List.eq_nil_of_length_eq_zero bA,fun h=>by rw[h];rfl⟩
 have e1:x.path.toList=([47]:List UInt8)↔x.path=⟨#[47]⟩:=⟨fun h=>L_inj (by rw[← L_toList,h];rfl),fun h=>by rw[h,L_toList];rfl⟩
 unfold gS.f mG
 by_cases c:x.ids=[]
 ·simp only[if_pos (e0.2 c),if_pos c]
  by_cases c1:x.path=⟨#[47]⟩
  ·simp only[if_pos (e1.2 c1)]
   by_cases c2:x.typ≥2
   ·simp only[if_pos c2];have h:=uW O (decide (x.typ≤5));rw[if_pos c] at h
    by_cases c3:x.typ≤5
    ·rw[if_pos (decide_eq_true c3)] at h;rw[if_pos ⟨c1,c2,c3⟩];exact h
    rw[if_neg (by rw[decide_eq_false c3];decide)] at h;rw[if_neg (fun h2=>c3 h2.2.2)];exact h
   simp only[if_neg c2];have h:=uW O false;rw[if_neg bF,if_pos c] at h;rw[if_neg (fun h2=>c2 h2.2.1)];exact h
  simp only[if_neg (fun h=>c1 (e1.1 h))];have h:=uW O false;rw[if_neg bF,if_pos c] at h;rw[if_neg (fun h2=>c1 h2.1)];exact h
 simp only[if_neg (fun h=>c (e0.1 h)),if_neg c];have h:=uW O false;rw[if_neg bF,if_neg c] at h;exact h
end
theorem aIs (d:List UInt8) (k:Nat) (h:k < d.length):kU (d.take (k+1))=kU (d.take k)+if d[k]=47 then 1 else 0:=by
 unfold kU;rw[List.take_succ_eq_append_getElem h,List.filter_append,List.length_append];congr 1
 by_cases c:d[k]=47
 ·rw[if_pos c];simp[c]
 rw[if_neg c];simp[c]
theorem vX:∀ l:List UInt8,(∀ x∈l,(x != 47)=true)→(l.takeWhile fun c=>c != 47)=l
 | [],_=>rfl
 | a::r,h=>by
  rw[List.takeWhile_cons,if_pos (h a (List.mem_cons_self ..)),vX r (fun x hx=>h x (List.mem_cons_of_mem _ hx))]
def sS (p:ByteArray):ByteArray:=⟨(((L p).drop 1).takeWhile fun c=>c != 47).toArray⟩
structure aIm (p:ByteArray) (i fr:Nat) (out:List ByteArray):Prop where
 f1:1≤fr
 fi:fr≤i
 len:out.length=kU (((L p).drop 1).take (i - 1))
 none:out=[]→fr=1∧∀ j:Nat,j < i - 1→((L p).drop 1)[j]?≠some 47
 some_:out≠[]→out.head? = some (sS p)
theorem aFt (p:ByteArray) (hp:p.size≤1000000):∀ (n i fr:Nat) (out:List ByteArray),p.size - i=n→1≤i→i≤p.size→aIm p i fr out→PEv (fun r=>r.length=kU ((L p).drop 1)+1∧r.head? = some (sS p)) (fun k=>fE.l0 k p out (fr:Int) (i:Int)):=by
 have hl:=eG p;have hd:((L p).drop 1).length=p.size - 1:=by rw[List.length_drop,hl]
 intro n
 induction n with
 | zero =>
  intro i fr out h1 h2 h3 I;have hi:i=p.size:=by omega
  have f1:=I.f1;have fi:=I.fi
  have ho:out.length≤1000000:=by
   rw[I.len];unfold kU;exact Nat.le_trans (List.length_filter_le _ _) (by rw[List.length_take];omega)
  refine PEv.succ ?_
  have e:(fun k=>fE.l0 (k+1) p out (fr:Int) (i:Int))=fun k=>fE.l0 k p (out++[p.extract fr i]) ((i+1:Nat):Int) ((i+1:Nat):Int):=by
   funext k
   simp only[fE.l0];rw[if_pos bA,if_pos bA,if_pos bA,if_pos bA,if_pos bA,w64 bA bA];rfl
  rw[e];refine PEv.succ ?_
  have e2:(fun k=>fE.l0 (k+1) p (out++[p.extract fr i]) ((i+1:Nat):Int) ((i+1:Nat):Int))=fun _=>some (out++[p.extract fr i]):=by
   funext k
   simp only[fE.l0];rw[if_neg bA]
  rw[e2];refine PEv.now ⟨?_,?_⟩
  ·rw[List.length_append,I.len,List.take_of_length_le bA];rfl
  by_cases c:out=[]
  ·obtain ⟨g1,g2⟩:=I.none c;subst c g1;show some (p.extract 1 i)=_;congr 1;refine L_inj ((eQ ..).trans (Eq.trans ?_ (jP _).symm));rw[List.take_of_length_le bA];refine (vX _ fun x hx=>?_).symm;obtain ⟨j,hj,rfl⟩:=List.mem_iff_getElem.1 hx;have:=g2 j bA;rw[List.getElem?_eq_getElem hj] at this
   simpa using this
  have:=I.some_ c
  cases out with
  | nil=>exact absurd rfl c
  | cons a r=>exact this
 | succ n ih =>
  intro i fr out h1 h2 h3 I;have f1:=I.f1;have fi:=I.fi;have hi:i < (L p).length:=by omega
  have hb:=sP p i hi;have hk:i - 1 < ((L p).drop 1).length:=by omega
  have hg:((L p).drop 1)[i - 1]'hk=(L p)[i]:=by rw[List.getElem_drop];congr 1;omega
  have hc:=aIs ((L p).drop 1) (i - 1) hk;rw[hg,show i - 1+1=i+1 - 1 by omega] at hc
  have ho:out.length≤1000000:=by
   rw[I.len];unfold kU;exact Nat.le_trans (List.length_filter_le _ _) (by rw[List.length_take];omega)
  by_cases c:(L p)[i]=47
  ·rw[if_pos c] at hc
   have hf:out=[]→p.extract fr i=sS p:=by
    intro h;obtain ⟨g1,g2⟩:=I.none h;subst g1;refine L_inj ((eQ ..).trans (Eq.trans ?_ (jP _).symm));rw[tD _ (i - 1) (by rw[List.getElem?_eq_getElem hk,hg,c]) (fun j hj=>g2 j hj)]
   have I2:aIm p (i+1) (i+1) (out++[p.extract fr i]):=by
    refine ⟨aM,Nat.le_refl _,?_,fun h=>by simp at h,fun _=>?_⟩
    ·rw[hc,List.length_append,I.len];rfl
    by_cases c2:out=[]
    ·subst c2;exact congrArg some (hf rfl)
    have:=I.some_ c2
    cases out with
    | nil=>exact absurd rfl c2
    | cons a r=>exact this
   refine PEv.succ ?_
   have e:(fun k=>fE.l0 (k+1) p out (fr:Int) (i:Int))=fun k=>fE.l0 k p (out++[p.extract fr i]) ((i+1:Nat):Int) ((i+1:Nat):Int):=by
    funext k
    simp only[fE.l0];rw[if_pos bA,if_neg bA,if_pos bA,if_pos bA,if_pos (by rw[hb];exact (vQ _ 47 bF).2 c),if_pos bA,if_pos bA,if_pos bA,w64 bA bA];rfl
   rw[e];exact ih (i+1) (i+1) _ bA bA bA I2
  rw[if_neg c] at hc
  have I2:aIm p (i+1) fr out:=by
   refine ⟨f1,aM,by rw[hc];exact I.len,fun h=>⟨(I.none h).1,fun j hj=>?_⟩,I.some_⟩;rcases Nat.lt_or_ge j (i - 1) with h9 | h9
   ·exact (I.none h).2 j h9
   obtain rfl:j=i - 1:=by omega
   rw[List.getElem?_eq_getElem hk,hg];intro h2;injection h2 with h2;exact c h2
  refine PEv.succ ?_
  have e:(fun k=>fE.l0 (k+1) p out (fr:Int) (i:Int))=fun k=>fE.l0 k p out (fr:Int) ((i+1:Nat):Int):=by
   funext k
   simp only[fE.l0];rw[if_pos bA,if_neg bA,if_pos bA,if_pos bA,if_neg (by rw[hb];exact fun h2=>c ((vQ _ 47 bF).1 h2)),w64 bA bA];rfl
  rw[e];exact ih (i+1) fr out bA bA bA I2
theorem aJj (p:ByteArray) (hp:p.size≤1000000) (h0:(L p)[0]? = some 47):PEv (fun r=>r.length=kU ((L p).drop 1)+1∧r.head? = some (sS p)) (fun k=>fE.f k p):=by
 have h1:0 < p.size:=by rw[← eG];exact (List.getElem?_eq_some_iff.1 h0).1
 refine aFt p hp (p.size - 1) 1 1 [] rfl (Nat.le_refl _) bA ⟨Nat.le_refl _,Nat.le_refl _,rfl,fun _=>⟨rfl,fun j hj=>absurd hj bA⟩,fun h=>absurd rfl h⟩
theorem aDe {x:WV} (O:wH x):Ev (fun k=>kH.f k x.comp x.path x.name (x.nEnd:Int) x.ids x.unk x.langs x.ext x.fmt x.kind x.lay x.lang x.cust x.dis x.typ) (rR x.path x.typ):=by
 obtain ⟨r,hr,h1,h2⟩:=aJj x.path O.path O.head
 have hsec:rR x.path x.typ=if (r.length:Int) < 2 then ⟨#[]⟩ else if (r.length:Int)=2 then (if x.typ=3 then ⟨#[]⟩ else sS x.path) else sS x.path:=by
  unfold rR
  by_cases c:kU ((L x.path).drop 1)=0
  ·rw[if_pos (.inl c),if_pos bA]
  rw[if_neg (show ¬ (r.length:Int) < 2 by omega)]
  by_cases c2:kU ((L x.path).drop 1)=1
  ·rw[if_pos (show (r.length:Int)=2 by omega)]
   by_cases c3:x.typ=3
   ·rw[if_pos (.inr ⟨c2,c3⟩),if_pos c3]
   rw[if_neg (fun h=>h.elim c (fun h=>c3 h.2)),if_neg c3];rfl
  rw[if_neg (show ¬ (r.length:Int)=2 by omega),if_neg (fun h=>h.elim c (fun h=>c2 h.1))];rfl
 have hrd:iB ByteArray.empty r 0=sS x.path:=by
  cases r with
  | nil=>cases h2
  | cons a t=>injection h2
 have hpos:0 < (r.length:Int):=by omega
 unfold kH.f;refine Ev.bind hr ?_;rw[hsec,hrd];simp only[if_pos hpos]
 by_cases c1:(r.length:Int) < 2
 ·simp only[if_pos c1];exact Ev.now _
 simp only[if_neg c1]
 by_cases c2:(r.length:Int)=2
 ·simp only[if_pos c2]
  by_cases c3:x.typ=3
  ·simp only[if_pos c3];exact Ev.now _
  simp only[if_neg c3];exact Ev.now _
 simp only[if_neg c2];exact Ev.now _
theorem eV.kd2 {w:World} {A:Option Addr} {c:Nat} {l:List ByteArray} (H:eV w 0 (.slice A l.length c) l) (hl:l.length≤9223372036854775807):l.length≤c∧Kd.C Kd.string w A l.length l:=by
 obtain ⟨A',c',e,h1,h2⟩:=H.kd hl;injection e with e1 e2 e3
 subst e1 e3;exact ⟨h1,h2⟩
theorem aEv (p:ByteArray) (hp:p.size≤1000000) (w:World):Calls Tryz.prog 121 #[.string p] w fun e w'=>e = .returned (.string (iI p))∧Below w.heap.size w w':=by
 obtain ⟨k,hk⟩:=(aDc p hp).rounds
 exact (kY.calls k p _ w hk).mono fun _ _ ⟨h1,h2⟩=>⟨h1,dN⟩
theorem yG (p:ByteArray) (hp:p.size≤1000000) (h0:(L p)[0]? = some 47) (w:World):Calls Tryz.prog 122 #[.string p] w fun e w'=>e = .returned (.string (jN p))∧Below w.heap.size w w':=by
 obtain ⟨k,hk⟩:=(aA7 p hp h0).rounds
 exact (jQ.calls k p _ w hk).mono fun _ _ ⟨h1,h2⟩=>⟨h1,dN⟩
theorem uG (t:Int) (w:World):Calls Tryz.prog 125 #[.int .i64 t] w fun e w'=>e = .returned (.bool (jZ t))∧Below w.heap.size w w' :=
 (iM.calls t _ w (vS t)).mono fun _ _ ⟨h1,h2⟩=>⟨h1,dN⟩
theorem aFr (p:ByteArray) (hp:p.size≤1000000) (w:World):Calls Tryz.prog 89 #[.string p,.int .i64 (p.size:Int)] w fun e w'=>e = .returned (.int .i64 (slI (L p) p.size))∧Below w.heap.size w w':=by
 obtain ⟨k,hk⟩:=(zB p hp).rounds
 exact (eU.calls k p _ _ w hk).mono fun _ _ ⟨h1,h2⟩=>⟨h1,dN⟩
section
variable {w:World} {x:WV} {A0 A1 A2:Option Addr} {c0 c1 c2:Nat} (O:wH x) (S0:eV w 0 (.slice A0 x.ids.length c0) x.ids) (S1:eV w 0 (.slice A1 x.unk.length c1) x.unk) (S2:eV w 0 (.slice A2 x.langs.length c2) x.langs)
include O S0 S1 S2
theorem aAm:Calls Tryz.prog 123 #[.agg #[.string x.comp,.string x.path,.string x.name,.int .i64 (x.nEnd:Int),.slice A0 x.ids.length c0,.slice A1 x.unk.length c1,.slice A2 x.langs.length c2,.string x.ext,.string x.fmt,.string x.kind,.string x.lay,.string x.lang,.string x.cust,.bool x.dis,.int .i64 x.typ]] w fun e w'=>e = .returned (.string (rR x.path x.typ))∧Below w.heap.size w w':=by
 have h0:=S0.kd2 (by have:=O.ids;omega);have h1:=S1.kd2 (by have:=O.unk;omega);have h2:=S2.kd2 (by have:=O.langs;omega);obtain ⟨k,hk⟩:=(aDe O).rounds
 exact (kH.calls k x.comp x.path x.name (x.nEnd:Int) A0 c0 x.ids A1 c1 x.unk A2 c2 x.langs x.ext x.fmt x.kind x.lay x.lang x.cust x.dis x.typ _ w h0.2 h0.1 h1.2 h1.1 h2.2 h2.1 hk).mono fun _ _ ⟨h1,h2⟩=>⟨h1,dN⟩
theorem xB:Calls Tryz.prog 127 #[.agg #[.string x.comp,.string x.path,.string x.name,.int .i64 (x.nEnd:Int),.slice A0 x.ids.length c0,.slice A1 x.unk.length c1,.slice A2 x.langs.length c2,.string x.ext,.string x.fmt,.string x.kind,.string x.lay,.string x.lang,.string x.cust,.bool x.dis,.int .i64 x.typ]] w fun e w'=>e = .returned (.string (lB x))∧Below w.heap.size w w':=by
 have h0:=S0.kd2 (by have:=O.ids;omega);have h1:=S1.kd2 (by have:=O.unk;omega);have h2:=S2.kd2 (by have:=O.langs;omega)
 exact (gH.calls x.comp x.path x.name (x.nEnd:Int) A0 c0 x.ids A1 c1 x.unk A2 c2 x.langs x.ext x.fmt x.kind x.lay x.lang x.cust x.dis x.typ _ w h0.2 h0.1 h1.2 h1.1 h2.2 h2.1 (aBv O)).mono fun _ _ ⟨h1,h2⟩=>⟨h1,dN⟩
theorem aDz:Calls Tryz.prog 126 #[.agg #[.string x.comp,.string x.path,.string x.name,.int .i64 (x.nEnd:Int),.slice A0 x.ids.length c0,.slice A1 x.unk.length c1,.slice A2 x.langs.length c2,.string x.ext,.string x.fmt,.string x.kind,.string x.lay,.string x.lang,.string x.cust,.bool x.dis,.int .i64 x.typ]] w fun e w'=>e = .returned (.string (mQ x))∧Below w.heap.size w w':=by
 have h0:=S0.kd2 (by have:=O.ids;omega);have h1:=S1.kd2 (by have:=O.unk;omega);have h2:=S2.kd2 (by have:=O.langs;omega)
 exact (jR.calls x.comp x.path x.name (x.nEnd:Int) A0 c0 x.ids A1 c1 x.unk A2 c2 x.langs x.ext x.fmt x.kind x.lay x.lang x.cust x.dis x.typ _ w h0.2 h0.1 h1.2 h1.1 h2.2 h2.1 (aFj O)).mono fun _ _ ⟨h1,h2⟩=>⟨h1,dN⟩
theorem aCy:Calls Tryz.prog 128 #[.agg #[.string x.comp,.string x.path,.string x.name,.int .i64 (x.nEnd:Int),.slice A0 x.ids.length c0,.slice A1 x.unk.length c1,.slice A2 x.langs.length c2,.string x.ext,.string x.fmt,.string x.kind,.string x.lay,.string x.lang,.string x.cust,.bool x.dis,.int .i64 x.typ]] w fun e w'=>e = .returned (.string (mG x))∧Below w.heap.size w w':=by
 have h0:=S0.kd2 (by have:=O.ids;omega);have h1:=S1.kd2 (by have:=O.unk;omega);have h2:=S2.kd2 (by have:=O.langs;omega);obtain ⟨k,hk⟩:=(aHs O).rounds
 exact (gS.calls k x.comp x.path x.name (x.nEnd:Int) A0 c0 x.ids A1 c1 x.unk A2 c2 x.langs x.ext x.fmt x.kind x.lay x.lang x.cust x.dis x.typ _ w h0.2 h0.1 h1.2 h1.1 h2.2 h2.1 hk).mono fun _ _ ⟨h1,h2⟩=>⟨h1,dN⟩
theorem tG (s:ByteArray) (hs:s.size≤1000000) (hn:x.name.size≤s.size):Calls Tryz.prog 124 #[.agg #[.string x.comp,.string x.path,.string x.name,.int .i64 (x.nEnd:Int),.slice A0 x.ids.length c0,.slice A1 x.unk.length c1,.slice A2 x.langs.length c2,.string x.ext,.string x.fmt,.string x.kind,.string x.lay,.string x.lang,.string x.cust,.bool x.dis,.int .i64 x.typ],.string s] w fun e w'=>e = .returned (.string (lE x s))∧Below w.heap.size w w':=by
 have h0:=S0.kd2 (by have:=O.ids;omega);have h1:=S1.kd2 (by have:=O.unk;omega);have h2:=S2.kd2 (by have:=O.langs;omega)
 exact (mT.calls x.comp x.path x.name (x.nEnd:Int) A0 c0 x.ids A1 c1 x.unk A2 c2 x.langs x.ext x.fmt x.kind x.lay x.lang x.cust x.dis x.typ s _ w h0.2 h0.1 h1.2 h1.1 h2.2 h2.1 (aEr O s hs hn)).mono fun _ _ ⟨h1,h2⟩=>⟨h1,dN⟩
end
open Go.RowKit Go.WideMaps Go.ZW.PrintWords Go.Proofs.YtcdgldnphhidlaaGreatDoor.Base Go.Proofs.YtcdgldnphhidlaaGreatDoor.Lower Go.Proofs.YtcdgldnphhidlaaGreatDoor.PCore
open Go.ZW.PrintLast
section
variable {w0 w:World} {b:Nat} {G:RdK} {r:RV} {V:Fin 4→Value} {st:eW}
theorem cell_far {w w' : World} {b j:Nat} {v:Value} (h:w.cell? ⟨b,j,none⟩=some v) (hb:Below w.heap.size w w'):w'.cell? ⟨b,j,none⟩=some v:=(hb.cell (World.block_lt_of_cell? w ⟨b,j,none⟩ h)).trans h
theorem xX (x pre:ByteArray):(gY x pre).size≤x.size:=by unfold gY;rw[ByteArray.size_extract];omega
theorem aCo (S:nS w0 st G.s0 G.s1 G.s2 G.s3) (O:aAv st) (hB:Below w0.heap.size w0 w) (H:iF w w0.heap.size b G r V) (word x:ByteArray) (k:Int) (hx:x.size≤1000000) (n1:r.ids.length≤1000000) (n2:r.marks.length≤1000000) (n3:r.langs.length≤1000000) :
 Calls Tryz.prog 130 #[.pointer (some ⟨b,0,none⟩),.string word,.string x,.int .i64 k] w fun e w'=>e = .returned (.tuple #[])∧∃ V',iF w' w0.heap.size b G (jM st G.lay r word x k) V'∧iE w w' b V V':=by
 replace H:=cB H;replace hB:=cB hB;have HW0:=cB (Below.refl w.heap.size w);go_enter Tryz.func130,Tryz.ntmps130;refine wp_seq_k (fun J1 hJ1=>?_)
 go_cut [] from 17 to 75 (fun wx=>Aside0 (Below w.heap.size w wx)∧Aside0 (¬ (hJ x fJ=true∧(listed st.langs (low (gY x fJ)) || listed st.dis (low (gY x fJ)))=true)))
 case first =>
  have ct:=qN x fJ hx w
  obtain ⟨v1,hv1⟩:∃ v,gY x fJ=v:=⟨_,rfl⟩
  obtain ⟨t1,ht1⟩:∃ t,hJ x fJ=t:=⟨_,rfl⟩
  have hz1:v1.size≤x.size:=by rw[← hv1];exact xX _ _
  rw[hv1,ht1] at ct;go_wp2_with fail
  refine ct.mono ?_;rintro e w1 ⟨rfl,hb1⟩;have HW1:=cB (eD HW0.out hb1);clear hb1;clear ct
  cases t1 with
  | false =>
   go_wp2_with fail
   go_meet
   case rel=>exact ⟨HW1,⟨by rw[ht1];rintro ⟨h,_⟩;cases h⟩⟩
  | true =>
   have cl:=xM v1 bA w1;go_wp2_with fail
   refine cl.mono ?_;rintro e w2 ⟨rfl,hb2⟩;have HW2:=cB (eD HW1.out hb2);clear hb2;clear cl
   obtain ⟨a1,ha1⟩:∃ a,listed st.langs (low v1)=a:=⟨_,rfl⟩
   obtain ⟨d1,hd1⟩:∃ a,listed st.dis (low v1)=a:=⟨_,rfl⟩
   have HR2:=cB (H.out.below HW2.out);have HM2:=cB (iE.of_below (b:=b) (V:=V) HW2.out);have HB2:=cB (eD hB.out HW2.out);have rc15:=HR2.out.row.at 15 _ rfl;have rc16:=HR2.out.row.at 16 _ rfl;have ca:=oL (S.below HB2.out).l O.l (low v1);rw[ha1] at ca;go_upto_region 3 with fail
   go_cut [40] from 25 to 40 (fun sx wx=>sx = .bool (a1 || d1)∧Aside0 (Below w2.heap.size w2 wx))
   case first =>
    go_wp2_with fail
    refine ca.mono ?_;rintro e w3 ⟨rfl,hb3⟩;have HB3:=cB hb3;have rc16:=cell_far rc16 hb3;have hs3:=S.below (eD HB2.out hb3);clear hb3 ca rc15;cases a1
    ·have cd:=oL hs3.d O.d (low v1);rw[hd1] at cd;go_wp2_with fail
     refine cd.mono ?_;rintro e w4 ⟨rfl,hb4⟩;have HB4:=cB (eD HB3.out hb4);clear hb4 cd;go_wp2_with fail
     go_meet
     case rel=>exact ⟨rfl,HB4⟩
    go_wp2_with fail
    go_meet
    case rel=>exact ⟨rfl,HB3⟩
   obtain ⟨rfl,HB3⟩:=hcut
   obtain ⟨w4,rfl⟩:∃ x,x=wc:=⟨_,rfl⟩
   have HW4:=cB (eD HW2.out HB3.out);clear rc15 rc16 ca HB3
   cases hll:(a1 || d1) with
   | false =>
    go_wp2_with fail
    go_meet
    case rel=>exact ⟨HW4,⟨by rw[hv1,ha1,hd1,hll];rintro ⟨_,h⟩;cases h⟩⟩
   | true =>
    have hres:jM st G.lay r word x k = { r.id v1 k with langs:=r.langs++[v1],dis:=r.dis || !a1 }:=by unfold jM;rw[if_pos ⟨ht1,by rw[hv1,ha1,hd1];exact hll⟩,hv1,ha1]
    have HR4:=cB (H.out.below HW4.out);have HM4:=cB (iE.of_below (b:=b) (V:=V) HW4.out);have HB4:=cB (eD hB.out HW4.out);have ci:=jU HR4.out v1 k (by exact n1) (by exact n2);go_wp2_with fail
    refine ci.mono ?_;rintro e w5 ⟨rfl,V5,hR5,hM5⟩;have HR5:=cB hR5;have HM5:=cB (HM4.out.trans hM5);have HB5:=cB (HB4.out.trans (HR4.out.moved hM5));clear ci hR5 hM5;have rc6:=HR5.out.row.at 6 _ rfl;have og:=cB HR5.out.langsRow;have hBg:w0.heap.size≤w5.heap.size:=Nat.le_trans HR5.out.base (Nat.le_of_lt HR5.out.lt)
    obtain ⟨vg,hvg⟩:∃ v,V5 2=v:=⟨_,rfl⟩
    rw[hvg] at rc6 og;have HVg:=cB hvg;clear hvg;have ng:=n3
    go_wp2_with (first | (refine kI rfl w0.heap.size (.tmp 50) (.tmp 52) 22 9 _ 1 16 rfl Tryz.underlying22 pO rfl bF bF vg r.langs.length (r.langs.map Value.string) [.string v1] rfl rfl rfl bL og.out hBg bA ?_) | fail)
    intro v1 w1 ho hg ha;obtain ⟨Ag,cg,ev1⟩:=fL ho;subst ev1;rw[← HVg.out] at hg ha;obtain ⟨qg,fg⟩:=HR5.out.far hg 6 (V5 2) rfl;obtain ⟨hR,hM⟩:=HR5.out.addLangs v1 ho hg ha;have HR6:=cB hR;have HM6:=cB (HM5.out.trans hM);have HB6:=cB (HB5.out.trans (HR5.out.moved hM));clear rc6 og hBg ng ho hg ha hR hM;go_upto_region 6 with fail
    obtain ⟨w6,hw6⟩:∃ w2,w1.setCell ⟨b,6,none⟩ ((.slice Ag (r.langs.length+1) cg):Value)=w2:=⟨_,rfl⟩
    rw[hw6] at HR6 HM6 HB6 ⊢;clear hw6 qg fg
    obtain ⟨V6,hV6⟩:∃ V2,upd V5 2 ((.slice Ag (r.langs.length+1) cg):Value)=V2:=⟨_,rfl⟩
    rw[hV6] at HR6 HM6;clear hV6;have rc13:=HR6.out.row.at 13 _ rfl;have rc15:=HR6.out.row.at 15 _ rfl;have rf13:=HR6.out.row.free 13 bP;have ca:=oL (S.below HB6.out).l O.l (low v1);rw[ha1] at ca
    cases hdis:r.dis with
    | true =>
     rw[show (r.id v1 k).dis=true from hdis] at rc13;have hres' : jM st G.lay r word x k = { r.id v1 k with langs:=r.langs++[v1],dis:=true }:=by rw[hres,hdis];rfl
     clear hres;have hres:=hres';go_wp2_with fail
     obtain ⟨hR,hM⟩:=HR6.out.put 13 (.bool true) G { r.id v1 k with langs:=r.langs++[v1],dis:=true } rfl rfl bA;have HR8:=cB hR;have HM8:=cB (HM6.out.trans hM);clear hR hM;exact bodyPost_ret (v:=.tuple #[]) (by simp[results,Tryz.results130]) rfl ⟨rfl,_,(hres.symm▸HR8.out),HM8.out⟩
    | false =>
     rw[show (r.id v1 k).dis=false from hdis] at rc13;have hres' : jM st G.lay r word x k = { r.id v1 k with langs:=r.langs++[v1],dis:=!a1 }:=by rw[hres,hdis];rfl
     clear hres;have hres:=hres';go_wp2_with fail
     refine ca.mono ?_;rintro e w7 ⟨rfl,hb7⟩;clear ca rc13 rc15 rf13;have HR7:=cB (HR6.out.below hb7);have HM7:=cB (HM6.out.trans (.of_below hb7));have HB7:=cB (eD HB6.out hb7);clear hb7;have rc13:=HR7.out.row.at 13 _ rfl;have rf13:=HR7.out.row.free 13 bP;go_wp2_with fail
     obtain ⟨hR,hM⟩:=HR7.out.put 13 (.bool (!a1)) G { r.id v1 k with langs:=r.langs++[v1],dis:=!a1 } rfl rfl bA;have HR8:=cB hR;have HM8:=cB (HM7.out.trans hM);clear hR hM;exact bodyPost_ret (v:=.tuple #[]) (by simp[results,Tryz.results130]) rfl ⟨rfl,_,(hres.symm▸HR8.out),HM8.out⟩
 obtain ⟨HW1,HNO⟩:=hcut
 obtain ⟨w1,rfl⟩:∃ x,x=wc:=⟨_,rfl⟩
 refine hJ1 _ _ ?_;clear hJ1;refine wp_seq_k (fun J2 hJ2=>?_)
 go_cut [] from 76 to 138 (fun wx=>Aside0 (Below w.heap.size w wx)∧Aside0 (jM st G.lay r word x k = { r.id word k with cust:=x }))
 case first =>
  have HR1:=cB (H.out.below HW1.out);have HM1:=cB (iE.of_below (b:=b) (V:=V) HW1.out);have HB1:=cB (eD hB.out HW1.out);have rc19:=HR1.out.row.at 19 _ rfl
  cases hlay:G.lay with
  | false =>
   rw[hlay] at rc19;go_wp2_with fail
   go_meet
   case rel=>exact ⟨HW1,⟨by rw[hlay];unfold jM;rw[if_neg HNO.out,if_neg (fun h=>Bool.noConfusion h.1),if_neg (fun h=>Bool.noConfusion h.1),if_neg (fun h=>Bool.noConfusion h.1)]⟩⟩
  | true =>
   rw[hlay] at rc19;go_upto_if 79 with fail
   clear rc19 HR1 HM1 HB1;refine wp_cond_true rfl ?_;refine wp_seq_k (fun J3 hJ3=>?_)
   go_cut [] from 80 to 104 (fun wx=>Aside0 (Below w.heap.size w wx)∧Aside0 (¬ (hJ x gR=true∧gX st (low (gY x gR))=true)))
   case first =>
    have ct:=qN x gR hx w1
    obtain ⟨v2,hv2⟩:∃ v,gY x gR=v:=⟨_,rfl⟩
    obtain ⟨t2,ht2⟩:∃ t,hJ x gR=t:=⟨_,rfl⟩
    have hz2:v2.size≤x.size:=by rw[← hv2];exact xX _ _
    rw[hv2,ht2] at ct;go_wp2_with fail
    refine ct.mono ?_;rintro e w2 ⟨rfl,hb2⟩;have HW2:=cB (eD HW1.out hb2);clear hb2;clear ct
    cases t2 with
    | false =>
     go_wp2_with fail
     go_quiet (fail)
     go_wp2_with fail
     go_meet
     case rel=>exact ⟨⟨eD HW2.out (fA.below ⟨_,rfl⟩)⟩,⟨by rw[ht2];rintro ⟨h,_⟩;cases h⟩⟩
    | true =>
     have HR2:=cB (H.out.below HW2.out);have HM2:=cB (iE.of_below (b:=b) (V:=V) HW2.out);have HB2:=cB (eD hB.out HW2.out);have SB:=(S.below HB2.out).below (w':=w2.drew) ((Below.refl _ _).drew);have rc17:w2.drew.cell? ⟨b,17,none⟩=some G.s2:=HR2.out.row.at 17 _ rfl;go_upto_region 9 with fail
     refine iJ (n:=11) (S:=fun w'=>w'.cell? ⟨b,17,none⟩=some G.s2) (ds:=[]) _ bB rfl rfl (rc17) (fun hHeld=>?_);refine sA1 0 (some 85) sB1 ?_
     refine sA1 1 (some 86) sB1 ?_
     refine sA1 2 (some 87) sB1 ?_
     refine sA1 3 (some 88) sB1 ?_
     refine sA1 4 (some 89) sB1 ?_
     refine sA1 5 (some 90) sB1 ?_
     refine sA1 7 (some 92) sB1 ?_
     refine sC1 6 (some 91) sK1 ?_
     refine sF1 8 (some 93) sG1 (fun K hK=>?_);refine lS Tryz.func69 bB rfl #[.string v2] bH rfl rfl bJ ?_
     with_reducible refine ((xM v2 bA w2.drew)).mono ?_
     rintro e wa ⟨rfl,ha⟩;refine ⟨_,rfl,?_⟩;have rc17a:=cell_far rc17 ha;refine hK.out _ _ (rc17a) (fun hHeld=>?_);clear hK K;refine gM sJ1 ?_
     refine sF1 9 (some 94) sG1 (fun K hK=>?_);refine lS Tryz.func133 bB rfl #[G.s2,.string (low v2)] bH rfl rfl bJ ?_
     with_reducible refine ((aFh (SB.below ha).f O.f (low v2))).mono ?_
     rintro e wb ⟨rfl,hbb⟩;refine ⟨_,rfl,?_⟩;have rc17b:=cell_far rc17a hbb;refine hK.out _ _ (rc17b) (fun hHeld=>?_);clear hK K;refine gM sJ1 ?_
     refine sA1 10 (some 95) sB1 ?_
     refine iV bB ?_;have HW3:=cB (eD HW2.out (eD (eD ((Below.refl _ _).drew) ha) hbb))
     obtain ⟨f2,hf2⟩:∃ f,gX st (low v2)=f:=⟨_,rfl⟩
     rw[hf2];clear rc17 rc17a rc17b ha hbb SB HR2 HM2 HB2
     obtain ⟨w3,rfl⟩:∃ x,x=wb:=⟨_,rfl⟩
     cases f2 with
     | false =>
      go_wp2_with fail
      go_meet
      case rel=>exact ⟨HW3,⟨by rw[hv2,hf2];rintro ⟨_,h⟩;cases h⟩⟩
     | true =>
      have hres:jM st true r word x k = { r.id v2 k with fmt:=v2 }:=by unfold jM;rw[if_neg HNO.out,if_pos ⟨rfl,ht2,by rw[hv2];exact hf2⟩,hv2]
      have HR3:=cB (H.out.below HW3.out);have HM3:=cB (iE.of_below (b:=b) (V:=V) HW3.out);have HB3:=cB (eD hB.out HW3.out);have ci:=jU HR3.out v2 k (by exact n1) (by exact n2);go_wp2_with fail
      refine ci.mono ?_;rintro e w4 ⟨rfl,V4,hR4,hM4⟩;have HR4:=cB hR4;have HM4:=cB (HM3.out.trans hM4);have HB4:=cB (HB3.out.trans (HR3.out.moved hM4));clear ci hR4 hM4;have rc8:=HR4.out.row.at 8 _ rfl;have rf8:=HR4.out.row.free 8 bP;go_wp2_with fail
      obtain ⟨hR,hM⟩:=HR4.out.put 8 (.string v2) G { r.id v2 k with fmt:=v2 } rfl rfl bA;have HR5:=cB hR;have HM5:=cB (HM4.out.trans hM);clear hR hM;exact bodyPost_ret (v:=.tuple #[]) (by simp[results,Tryz.results130]) rfl ⟨rfl,_,(hres.symm▸HR5.out),HM5.out⟩
   obtain ⟨HW1,HNO2⟩:=hcut
   obtain ⟨w1,rfl⟩:∃ x,x=wc:=⟨_,rfl⟩
   refine hJ3 _ _ ?_;clear hJ3;refine wp_seq_k (fun J4 hJ4=>?_)
   go_cut [] from 105 to 124 (fun wx=>Aside0 (Below w.heap.size w wx)∧Aside0 (¬ (hJ x gE=true∧isKind (gY x gE)=true)))
   case first =>
    have ct:=qN x gE hx w1
    obtain ⟨v3,hv3⟩:∃ v,gY x gE=v:=⟨_,rfl⟩
    obtain ⟨t3,ht3⟩:∃ t,hJ x gE=t:=⟨_,rfl⟩
    have hz3:v3.size≤x.size:=by rw[← hv3];exact xX _ _
    rw[hv3,ht3] at ct;go_wp2_with fail
    refine ct.mono ?_;rintro e w2 ⟨rfl,hb2⟩;have HW2:=cB (eD HW1.out hb2);clear hb2;clear ct
    cases t3 with
    | false =>
     go_wp2_with fail
     go_meet
     case rel=>exact ⟨HW2,⟨by rw[ht3];rintro ⟨h,_⟩;cases h⟩⟩
    | true =>
     have ck3:=wT v3 bA w2
     obtain ⟨b3,hb3⟩:∃ f,isKind v3=f:=⟨_,rfl⟩
     rw[hb3] at ck3;go_wp2_with fail
     refine ck3.mono ?_;rintro e w3 ⟨rfl,hb3⟩;have HW3:=cB (eD HW2.out hb3);clear hb3;clear ck3
     cases b3 with
     | false =>
      go_wp2_with fail
      go_meet
      case rel=>exact ⟨HW3,⟨by rw[hv3,hb3];rintro ⟨_,h⟩;cases h⟩⟩
     | true =>
      have hres:jM st true r word x k = { r.id v3 k with kind:=v3 }:=by unfold jM;rw[if_neg HNO.out,if_neg (fun h=>HNO2.out h.2),if_pos ⟨rfl,ht3,by rw[hv3];exact hb3⟩,hv3]
      have HR3:=cB (H.out.below HW3.out);have HM3:=cB (iE.of_below (b:=b) (V:=V) HW3.out);have HB3:=cB (eD hB.out HW3.out);have ci:=jU HR3.out v3 k (by exact n1) (by exact n2);go_wp2_with fail
      refine ci.mono ?_;rintro e w4 ⟨rfl,V4,hR4,hM4⟩;have HR4:=cB hR4;have HM4:=cB (HM3.out.trans hM4);have HB4:=cB (HB3.out.trans (HR3.out.moved hM4));clear ci hR4 hM4;have rc9:=HR4.out.row.at 9 _ rfl;have rf9:=HR4.out.row.free 9 bP;go_wp2_with fail
      obtain ⟨hR,hM⟩:=HR4.out.put 9 (.string v3) G { r.id v3 k with kind:=v3 } rfl rfl bA;have HR5:=cB hR;have HM5:=cB (HM4.out.trans hM);clear hR hM;exact bodyPost_ret (v:=.tuple #[]) (by simp[results,Tryz.results130]) rfl ⟨rfl,_,(hres.symm▸HR5.out),HM5.out⟩
   obtain ⟨HW1,HNO3⟩:=hcut
   obtain ⟨w1,rfl⟩:∃ x,x=wc:=⟨_,rfl⟩
   refine hJ4 _ _ ?_;clear hJ4;have ct:=qN x fS hx w1
   obtain ⟨v4,hv4⟩:∃ v,gY x fS=v:=⟨_,rfl⟩
   obtain ⟨t4,ht4⟩:∃ t,hJ x fS=t:=⟨_,rfl⟩
   have hz4:v4.size≤x.size:=by rw[← hv4];exact xX _ _
   rw[hv4,ht4] at ct;go_wp2_with fail
   refine ct.mono ?_;rintro e w2 ⟨rfl,hb2⟩;have HW2:=cB (eD HW1.out hb2);clear hb2;clear ct
   cases t4 with
   | false =>
    go_wp2_with fail
    go_meet
    case rel=>exact ⟨HW2,⟨by rw[hlay];unfold jM;rw[if_neg HNO.out,if_neg (fun h=>HNO2.out h.2),if_neg (fun h=>HNO3.out h.2),if_neg (by rw[ht4];rintro ⟨_,h⟩;cases h)]⟩⟩
   | true =>
    have hres:jM st true r word x k = { r.id v4 k with lay:=v4 }:=by unfold jM;rw[if_neg HNO.out,if_neg (fun h=>HNO2.out h.2),if_neg (fun h=>HNO3.out h.2),if_pos ⟨rfl,ht4⟩,hv4]
    have HR2:=cB (H.out.below HW2.out);have HM2:=cB (iE.of_below (b:=b) (V:=V) HW2.out);have HB2:=cB (eD hB.out HW2.out);have ci:=jU HR2.out v4 k (by exact n1) (by exact n2);go_wp2_with fail
    refine ci.mono ?_;rintro e w3 ⟨rfl,V3,hR3,hM3⟩;have HR3:=cB hR3;have HM3:=cB (HM2.out.trans hM3);have HB3:=cB (HB2.out.trans (HR2.out.moved hM3));clear ci hR3 hM3;have rc10:=HR3.out.row.at 10 _ rfl;have rf10:=HR3.out.row.free 10 bP;go_wp2_with fail
    obtain ⟨hR,hM⟩:=HR3.out.put 10 (.string v4) G { r.id v4 k with lay:=v4 } rfl rfl bA;have HR4:=cB hR;have HM4:=cB (HM3.out.trans hM);clear hR hM;exact bodyPost_ret (v:=.tuple #[]) (by simp[results,Tryz.results130]) rfl ⟨rfl,_,(hres.symm▸HR4.out),HM4.out⟩
 obtain ⟨HW1,HRES⟩:=hcut
 obtain ⟨w1,rfl⟩:∃ x,x=wc:=⟨_,rfl⟩
 refine hJ2 _ _ ?_;clear hJ2;have hres:=HRES.out;have HR1:=cB (H.out.below HW1.out);have HM1:=cB (iE.of_below (b:=b) (V:=V) HW1.out);have HB1:=cB (eD hB.out HW1.out);have ci:=jU HR1.out word k (by exact n1) (by exact n2);go_wp2_with fail
 refine ci.mono ?_;rintro e w2 ⟨rfl,V2,hR2,hM2⟩;have HR2:=cB hR2;have HM2:=cB (HM1.out.trans hM2);have HB2:=cB (HB1.out.trans (HR1.out.moved hM2));clear ci hR2 hM2;have rc12:=HR2.out.row.at 12 _ rfl;have rf12:=HR2.out.row.free 12 bP;go_wp2_with fail
 obtain ⟨hR,hM⟩:=HR2.out.put 12 (.string x) G { r.id word k with cust:=x } rfl rfl bA;have HR3:=cB hR;have HM3:=cB (HM2.out.trans hM);clear hR hM;exact bodyPost_end (v:=.tuple #[]) (by simp[results,Tryz.results130]) rfl ⟨rfl,_,(hres.symm▸HR3.out),HM3.out⟩
end
end Go.Proofs.YtcdgldnphhidlaaGreatDoor.Path
