/- Texts that the law leans on: Ans0, Ans1, Ans3, Read, Identify, Wrapper. Condition: as told at each. -/
import Derived.Deep.QuietTactic
import Derived.BigQuiet
import Derived.Test.YtlkoeeccebmjmaaGreatDoorXa
import Derived.Test.YtlkoeeccebmjmaaGreatDoorX17
set_option linter.unusedVariables false
set_option linter.unusedSimpArgs false
set_option maxRecDepth 100000
set_option maxHeartbeats 16000000
namespace Go.Proofs.YtlkoeeccebmjmaaGreatDoor.Path
open Go.RowKit Go.ZW.PrintWords Go.Proofs.YtlkoeeccebmjmaaGreatDoor.Base Go.Proofs.YtlkoeeccebmjmaaGreatDoor.Total Go.Proofs.YtlkoeeccebmjmaaGreatDoor.Ext Go.Proofs.YtlkoeeccebmjmaaGreatDoor.Lower Go.Proofs.YtlkoeeccebmjmaaGreatDoor.PCore
structure uH (x:WV):Prop where
 path:x.path.size≤1000000
 head:(L x.path)[0]? = some 47
 name:x.name.size≤x.path.size
 nEnd:x.nEnd≤x.name.size
 ext:x.ids≠[]→x.ext.size+1≤x.name.size
 extz:x.ext.size≤1000000
 ids:x.ids.length≤2000000
 unk:x.unk.length≤2000000
 langs:x.langs.length≤2000000
def slI (l:List UInt8) (n:Nat):Int:=match slB l n with | some j=>(j:Int) | none=>-1
theorem aDp (p:ByteArray) (hp:p.size≤1000000):∀ n:Nat,n≤p.size→Ev (fun k=>eR.l0 k p ((n:Int) - 1)) (slI (L p) n):=by
 have hl:=eD p;intro n
 induction n with
 | zero =>
  intro _;refine Ev.step (f:=fun _=>some (-1)) (fun k=>?_) (Ev.now _);simp only[eR.l0];rw[if_neg bA]
 | succ n ih =>
  intro h;have hn:n < (L p).length:=by omega
  have hb:=sN p n hn;have e:((n+1:Nat):Int) - 1=(n:Int):=by omega
  rw[e];unfold slI slB
  by_cases c:(L p)[n]=47
  ·rw[if_pos (by rw[List.getElem?_eq_getElem hn,c])];refine Ev.step (f:=fun _=>some (n:Int)) (fun k=>?_) (Ev.now _);simp only[eR.l0];rw[if_pos bA,if_pos bA,if_pos bA,if_pos (by rw[hb];exact (tS _ 47 bF).2 c)]
  rw[if_neg (by rw[List.getElem?_eq_getElem hn];intro h2;injection h2 with h2;exact c h2)];refine Ev.step (fun k=>?_) (ih bA);simp only[eR.l0];rw[if_pos bA,if_pos bA,if_pos bA,if_neg (by rw[hb];exact fun h2=>c ((tS _ 47 bF).1 h2)),w64 bA bA]
theorem xI (p:ByteArray) (hp:p.size≤1000000):Ev (fun k=>eR.f k p (p.size:Int)) (slI (L p) p.size):=by
 refine Ev.congr (fun k=>?_) (aDp p hp p.size (Nat.le_refl _));unfold eR.f;rw[w64 bA bA]
theorem vI (l:List UInt8):∀ (n j:Nat),slB l n=some j→j < n
 | 0,j,h=>by cases h
 | n+1,j,h=>by
  unfold slB at h;split at h
  ·injection h with h;omega
  have:=vI l n j h;omega
theorem aB7 (p:ByteArray) (hp:p.size≤1000000):Ev (fun k=>kD.f k p) (hL p):=by
 unfold kD.f;refine Ev.bind (xI p hp) ?_;unfold hL slI
 cases h:slB (L p) p.size with
 | none=>dsimp only;exact Ev.congr (fun k=>by rw[if_pos bA]) (Ev.now _)
 | some j =>
  have:=vI _ _ _ h
  cases j with
  | zero=>dsimp only;exact Ev.congr (fun k=>by rw[if_pos bA]) (Ev.now _)
  | succ a=>dsimp only;exact Ev.congr (fun k=>by rw[if_neg bA,if_pos bA,if_pos bA];rfl) (Ev.now _)
theorem zU (p:ByteArray) (hp:p.size≤1000000) (h0:(L p)[0]? = some 47):Ev (fun k=>jD.f k p) (jB p):=by
 unfold jD.f;refine Ev.bind (xI p hp) ?_;unfold jB slI
 cases h:slB (L p) p.size with
 | none=>dsimp only;exact Ev.congr (fun k=>by rw[if_pos bA]) (Ev.now _)
 | some j =>
  have hj:=vI _ _ _ h
  cases j with
  | zero=>dsimp only;exact Ev.congr (fun k=>by rw[if_pos bA]) (Ev.now _)
  | succ a =>
   dsimp only
   have hz:(p.extract 0 (a+1)).size≤1000000:=by rw[ByteArray.size_extract];omega
   obtain ⟨r,hr,h1,_,_⟩:=oS (p.extract 0 (a+1)) hz ⟨0,by rw[eN,List.drop_zero,List.getElem?_take_of_lt bA];exact h0⟩;have:r=lastB (p.extract 0 (a+1)):=L_inj (h1.trans (jQ _).symm);subst this;refine Ev.congr (fun k=>?_) (Ev.bind hr (Ev.now _));rw[if_neg bA,if_pos bA,if_pos bA];rfl
theorem tV (t:Int):iC.f t=some (jL t):=by
 unfold iC.f jL
 by_cases c:3≤t
 ·rw[if_pos c];congr 1;exact decide_eq_decide.2 ⟨fun h=>⟨c,h⟩,fun h=>h.2⟩
 rw[if_neg c];congr 1;exact (decide_eq_false (fun h=>c h.1)).symm
section
variable {x:WV} (O:uH x)
include O
theorem aAl:lK.f x.comp x.path x.name (x.nEnd:Int) x.ids x.unk x.langs x.ext x.fmt x.kind x.lay x.lang x.cust x.dis x.typ=some (qV x):=by
 have:=O.name;have:=O.path;unfold lK.f qV;rw[w64 bA bA,if_pos bA,if_pos bA];congr 2;omega
omit O in
theorem head_size (x:WV):(qV x).size≤x.path.size:=by unfold qV;rw[ByteArray.size_extract];omega
theorem aAt:gB.f x.comp x.path x.name (x.nEnd:Int) x.ids x.unk x.langs x.ext x.fmt x.kind x.lay x.lang x.cust x.dis x.typ=some (kE x):=by
 have h1:=O.name;have h2:=O.path;have h3:=O.nEnd;have h4:=head_size x;unfold gB.f kE
 by_cases c:x.ids=[]
 ·rw[if_pos (by rw[c];rfl),if_pos c]
 rw[if_neg (by intro h;exact c (List.eq_nil_of_length_eq_zero bA)),if_neg c,aAl O,Option.bind_some,if_pos bA,if_pos bA,Int.toNat_natCast,if_pos (by rw[ByteArray.size_extract];omega)]
theorem aGs:(kE x).size≤2000000:=by
 have h1:=O.name;have h2:=O.path;have h4:=head_size x;unfold kE;split
 ·omega
 rw[size_append,ByteArray.size_extract];omega
theorem aD5:jE.f x.comp x.path x.name (x.nEnd:Int) x.ids x.unk x.langs x.ext x.fmt x.kind x.lay x.lang x.cust x.dis x.typ=some (mG x):=by
 have h1:=O.name;have h2:=O.path;have h3:=O.nEnd;have h4:=head_size x;have h5:=O.extz;have hd:(⟨#[46]⟩:ByteArray).size=1:=rfl;unfold jE.f mG
 by_cases c:x.lang=⟨#[]⟩
 ·rw[if_pos (by rw[c,L_toList];rfl),if_pos c]
 rw[if_neg (fun h=>c (L_inj (by rw[← L_toList,h];rfl))),if_neg c,aAl O,Option.bind_some,if_pos bA,if_pos bA,Int.toNat_natCast,if_pos (by rw[ByteArray.size_extract];omega),if_pos (by rw[size_append,ByteArray.size_extract];omega),if_pos (by rw[size_append,size_append,ByteArray.size_extract];omega)]
theorem aDg (s:ByteArray) (hs:s.size≤1000000) (hn:x.name.size≤s.size):mF.f x.comp x.path x.name (x.nEnd:Int) x.ids x.unk x.langs x.ext x.fmt x.kind x.lay x.lang x.cust x.dis x.typ s=some (kH x s):=by
 have h5:=O.extz;unfold mF.f kH
 by_cases c:x.ids=[]
 ·rw[if_pos (by rw[c];rfl),if_pos c]
 have h6:=O.ext c;rw[if_neg (by intro h;exact c (List.eq_nil_of_length_eq_zero bA)),if_neg c,w64 (n:=(s.size:Int) - (x.ext.size:Int)) bA bA,w64 bA bA,if_pos bA,if_pos bA];congr 2;omega
theorem tD (b:Bool):Ev (fun k=>gM.j0 k b x.comp x.path x.name (x.nEnd:Int) x.ids x.unk x.langs x.ext x.fmt x.kind x.lay x.lang x.cust x.dis x.typ) (if b=true then ⟨#[]⟩ else if x.ids=[] then x.path else if jL x.typ=true then (if hL x.path=⟨#[47]⟩ then ⟨#[]⟩ else hL x.path) else if x.typ=2 then kE x else if x.ids.length=1 then x.path else kE x++⟨#[46]⟩++x.ext):=by
 have h5:=O.extz;have h6:=aGs O;have hd:(⟨#[46]⟩:ByteArray).size=1:=rfl
 have e0:(x.ids.length:Int)=0↔x.ids=[]:=⟨fun h=>List.eq_nil_of_length_eq_zero bA,fun h=>by rw[h];rfl⟩
 have e1:(hL x.path).toList=([47]:List UInt8)↔hL x.path=⟨#[47]⟩:=⟨fun h=>L_inj (by rw[← L_toList,h];rfl),fun h=>by rw[h,L_toList];rfl⟩
 refine Ev.step (f:=fun k=>_) (fun k=>rfl) ?_;simp only[gM.j0]
 cases b with
 | true=>exact Ev.now _
 | false =>
  simp only[Bool.false_eq_true,if_false]
  by_cases c:x.ids=[]
  ·simp only[if_pos (e0.2 c),if_pos c];exact Ev.now _
  simp only[if_neg (fun h=>c (e0.1 h)),if_neg c,tV,Option.bind_some]
  by_cases c2:jL x.typ=true
  ·simp only[if_pos c2];refine Ev.bind (aB7 x.path O.path) ?_
   by_cases c3:hL x.path=⟨#[47]⟩
   ·simp only[if_pos (e1.2 c3),if_pos c3];exact Ev.now _
   simp only[if_neg (fun h=>c3 (e1.1 h)),if_neg c3];exact Ev.now _
  simp only[if_neg c2,aAt O,Option.bind_some]
  by_cases c4:x.typ=2
  ·simp only[if_pos c4];exact Ev.now _
  simp only[if_neg c4]
  by_cases c5:x.ids.length=1
  ·simp only[if_pos (show (x.ids.length:Int)=1 by omega),if_pos c5];exact Ev.now _
  simp only[if_neg (show ¬ (x.ids.length:Int)=1 by omega),if_neg c5];rw[show (fun (_:Nat)=>if (kE x).size+1≤9223372036854775807 then if (kE x++(⟨#[46]⟩:ByteArray)).size+x.ext.size≤9223372036854775807 then some ((kE x++(⟨#[46]⟩:ByteArray))++x.ext) else none else none)=fun _=>some (kE x++⟨#[46]⟩++x.ext) from by funext _;rw[if_pos bA,if_pos (by rw[size_append];omega)]];exact Ev.now _
theorem aGe:Ev (fun k=>gM.f k x.comp x.path x.name (x.nEnd:Int) x.ids x.unk x.langs x.ext x.fmt x.kind x.lay x.lang x.cust x.dis x.typ) (lL x):=by
 have e0:(x.ids.length:Int)=0↔x.ids=[]:=⟨fun h=>List.eq_nil_of_length_eq_zero bA,fun h=>by rw[h];rfl⟩
 have e1:x.path.toList=([47]:List UInt8)↔x.path=⟨#[47]⟩:=⟨fun h=>L_inj (by rw[← L_toList,h];rfl),fun h=>by rw[h,L_toList];rfl⟩
 unfold gM.f lL
 by_cases c:x.ids=[]
 ·simp only[if_pos (e0.2 c),if_pos c]
  by_cases c1:x.path=⟨#[47]⟩
  ·simp only[if_pos (e1.2 c1)]
   by_cases c2:x.typ≥2
   ·simp only[if_pos c2];have h:=tD O (decide (x.typ≤5));rw[if_pos c] at h
    by_cases c3:x.typ≤5
    ·rw[if_pos (decide_eq_true c3)] at h;rw[if_pos ⟨c1,c2,c3⟩];exact h
    rw[if_neg (by rw[decide_eq_false c3];decide)] at h;rw[if_neg (fun h2=>c3 h2.2.2)];exact h
   simp only[if_neg c2];have h:=tD O false;rw[if_neg bF,if_pos c] at h;rw[if_neg (fun h2=>c2 h2.2.1)];exact h
  simp only[if_neg (fun h=>c1 (e1.1 h))];have h:=tD O false;rw[if_neg bF,if_pos c] at h;rw[if_neg (fun h2=>c1 h2.1)];exact h
 simp only[if_neg (fun h=>c (e0.1 h)),if_neg c];have h:=tD O false;rw[if_neg bF,if_neg c] at h;exact h
end
theorem aHe (d:List UInt8) (k:Nat) (h:k < d.length):jG (d.take (k+1))=jG (d.take k)+if d[k]=47 then 1 else 0:=by
 unfold jG;rw[List.take_succ_eq_append_getElem h,List.filter_append,List.length_append];congr 1
 by_cases c:d[k]=47
 ·rw[if_pos c];simp[c]
 rw[if_neg c];simp[c]
theorem uA:∀ l:List UInt8,(∀ x∈l,(x != 47)=true)→(l.takeWhile fun c=>c != 47)=l
 | [],_=>rfl
 | a::r,h=>by
  rw[List.takeWhile_cons,if_pos (h a (List.mem_cons_self ..)),uA r (fun x hx=>h x (List.mem_cons_of_mem _ hx))]
def rI (p:ByteArray):ByteArray:=⟨(((L p).drop 1).takeWhile fun c=>c != 47).toArray⟩
structure aG9 (p:ByteArray) (i fr:Nat) (out:List ByteArray):Prop where
 f1:1≤fr
 fi:fr≤i
 len:out.length=jG (((L p).drop 1).take (i - 1))
 none:out=[]→fr=1∧∀ j:Nat,j < i - 1→((L p).drop 1)[j]?≠some 47
 some_:out≠[]→out.head? = some (rI p)
theorem aEb (p:ByteArray) (hp:p.size≤1000000):∀ (n i fr:Nat) (out:List ByteArray),p.size - i=n→1≤i→i≤p.size→aG9 p i fr out→PEv (fun r=>r.length=jG ((L p).drop 1)+1∧r.head? = some (rI p)) (fun k=>eX.l0 k p out (fr:Int) (i:Int)):=by
 have hl:=eD p;have hd:((L p).drop 1).length=p.size - 1:=by rw[List.length_drop,hl]
 intro n
 induction n with
 | zero =>
  intro i fr out h1 h2 h3 I;have hi:i=p.size:=by omega
  have f1:=I.f1;have fi:=I.fi
  have ho:out.length≤1000000:=by
   rw[I.len];unfold jG;exact Nat.le_trans (List.length_filter_le _ _) (by rw[List.length_take];omega)
  refine PEv.succ ?_
  have e:(fun k=>eX.l0 (k+1) p out (fr:Int) (i:Int))=fun k=>eX.l0 k p (out++[p.extract fr i]) ((i+1:Nat):Int) ((i+1:Nat):Int):=by
   funext k
   simp only[eX.l0];rw[if_pos bA,if_pos bA,if_pos bA,if_pos bA,if_pos bA,w64 bA bA];rfl
  rw[e];refine PEv.succ ?_
  have e2:(fun k=>eX.l0 (k+1) p (out++[p.extract fr i]) ((i+1:Nat):Int) ((i+1:Nat):Int))=fun _=>some (out++[p.extract fr i]):=by
   funext k
   simp only[eX.l0];rw[if_neg bA]
  rw[e2];refine PEv.now ⟨?_,?_⟩
  ·rw[List.length_append,I.len,List.take_of_length_le bA];rfl
  by_cases c:out=[]
  ·obtain ⟨g1,g2⟩:=I.none c;subst c g1;show some (p.extract 1 i)=_;congr 1;refine L_inj ((eN ..).trans (Eq.trans ?_ (jQ _).symm));rw[List.take_of_length_le bA];refine (uA _ fun x hx=>?_).symm;obtain ⟨j,hj,rfl⟩:=List.mem_iff_getElem.1 hx;have:=g2 j bA;rw[List.getElem?_eq_getElem hj] at this
   simpa using this
  have:=I.some_ c
  cases out with
  | nil=>exact absurd rfl c
  | cons a r=>exact this
 | succ n ih =>
  intro i fr out h1 h2 h3 I;have f1:=I.f1;have fi:=I.fi;have hi:i < (L p).length:=by omega
  have hb:=sN p i hi;have hk:i - 1 < ((L p).drop 1).length:=by omega
  have hg:((L p).drop 1)[i - 1]'hk=(L p)[i]:=by rw[List.getElem_drop];congr 1;omega
  have hc:=aHe ((L p).drop 1) (i - 1) hk;rw[hg,show i - 1+1=i+1 - 1 by omega] at hc
  have ho:out.length≤1000000:=by
   rw[I.len];unfold jG;exact Nat.le_trans (List.length_filter_le _ _) (by rw[List.length_take];omega)
  by_cases c:(L p)[i]=47
  ·rw[if_pos c] at hc
   have hf:out=[]→p.extract fr i=rI p:=by
    intro h;obtain ⟨g1,g2⟩:=I.none h;subst g1;refine L_inj ((eN ..).trans (Eq.trans ?_ (jQ _).symm));rw[rQ _ (i - 1) (by rw[List.getElem?_eq_getElem hk,hg,c]) (fun j hj=>g2 j hj)]
   have I2:aG9 p (i+1) (i+1) (out++[p.extract fr i]):=by
    refine ⟨aM,Nat.le_refl _,?_,fun h=>by simp at h,fun _=>?_⟩
    ·rw[hc,List.length_append,I.len];rfl
    by_cases c2:out=[]
    ·subst c2;exact congrArg some (hf rfl)
    have:=I.some_ c2
    cases out with
    | nil=>exact absurd rfl c2
    | cons a r=>exact this
   refine PEv.succ ?_
   have e:(fun k=>eX.l0 (k+1) p out (fr:Int) (i:Int))=fun k=>eX.l0 k p (out++[p.extract fr i]) ((i+1:Nat):Int) ((i+1:Nat):Int):=by
    funext k
    simp only[eX.l0];rw[if_pos bA,if_neg bA,if_pos bA,if_pos bA,if_pos (by rw[hb];exact (tS _ 47 bF).2 c),if_pos bA,if_pos bA,if_pos bA,w64 bA bA];rfl
   rw[e];exact ih (i+1) (i+1) _ bA bA bA I2
  rw[if_neg c] at hc
  have I2:aG9 p (i+1) fr out:=by
   refine ⟨f1,aM,by rw[hc];exact I.len,fun h=>⟨(I.none h).1,fun j hj=>?_⟩,I.some_⟩;rcases Nat.lt_or_ge j (i - 1) with h9 | h9
   ·exact (I.none h).2 j h9
   obtain rfl:j=i - 1:=by omega
   rw[List.getElem?_eq_getElem hk,hg];intro h2;injection h2 with h2;exact c h2
  refine PEv.succ ?_
  have e:(fun k=>eX.l0 (k+1) p out (fr:Int) (i:Int))=fun k=>eX.l0 k p out (fr:Int) ((i+1:Nat):Int):=by
   funext k
   simp only[eX.l0];rw[if_pos bA,if_neg bA,if_pos bA,if_pos bA,if_neg (by rw[hb];exact fun h2=>c ((tS _ 47 bF).1 h2)),w64 bA bA];rfl
  rw[e];exact ih (i+1) fr out bA bA bA I2
theorem aC5 (p:ByteArray) (hp:p.size≤1000000) (h0:(L p)[0]? = some 47):PEv (fun r=>r.length=jG ((L p).drop 1)+1∧r.head? = some (rI p)) (fun k=>eX.f k p):=by
 have h1:0 < p.size:=by rw[← eD];exact (List.getElem?_eq_some_iff.1 h0).1
 refine aEb p hp (p.size - 1) 1 1 [] rfl (Nat.le_refl _) bA ⟨Nat.le_refl _,Nat.le_refl _,rfl,fun _=>⟨rfl,fun j hj=>absurd hj bA⟩,fun h=>absurd rfl h⟩
theorem aB9 {x:WV} (O:uH x):Ev (fun k=>jO.f k x.comp x.path x.name (x.nEnd:Int) x.ids x.unk x.langs x.ext x.fmt x.kind x.lay x.lang x.cust x.dis x.typ) (qN x.path x.typ):=by
 obtain ⟨r,hr,h1,h2⟩:=aC5 x.path O.path O.head
 have hsec:qN x.path x.typ=if (r.length:Int) < 2 then ⟨#[]⟩ else if (r.length:Int)=2 then (if x.typ=3 then ⟨#[]⟩ else rI x.path) else rI x.path:=by
  unfold qN
  by_cases c:jG ((L x.path).drop 1)=0
  ·rw[if_pos (.inl c),if_pos bA]
  rw[if_neg (show ¬ (r.length:Int) < 2 by omega)]
  by_cases c2:jG ((L x.path).drop 1)=1
  ·rw[if_pos (show (r.length:Int)=2 by omega)]
   by_cases c3:x.typ=3
   ·rw[if_pos (.inr ⟨c2,c3⟩),if_pos c3]
   rw[if_neg (fun h=>h.elim c (fun h=>c3 h.2)),if_neg c3];rfl
  rw[if_neg (show ¬ (r.length:Int)=2 by omega),if_neg (fun h=>h.elim c (fun h=>c2 h.1))];rfl
 have hrd:iB ByteArray.empty r 0=rI x.path:=by
  cases r with
  | nil=>cases h2
  | cons a t=>injection h2
 have hpos:0 < (r.length:Int):=by omega
 unfold jO.f;refine Ev.bind hr ?_;rw[hsec,hrd];simp only[if_pos hpos]
 by_cases c1:(r.length:Int) < 2
 ·simp only[if_pos c1];exact Ev.now _
 simp only[if_neg c1]
 by_cases c2:(r.length:Int)=2
 ·simp only[if_pos c2]
  by_cases c3:x.typ=3
  ·simp only[if_pos c3];exact Ev.now _
  simp only[if_neg c3];exact Ev.now _
 simp only[if_neg c2];exact Ev.now _
theorem fA.kd2 {w:World} {A:Option Addr} {c:Nat} {l:List ByteArray} (H:fA w 0 (.slice A l.length c) l) (hl:l.length≤9223372036854775807):l.length≤c∧Kd.C Kd.string w A l.length l:=by
 obtain ⟨A',c',e,h1,h2⟩:=H.kd hl;injection e with e1 e2 e3
 subst e1 e3;exact ⟨h1,h2⟩
theorem aDk (p:ByteArray) (hp:p.size≤1000000) (w:World):Calls Tryz.prog 101 #[.string p] w fun e w'=>e = .returned (.string (hL p))∧Below w.heap.size w w':=by
 obtain ⟨k,hk⟩:=(aB7 p hp).rounds
 exact (kD.calls k p _ w hk).mono fun _ _ ⟨h1,h2⟩=>⟨h1,dO⟩
theorem wD (p:ByteArray) (hp:p.size≤1000000) (h0:(L p)[0]? = some 47) (w:World):Calls Tryz.prog 102 #[.string p] w fun e w'=>e = .returned (.string (jB p))∧Below w.heap.size w w':=by
 obtain ⟨k,hk⟩:=(zU p hp h0).rounds
 exact (jD.calls k p _ w hk).mono fun _ _ ⟨h1,h2⟩=>⟨h1,dO⟩
theorem sP (t:Int) (w:World):Calls Tryz.prog 105 #[.int .i64 t] w fun e w'=>e = .returned (.bool (jL t))∧Below w.heap.size w w' :=
 (iC.calls t _ w (tV t)).mono fun _ _ ⟨h1,h2⟩=>⟨h1,dO⟩
theorem aEa (p:ByteArray) (hp:p.size≤1000000) (w:World):Calls Tryz.prog 106 #[.string p,.int .i64 (p.size:Int)] w fun e w'=>e = .returned (.int .i64 (slI (L p) p.size))∧Below w.heap.size w w':=by
 obtain ⟨k,hk⟩:=(xI p hp).rounds
 exact (eR.calls k p _ _ w hk).mono fun _ _ ⟨h1,h2⟩=>⟨h1,dO⟩
section
variable {w:World} {x:WV} {A0 A1 A2:Option Addr} {c0 c1 c2:Nat} (O:uH x) (S0:fA w 0 (.slice A0 x.ids.length c0) x.ids) (S1:fA w 0 (.slice A1 x.unk.length c1) x.unk) (S2:fA w 0 (.slice A2 x.langs.length c2) x.langs)
include O S0 S1 S2
theorem yY:Calls Tryz.prog 103 #[.agg #[.string x.comp,.string x.path,.string x.name,.int .i64 (x.nEnd:Int),.slice A0 x.ids.length c0,.slice A1 x.unk.length c1,.slice A2 x.langs.length c2,.string x.ext,.string x.fmt,.string x.kind,.string x.lay,.string x.lang,.string x.cust,.bool x.dis,.int .i64 x.typ]] w fun e w'=>e = .returned (.string (qN x.path x.typ))∧Below w.heap.size w w':=by
 have h0:=S0.kd2 (by have:=O.ids;omega);have h1:=S1.kd2 (by have:=O.unk;omega);have h2:=S2.kd2 (by have:=O.langs;omega);obtain ⟨k,hk⟩:=(aB9 O).rounds
 exact (jO.calls k x.comp x.path x.name (x.nEnd:Int) A0 c0 x.ids A1 c1 x.unk A2 c2 x.langs x.ext x.fmt x.kind x.lay x.lang x.cust x.dis x.typ _ w h0.2 h0.1 h1.2 h1.1 h2.2 h2.1 hk).mono fun _ _ ⟨h1,h2⟩=>⟨h1,dO⟩
theorem vA:Calls Tryz.prog 108 #[.agg #[.string x.comp,.string x.path,.string x.name,.int .i64 (x.nEnd:Int),.slice A0 x.ids.length c0,.slice A1 x.unk.length c1,.slice A2 x.langs.length c2,.string x.ext,.string x.fmt,.string x.kind,.string x.lay,.string x.lang,.string x.cust,.bool x.dis,.int .i64 x.typ]] w fun e w'=>e = .returned (.string (kE x))∧Below w.heap.size w w':=by
 have h0:=S0.kd2 (by have:=O.ids;omega);have h1:=S1.kd2 (by have:=O.unk;omega);have h2:=S2.kd2 (by have:=O.langs;omega)
 exact (gB.calls x.comp x.path x.name (x.nEnd:Int) A0 c0 x.ids A1 c1 x.unk A2 c2 x.langs x.ext x.fmt x.kind x.lay x.lang x.cust x.dis x.typ _ w h0.2 h0.1 h1.2 h1.1 h2.2 h2.1 (aAt O)).mono fun _ _ ⟨h1,h2⟩=>⟨h1,dO⟩
theorem aCr:Calls Tryz.prog 107 #[.agg #[.string x.comp,.string x.path,.string x.name,.int .i64 (x.nEnd:Int),.slice A0 x.ids.length c0,.slice A1 x.unk.length c1,.slice A2 x.langs.length c2,.string x.ext,.string x.fmt,.string x.kind,.string x.lay,.string x.lang,.string x.cust,.bool x.dis,.int .i64 x.typ]] w fun e w'=>e = .returned (.string (mG x))∧Below w.heap.size w w':=by
 have h0:=S0.kd2 (by have:=O.ids;omega);have h1:=S1.kd2 (by have:=O.unk;omega);have h2:=S2.kd2 (by have:=O.langs;omega)
 exact (jE.calls x.comp x.path x.name (x.nEnd:Int) A0 c0 x.ids A1 c1 x.unk A2 c2 x.langs x.ext x.fmt x.kind x.lay x.lang x.cust x.dis x.typ _ w h0.2 h0.1 h1.2 h1.1 h2.2 h2.1 (aD5 O)).mono fun _ _ ⟨h1,h2⟩=>⟨h1,dO⟩
theorem aBv:Calls Tryz.prog 109 #[.agg #[.string x.comp,.string x.path,.string x.name,.int .i64 (x.nEnd:Int),.slice A0 x.ids.length c0,.slice A1 x.unk.length c1,.slice A2 x.langs.length c2,.string x.ext,.string x.fmt,.string x.kind,.string x.lay,.string x.lang,.string x.cust,.bool x.dis,.int .i64 x.typ]] w fun e w'=>e = .returned (.string (lL x))∧Below w.heap.size w w':=by
 have h0:=S0.kd2 (by have:=O.ids;omega);have h1:=S1.kd2 (by have:=O.unk;omega);have h2:=S2.kd2 (by have:=O.langs;omega);obtain ⟨k,hk⟩:=(aGe O).rounds
 exact (gM.calls k x.comp x.path x.name (x.nEnd:Int) A0 c0 x.ids A1 c1 x.unk A2 c2 x.langs x.ext x.fmt x.kind x.lay x.lang x.cust x.dis x.typ _ w h0.2 h0.1 h1.2 h1.1 h2.2 h2.1 hk).mono fun _ _ ⟨h1,h2⟩=>⟨h1,dO⟩
theorem rU (s:ByteArray) (hs:s.size≤1000000) (hn:x.name.size≤s.size):Calls Tryz.prog 104 #[.agg #[.string x.comp,.string x.path,.string x.name,.int .i64 (x.nEnd:Int),.slice A0 x.ids.length c0,.slice A1 x.unk.length c1,.slice A2 x.langs.length c2,.string x.ext,.string x.fmt,.string x.kind,.string x.lay,.string x.lang,.string x.cust,.bool x.dis,.int .i64 x.typ],.string s] w fun e w'=>e = .returned (.string (kH x s))∧Below w.heap.size w w':=by
 have h0:=S0.kd2 (by have:=O.ids;omega);have h1:=S1.kd2 (by have:=O.unk;omega);have h2:=S2.kd2 (by have:=O.langs;omega)
 exact (mF.calls x.comp x.path x.name (x.nEnd:Int) A0 c0 x.ids A1 c1 x.unk A2 c2 x.langs x.ext x.fmt x.kind x.lay x.lang x.cust x.dis x.typ s _ w h0.2 h0.1 h1.2 h1.1 h2.2 h2.1 (aDg O s hs hn)).mono fun _ _ ⟨h1,h2⟩=>⟨h1,dO⟩
end
open Go.RowKit Go.ZW.PrintWords Go.Proofs.YtlkoeeccebmjmaaGreatDoor.Base
theorem aI0 {w:World} {B g n cap:Nat} {e:TypeId} {xs:List Value} (h:w.ownsRow B e 1 (.slice (some ⟨g,0,none⟩) n cap) n xs) (k:Nat) (x:Value) :
 (w.setCell ⟨g,k,none⟩ x).ownsRow B e 1 (.slice (some ⟨g,0,none⟩) n cap) n (xs.set k x):=by
 refine ⟨by rw[List.length_set];exact h.1,?_⟩;rcases h.2 with ⟨h1,_⟩ | ⟨g',cap',cur,h1,h2,h3,h4,h5,h6,h7⟩
 ·cases h1
 injection h1 with h1 _ h8
 injection h1 with h1
 injection h1 with h1
 subst h1 h8;refine .inr ⟨g,cap,cur.setIfInBounds k x,rfl,h2,?_,h4,h5,by rw[Array.size_setIfInBounds];exact h6,?_⟩
 ·unfold World.setCell;simp only[Array.getElem?_modify];rw[if_pos trivial,h3];rfl
 rw[Array.toList_setIfInBounds,List.take_set,h7]
def upd {α:Type} (f:Fin 4→α) (i:Fin 4) (v:α):Fin 4→α:=fun j=>if j=i then v else f j
theorem upd_same {α:Type} (f:Fin 4→α) (i:Fin 4) (v:α):upd f i v i=v:=if_pos rfl
theorem nM {α:Type} (f:Fin 4→α) {i j:Fin 4} (v:α) (h:j≠i):upd f i v j=f j:=if_neg h
def rty (i:Fin 4):TypeId:=if i=3 then 3 else 9
structure nN (w:World) (B b:Nat) (V:Fin 4→Value) (X:Fin 4→List Value):Prop where
 own:∀ i,w.ownsRow B (rty i) 1 (V i) (X i).length (X i)
 nb:∀ i,some b≠(V i).ownBlock
 apart:∀ i j,i≠j→(V i).ownBlock=none∨(V i).ownBlock≠(V j).ownBlock
section
variable {w w' : World} {B b:Nat} {V:Fin 4→Value} {X:Fin 4→List Value}
theorem nN.kept (H:nN w B b V X) (h:∀ k,k < w.heap.size→B≤k→w'.heap[k]? = w.heap[k]?):nN w' B b V X:=by
 refine ⟨fun i=>?_,H.nb,H.apart⟩;have h1:=H.own i;refine ⟨h1.1,?_⟩;rcases h1.2 with hn | ⟨g,cap,cur,h0,hB,hgg,rest⟩
 ·exact .inl hn
 exact .inr ⟨g,cap,cur,h0,hB,(h g (Array.getElem?_eq_some_iff.1 hgg).1 hB).trans hgg,rest⟩
theorem nN.store (H:nN w B b V X) (c:Nat) (v:Value):nN (w.setCell ⟨b,c,none⟩ v) B b V X :=
 ⟨fun i=>ownsRow_setCell_other (H.own i) (a:=⟨b,c,none⟩) (fun e=>H.nb i e.symm) v,H.nb,H.apart⟩
theorem nN.add (H:nN w B b V X) (hb:b < w.heap.size) (i:Fin 4) (x:Value) {v1:Value} (c:Nat) (ho:w'.ownsRow B (rty i) 1 v1 ((X i).length+1) (X i++[x])) (hg:w.grownBy w' (V i).ownBlock)
 (hat:v1.ownBlock=(V i).ownBlock∨∃ k,v1.ownBlock=some k∧w.heap.size≤k):nN (w'.setCell ⟨b,c,none⟩ v1) B b (upd V i v1) (upd X i (X i++[x])):=by
 have hb1:some b≠v1.ownBlock:=by
  rcases hat with h | ⟨k,h,hk⟩
  ·rw[h];exact H.nb i
  rw[h];intro e;injection e with e;omega
 have far:∀ j,j≠i→w'.ownsRow B (rty j) 1 (V j) (X j).length (X j)∧((V j).ownBlock=none∨(V j).ownBlock≠v1.ownBlock):=fun j hj=>pU (H.own j) hg (H.apart j i hj) hat
 have flip:∀ j,j≠i→v1.ownBlock=none∨v1.ownBlock≠(V j).ownBlock:=by
  intro j hj;rcases (far j hj).2 with h | h
  ·cases hv:v1.ownBlock with
   | none=>exact .inl rfl
   | some k=>exact .inr (by rw[h];intro e;cases e)
  exact .inr fun e=>h e.symm
 refine ⟨fun j=>?_,fun j=>?_,fun j k hjk=>?_⟩
 ·by_cases hj:j=i
  ·subst hj;rw[upd_same,upd_same,List.length_append];exact ownsRow_setCell_other ho (a:=⟨b,c,none⟩) (fun e=>hb1 e.symm) v1
  rw[nM _ _ hj,nM _ _ hj];exact ownsRow_setCell_other (far j hj).1 (a:=⟨b,c,none⟩) (fun e=>H.nb j e.symm) v1
 ·by_cases hj:j=i
  ·subst hj;rw[upd_same];exact hb1
  rw[nM _ _ hj];exact H.nb j
 by_cases hj:j=i
 ·subst hj;rw[upd_same,nM _ _ (fun e=>hjk e.symm)];exact flip k (fun e=>hjk e.symm)
 rw[nM _ _ hj]
 by_cases hk:k=i
 ·subst hk;rw[upd_same];exact (far j hj).2
 rw[nM _ _ hk];exact H.apart j k hjk
theorem nN.put (H:nN w B b V X) (i:Fin 4) {g cap:Nat} (hv:V i = .slice (some ⟨g,0,none⟩) (X i).length cap) (k:Nat) (x:Value):nN (w.setCell ⟨g,k,none⟩ x) B b V (upd X i ((X i).set k x)):=by
 have hg:(V i).ownBlock=some g:=by rw[hv];rfl
 refine ⟨fun j=>?_,H.nb,H.apart⟩
 by_cases hj:j=i
 ·subst hj;rw[upd_same,List.length_set];have:=H.own j;rw[hv] at this ⊢;exact aI0 this k x
 rw[nM _ _ hj];refine ownsRow_setCell_other (H.own j) (a:=⟨g,k,none⟩) ?_ x;rcases H.apart j i hj with h | h
 ·rw[h];intro e;cases e
 rw[hg] at h;exact h
end
structure gZ (w w' : World) (b:Nat) (V V' : Fin 4→Value):Prop where
 os:w'.os=w.os
 tape:w'.tape=w.tape
 output:w'.output=w.output
 size:w.heap.size≤w'.heap.size
 block:∀ k,k < w.heap.size→k≠b→(∀ i,some k≠(V i).ownBlock)→w'.heap[k]? = w.heap[k]?
 at_:∀ i,(V' i).ownBlock=(V i).ownBlock∨∃ k,(V' i).ownBlock=some k∧w.heap.size≤k
section
variable {w w' w'' : World} {B b:Nat} {V V' V'' : Fin 4→Value} {X:Fin 4→List Value}
theorem gZ.refl (w:World) (b:Nat) (V:Fin 4→Value):gZ w w b V V:=⟨rfl,rfl,rfl,Nat.le_refl _,fun _ _ _ _=>rfl,fun _=>.inl rfl⟩
theorem gZ.of_below (h:Below w.heap.size w w'):gZ w w' b V V:=⟨h.os,h.tape,h.output,h.size,fun k hk _ _=>h.block k hk,fun _=>.inl rfl⟩
theorem gZ.trans (h:gZ w w' b V V') (g:gZ w' w'' b V' V''):gZ w w'' b V V'' :=
 ⟨g.os.trans h.os,g.tape.trans h.tape,g.output.trans h.output,Nat.le_trans h.size g.size,
  fun k hk hb h1=>(g.block k (Nat.lt_of_lt_of_le hk h.size) hb (fun i=>nO (h.at_ i) hk (h1 i))).trans (h.block k hk hb h1),
  fun i=>rW (h.at_ i) (g.at_ i) h.size⟩
theorem gZ.below (H:nN w B b V X) (hB:B≤b) (hb:b < w.heap.size) (h:gZ w w' b V V'):Below B w w' :=
 ⟨h.os,h.tape,h.output,h.size,fun k hk=>h.block k bA bA (fun i=>pP (H.own i) hk)⟩
end
structure RdK where
 comp:ByteArray
 path:ByteArray
 name:ByteArray
 nEnd:Int
 lang:ByteArray
 typ:Int
 s0:Value
 s1:Value
 s2:Value
 s3:Value
 lay:Bool
 short:Bool
 pts:Int
def pK (K:RdK) (r:RV) (V:Fin 4→Value):List Value :=
 [.string K.comp,.string K.path,.string K.name,.int .i64 K.nEnd,V 0,V 1,V 2,.string r.ext,.string r.fmt,.string r.kind,.string r.lay,.string K.lang,.string r.cust,.bool r.dis,.int .i64 K.typ,K.s0,K.s1,K.s2,K.s3,.bool K.lay,.bool K.short,.int .i64 K.pts,V 3,.string r.lang1,.string r.fmt1,.string r.kind1,.string r.lay1,.bool r.hasLang,.bool r.hasKind,.bool r.baseof,.int .i64 r.layAt]
def rX (r:RV) (i:Fin 4):List Value:=match i with
 | 0=>r.ids.map Value.string
 | 1=>r.unk.map Value.string
 | 2=>r.langs.map Value.string
 | 3=>r.marks.map (Value.int .i64)
structure hE (w:World) (B b:Nat) (K:RdK) (r:RV) (V:Fin 4→Value):Prop where
 base:B≤b
 row:Row w b (pK K r V)
 rows:nN w B b V (rX r)
section
variable {w w' : World} {B b:Nat} {K:RdK} {r:RV} {V V' : Fin 4→Value}
theorem hE.lt (H:hE w B b K r V):b < w.heap.size:=H.row.lt bN
theorem hE.below (H:hE w B b K r V) (hb:Below w.heap.size w w'):hE w' B b K r V:=⟨H.base,H.row.below hb H.lt,H.rows.kept fun k hk _=>hb.block k hk⟩
theorem hE.moved (H:hE w B b K r V) (h:gZ w w' b V V'):Below B w w':=h.below H.rows H.base H.lt
theorem hE.put (H:hE w B b K r V) (c:Nat) (v:Value) (K' : RdK) (r' : RV) (hc:(pK K r V).set c v=pK K' r' V) (hx:rX r'=rX r) (hk:c < 31) :
 hE (w.setCell ⟨b,c,none⟩ v) B b K' r' V∧gZ w (w.setCell ⟨b,c,none⟩ v) b V V:=by
 have hr:=H.row.set c v (by simpa [pK] using hk);rw[hc] at hr;exact ⟨⟨H.base,hr,hx▸H.rows.store c v⟩,rfl,rfl,rfl,dV,fun j _ hb _=>Below.heap_setCell _ _ _ _ (by simpa using hb),fun _=>.inl rfl⟩
theorem hE.add (H:hE w B b K r V) (i:Fin 4) (x:Value) {v1:Value} (c:Nat) (r' : RV) (ho:w'.ownsRow B (rty i) 1 v1 ((rX r i).length+1) (rX r i++[x])) (hg:w.grownBy w' (V i).ownBlock)
 (hat:v1.ownBlock=(V i).ownBlock∨∃ k,v1.ownBlock=some k∧w.heap.size≤k) (hc:(pK K r V).set c v1=pK K r' (upd V i v1)) (hx:rX r'=upd (rX r) i (rX r i++[x])) (hk:c < 31) :
 hE (w'.setCell ⟨b,c,none⟩ v1) B b K r' (upd V i v1)∧gZ w (w'.setCell ⟨b,c,none⟩ v1) b V (upd V i v1):=by
 have hr:=(H.row.grown hg H.lt (H.rows.nb i)).set c v1 (by simpa [pK] using hk);rw[hc] at hr;refine ⟨⟨H.base,hr,hx▸H.rows.add H.lt i x c ho hg hat⟩,hg.os,hg.tape,hg.output,by simpa using hg.size,fun k hk hb h1=>(Below.heap_setCell _ _ _ _ (by simpa using hb)).trans (hg.block k hk (h1 i)),fun j=>?_⟩
 by_cases hj:j=i
 ·subst hj;rw[upd_same];exact hat
 rw[nM _ _ hj];exact .inl rfl
theorem aJj (r:RV) (t:ByteArray):rX { r with ids:=r.ids++[t] }=upd (rX r) 0 (rX r 0++[.string t]):=by
 funext i
 match i with
 | 0=>rw[upd_same];exact List.map_append
 | 1=>rfl
 | 2=>rfl
 | 3=>rfl
theorem aJk (r:RV) (t:ByteArray):rX { r with unk:=r.unk++[t] }=upd (rX r) 1 (rX r 1++[.string t]):=by
 funext i
 match i with
 | 0=>rfl
 | 1=>rw[upd_same];exact List.map_append
 | 2=>rfl
 | 3=>rfl
theorem aHy (r:RV) (t:ByteArray):rX { r with langs:=r.langs++[t] }=upd (rX r) 2 (rX r 2++[.string t]):=by
 funext i
 match i with
 | 0=>rfl
 | 1=>rfl
 | 2=>rw[upd_same];exact List.map_append
 | 3=>rfl
theorem aHz (r:RV) (k:Int):rX { r with marks:=r.marks++[k] }=upd (rX r) 3 (rX r 3++[.int .i64 k]):=by
 funext i
 match i with
 | 0=>rfl
 | 1=>rfl
 | 2=>rfl
 | 3=>rw[upd_same];exact List.map_append
theorem hE.addIds (H:hE w B b K r V) (t:ByteArray) {v1:Value} (ho:w'.ownsRow B 9 1 v1 (r.ids.length+1) (r.ids.map Value.string++[.string t])) (hg:w.grownBy w' (V 0).ownBlock)
 (hat:v1.ownBlock=(V 0).ownBlock∨∃ k,v1.ownBlock=some k∧w.heap.size≤k):hE (w'.setCell ⟨b,4,none⟩ v1) B b K { r with ids:=r.ids++[t] } (upd V 0 v1)∧gZ w (w'.setCell ⟨b,4,none⟩ v1) b V (upd V 0 v1) :=
 H.add 0 (.string t) 4 _ (by show w'.ownsRow B 9 1 v1 ((r.ids.map Value.string).length+1) _;rw[List.length_map];exact ho) hg hat rfl (aJj r t) bF
theorem hE.addUnk (H:hE w B b K r V) (t:ByteArray) {v1:Value} (ho:w'.ownsRow B 9 1 v1 (r.unk.length+1) (r.unk.map Value.string++[.string t])) (hg:w.grownBy w' (V 1).ownBlock)
 (hat:v1.ownBlock=(V 1).ownBlock∨∃ k,v1.ownBlock=some k∧w.heap.size≤k):hE (w'.setCell ⟨b,5,none⟩ v1) B b K { r with unk:=r.unk++[t] } (upd V 1 v1)∧gZ w (w'.setCell ⟨b,5,none⟩ v1) b V (upd V 1 v1) :=
 H.add 1 (.string t) 5 _ (by show w'.ownsRow B 9 1 v1 ((r.unk.map Value.string).length+1) _;rw[List.length_map];exact ho) hg hat rfl (aJk r t) bF
theorem hE.addLangs (H:hE w B b K r V) (t:ByteArray) {v1:Value} (ho:w'.ownsRow B 9 1 v1 (r.langs.length+1) (r.langs.map Value.string++[.string t])) (hg:w.grownBy w' (V 2).ownBlock)
 (hat:v1.ownBlock=(V 2).ownBlock∨∃ k,v1.ownBlock=some k∧w.heap.size≤k):hE (w'.setCell ⟨b,6,none⟩ v1) B b K { r with langs:=r.langs++[t] } (upd V 2 v1)∧gZ w (w'.setCell ⟨b,6,none⟩ v1) b V (upd V 2 v1) :=
 H.add 2 (.string t) 6 _ (by show w'.ownsRow B 9 1 v1 ((r.langs.map Value.string).length+1) _;rw[List.length_map];exact ho) hg hat rfl (aHy r t) bF
theorem hE.addMarks (H:hE w B b K r V) (k:Int) {v1:Value} (ho:w'.ownsRow B 3 1 v1 (r.marks.length+1) (r.marks.map (Value.int .i64)++[.int .i64 k])) (hg:w.grownBy w' (V 3).ownBlock)
 (hat:v1.ownBlock=(V 3).ownBlock∨∃ k,v1.ownBlock=some k∧w.heap.size≤k):hE (w'.setCell ⟨b,22,none⟩ v1) B b K { r with marks:=r.marks++[k] } (upd V 3 v1)∧gZ w (w'.setCell ⟨b,22,none⟩ v1) b V (upd V 3 v1) :=
 H.add 3 (.int .i64 k) 22 _ (by show w'.ownsRow B 3 1 v1 ((r.marks.map (Value.int .i64)).length+1) _;rw[List.length_map];exact ho) hg hat rfl (aHz r k) bF
theorem map_set {α:Type} (f:α→Value):∀ (l:List α) (k:Nat) (t:α),(l.set k t).map f=(l.map f).set k (f t)
 | [],_,_=>rfl
 | _::_,0,_=>rfl
 | x::l,k+1,t=>by simp[map_set f l k t]
theorem hE.setId (H:hE w B b K r V) (k:Nat) (hk:k < r.ids.length) (t:ByteArray):∃ g cap,V 0 = .slice (some ⟨g,0,none⟩) r.ids.length cap∧w.cell? ⟨g,k,none⟩=some (.string (r.ids[k]'hk))∧w.frozen? ⟨g,k,none⟩=false ∧
 hE (w.setCell ⟨g,k,none⟩ (.string t)) B b K { r with ids:=r.ids.set k t } V∧gZ w (w.setCell ⟨g,k,none⟩ (.string t)) b V V:=by
 have h:=H.rows.own 0;rcases h.2 with ⟨_,h0⟩ | ⟨g,cap,cur,h1,h2,h3,h4,h5,h6,h7⟩
 ·have:(r.ids.map Value.string).length=0:=h0;rw[List.length_map] at this;omega
 have hl:(rX r 0).length=r.ids.length:=List.length_map _
 have hne:g≠b:=by
  have:=H.rows.nb 0;rw[h1] at this;intro e;subst e;exact this rfl
 rw[hl] at h1 h4 h7;have hcs:k < cur.size:=by rw[h6];omega
 have hcv:cur[k]? = some (.string (r.ids[k]'hk)):=by
  have e:(cur.toList.take (r.ids.length * 1))[k]? = (r.ids.map Value.string)[k]?:=by rw[h7];rfl
  rw[List.getElem?_take_of_lt bA,List.getElem?_map,List.getElem?_eq_getElem hk] at e;rw[← Array.getElem?_toList,e];rfl
 have hrows:=H.rows.put 0 (g:=g) (cap:=cap) (by rw[hl];exact h1) k (.string t);refine ⟨g,cap,h1,?_,?_,⟨H.base,H.row.other (a:=⟨g,k,none⟩) hne _,?_⟩,rfl,rfl,rfl,dV,fun j _ _ hj=>Below.heap_setCell _ _ _ _ ?_,fun _=>.inl rfl⟩
 ·unfold World.cell?;simp only[h3];exact hcv
 ·unfold World.frozen?;simp only[h3]
  simp
 ·have e:upd (rX r) 0 ((rX r 0).set k (.string t))=rX { r with ids:=r.ids.set k t }:=by
   funext i
   match i with
   | 0=>rw[upd_same];exact (map_set _ _ _ _).symm
   | 1=>rfl
   | 2=>rfl
   | 3=>rfl
  rw[← e];exact hrows
 have:=hj 0;rw[h1] at this;intro e;subst e;exact this rfl
end
open Go.RowKit Go.WideMaps Go.ZW.PrintWords Go.Proofs.YtlkoeeccebmjmaaGreatDoor.Base
theorem mA {P:Program} {ops:Array Oper} {rest:List Oper} {o:Oper} {a:Act} {Q:Exit→Act→World→Prop} {W:World} (hgd:o.guard=none) (base:Nat) (s x:Operand) (t e:TypeId) (z:Value) (size bytes:Nat)
 (ho:o.op = .call { callee:=.builtin .append,args:=#[s,x],argTypes:=#[t,t] })
 (ht:P.underlying t=some (.slice e)) (hinfo:(P.info? e).map (fun i=>(i.zero,i.size,i.bytes))=some (some z,size,bytes)) (hz:z.cells.size=size) (hs0:0 < size) (hb0:0 < bytes)
 (v:Value) (n:Nat) (xs ys:List Value) (hs:a.eval s=v) (hx:a.eval x = .slice (some ⟨W.heap.size,0,none⟩) 1 1) (hys:ys.length=size) (h1:∀ u∈ys,u.oneCell'=true)
 (HO:W.ownsRow base e size v n xs) (hbase:base≤W.heap.size) (hl:(n+1) * bytes≤140737488355328)
 (h:∀ v1 w1,w1.ownsRow base e size v1 (n+1) (xs++ys)→W.grownBy w1 v.ownBlock→(v1.ownBlock=v.ownBlock∨∃ b,v1.ownBlock=some b∧W.heap.size≤b)→wpList P ops Q rest (a.put o.dst v1) w1) :
 wpList P ops Q (o::rest) a (W.alloc (.cells ys.toArray e)):=by
 obtain ⟨i0,hi,hzz⟩:=Option.map_eq_some_iff.1 hinfo;simp only[Prod.mk.injEq] at hzz;obtain ⟨hz0,hz1,hz2⟩:=hzz;have hlen:n+1≤140737488355328:=Nat.le_trans (Nat.le_mul_of_pos_right _ hb0) hl
 refine wpList_append_own_at _ hgd s x t ho base e i0 z size bytes ht hi hz0 hz1 hz2 hz hs0 v n xs hs (HO.alloc _) ⟨W.heap.size,0,none⟩ 1 1 ys hx (by rw[hys];simp)
  (by simpa using World.news_of_block (cs:=ys.toArray) (t:=e) (fr:=(0,0)) (heap_alloc_new W (.cells ys.toArray e))) h1 (by simp only[maxLen];omega) hl (by simp;omega) ?_
 intro v1 w1 hown hg _ hat;refine h v1 w1 hown (World.grownBy.trans (World.grownBy_alloc W _ _) hg) ?_;rcases hat with hat | hat
 ·exact .inl hat
 exact .inr ⟨_,hat,dV⟩
theorem aGl:(Tryz.prog.info? 3).map (fun i=>(i.zero,i.size,i.bytes))=some (some (.int .i64 0),1,8):=by kernel_rfl
theorem yO:(Tryz.prog.info? 9).map (fun i=>(i.zero,i.size,i.bytes))=some (some (.string ⟨#[]⟩),1,16):=by kernel_rfl
section
variable {w:World} {B b:Nat} {K:RdK} {r:RV} {V:Fin 4→Value}
theorem hE.idsRow (H:hE w B b K r V):w.ownsRow B 9 1 (V 0) r.ids.length (r.ids.map Value.string):=by have h:=H.rows.own 0;rwa[show (rX r 0).length=r.ids.length from List.length_map _] at h
theorem hE.unkRow (H:hE w B b K r V):w.ownsRow B 9 1 (V 1) r.unk.length (r.unk.map Value.string):=by have h:=H.rows.own 1;rwa[show (rX r 1).length=r.unk.length from List.length_map _] at h
theorem hE.langsRow (H:hE w B b K r V):w.ownsRow B 9 1 (V 2) r.langs.length (r.langs.map Value.string):=by have h:=H.rows.own 2;rwa[show (rX r 2).length=r.langs.length from List.length_map _] at h
theorem hE.marksRow (H:hE w B b K r V):w.ownsRow B 3 1 (V 3) r.marks.length (r.marks.map (Value.int .i64)):=by have h:=H.rows.own 3;rwa[show (rX r 3).length=r.marks.length from List.length_map _] at h
theorem hE.far (H:hE w B b K r V) {w1:World} {i:Fin 4} (hg:w.grownBy w1 (V i).ownBlock) (c:Nat) (v:Value) (h:(pK K r V)[c]? = some v):w1.cell? ⟨b,c,none⟩=some v∧w1.frozen? ⟨b,c,none⟩=false:=by
 have hR:=H.row.grown hg H.lt (H.rows.nb i);exact ⟨hR.at c v h,hR.free c (List.getElem?_eq_some_iff.1 h).1⟩
theorem jH (H:hE w B b K r V) (text:ByteArray) (k:Int) (n1:r.ids.length≤1000000) (n2:r.marks.length≤1000000) :
 Calls Tryz.prog 112 #[.pointer (some ⟨b,0,none⟩),.string text,.int .i64 k] w fun e w'=>e = .returned (.tuple #[])∧∃ V',hE w' B b K (r.id text k) V'∧gZ w w' b V V':=by
 have HH:=bW H;have r4:=H.row.at 4 _ rfl;have o0:=bW H.idsRow;have hB:B≤w.heap.size:=Nat.le_trans H.base (Nat.le_of_lt H.lt)
 obtain ⟨v0,hv0⟩:∃ v,V 0=v:=⟨_,rfl⟩
 rw[hv0] at r4 o0;have HV0:=bW hv0;clear H hv0;go_enter Tryz.func112,Tryz.ntmps112
 go_wp2_with (first | (refine mA rfl B (.tmp 11) (.tmp 13) 22 9 _ 1 16 rfl Tryz.underlying22 yO rfl bF bF v0 r.ids.length (r.ids.map Value.string) [.string text] rfl rfl rfl bL o0.out hB bA ?_) | fail)
 intro v1 w1 ho hg ha;obtain ⟨A1,c1,ev1⟩:=fL ho;subst ev1;rw[← HV0.out] at hg ha;obtain ⟨q4,f4⟩:=HH.out.far hg 4 (V 0) rfl;obtain ⟨hR,hM⟩:=HH.out.addIds text ho hg ha;have HR:=bW hR;have HM:=bW hM;clear r4 o0 ho hg ha hR hM;go_upto_region 1 with fail
 obtain ⟨w2,hw2⟩:∃ w2,w1.setCell ⟨b,4,none⟩ (.slice A1 (r.ids.length+1) c1)=w2:=⟨_,rfl⟩
 rw[hw2] at HR HM ⊢;clear hw2 q4 f4
 obtain ⟨V2,hV2⟩:∃ V2,upd V 0 (.slice A1 (r.ids.length+1) c1)=V2:=⟨_,rfl⟩
 rw[hV2] at HR HM;clear hV2;have r22:=HR.out.row.at 22 _ rfl;have o3:=bW HR.out.marksRow;have hB2:B≤w2.heap.size:=Nat.le_trans HR.out.base (Nat.le_of_lt HR.out.lt)
 obtain ⟨v3,hv3⟩:∃ v,V2 3=v:=⟨_,rfl⟩
 rw[hv3] at r22 o3;have HV3:=bW hv3;clear hv3
 go_wp2_with (first | (refine mA rfl B (.tmp 22) (.tmp 24) 76 3 _ 1 8 rfl Tryz.underlying76 aGl rfl bF bF v3 r.marks.length (r.marks.map (Value.int .i64)) [.int .i64 k] rfl rfl rfl bL o3.out hB2 bA ?_) | fail)
 intro v4 w4 ho hg ha;obtain ⟨A4,c4,ev4⟩:=fL ho;subst ev4;rw[← HV3.out] at hg ha;obtain ⟨q22,f22⟩:=HR.out.far hg 22 (V2 3) rfl;obtain ⟨hR,hM⟩:=HR.out.addMarks k ho hg ha;have HR4:=bW hR;have HM4:=bW (HM.out.trans hM);clear r22 o3 ho hg ha hR hM;go_wp2_with fail
 exact bodyPost_end (v:=.tuple #[]) (by simp[results,Tryz.results112]) rfl ⟨rfl,_,HR4.out,HM4.out⟩
end
open Go.RowKit Go.WideMaps Go.ZW.PrintWords Go.Proofs.YtlkoeeccebmjmaaGreatDoor.Base Go.Proofs.YtlkoeeccebmjmaaGreatDoor.Lower Go.Proofs.YtlkoeeccebmjmaaGreatDoor.PCore
open Go.ZW.PrintLast
section
variable {w0 w:World} {b:Nat} {G:RdK} {r:RV} {V:Fin 4→Value} {st:fF}
theorem cell_far {w w' : World} {b j:Nat} {v:Value} (h:w.cell? ⟨b,j,none⟩=some v) (hb:Below w.heap.size w w'):w'.cell? ⟨b,j,none⟩=some v:=(hb.cell (World.block_lt_of_cell? w ⟨b,j,none⟩ h)).trans h
theorem vT (x pre:ByteArray):(gV x pre).size≤x.size:=by unfold gV;rw[ByteArray.size_extract];omega
theorem aBm (S:lZ w0 st G.s0 G.s1 G.s2 G.s3) (O:sU st) (hB:Below w0.heap.size w0 w) (H:hE w w0.heap.size b G r V) (word x:ByteArray) (k:Int) (hx:x.size≤1000000) (n1:r.ids.length≤1000000) (n2:r.marks.length≤1000000) (n3:r.langs.length≤1000000) :
 Calls Tryz.prog 113 #[.pointer (some ⟨b,0,none⟩),.string word,.string x,.int .i64 k] w fun e w'=>e = .returned (.tuple #[])∧∃ V',hE w' w0.heap.size b G (jJ st G.lay r word x k) V'∧gZ w w' b V V':=by
 replace H:=bW H;replace hB:=bW hB;have HW0:=bW (Below.refl w.heap.size w);go_enter Tryz.func113,Tryz.ntmps113;refine wp_seq_k (fun J1 hJ1=>?_)
 go_cut [] from 17 to 75 (fun wx=>Aside0 (Below w.heap.size w wx)∧Aside0 (¬ (gT x fH=true∧(listed st.langs (low (gV x fH)) || listed st.dis (low (gV x fH)))=true)))
 case first =>
  have ct:=pM x fH hx w
  obtain ⟨v1,hv1⟩:∃ v,gV x fH=v:=⟨_,rfl⟩
  obtain ⟨t1,ht1⟩:∃ t,gT x fH=t:=⟨_,rfl⟩
  have hz1:v1.size≤x.size:=by rw[← hv1];exact vT _ _
  rw[hv1,ht1] at ct;go_wp2_with fail
  refine ct.mono ?_;rintro e w1 ⟨rfl,hb1⟩;have HW1:=bW (eA HW0.out hb1);clear hb1;clear ct
  cases t1 with
  | false =>
   go_wp2_with fail
   go_meet
   case rel=>exact ⟨HW1,⟨by rw[ht1];rintro ⟨h,_⟩;cases h⟩⟩
  | true =>
   have cl:=vJ v1 bA w1;go_wp2_with fail
   refine cl.mono ?_;rintro e w2 ⟨rfl,hb2⟩;have HW2:=bW (eA HW1.out hb2);clear hb2;clear cl
   obtain ⟨a1,ha1⟩:∃ a,listed st.langs (low v1)=a:=⟨_,rfl⟩
   obtain ⟨d1,hd1⟩:∃ a,listed st.dis (low v1)=a:=⟨_,rfl⟩
   have HR2:=bW (H.out.below HW2.out);have HM2:=bW (gZ.of_below (b:=b) (V:=V) HW2.out);have HB2:=bW (eA hB.out HW2.out);have rc15:=HR2.out.row.at 15 _ rfl;have rc16:=HR2.out.row.at 16 _ rfl;have ca:=nT (S.below HB2.out).l O.l (low v1);rw[ha1] at ca;go_upto_region 3 with fail
   go_cut [40] from 25 to 40 (fun sx wx=>sx = .bool (a1 || d1)∧Aside0 (Below w2.heap.size w2 wx))
   case first =>
    go_wp2_with fail
    refine ca.mono ?_;rintro e w3 ⟨rfl,hb3⟩;have HB3:=bW hb3;have rc16:=cell_far rc16 hb3;have hs3:=S.below (eA HB2.out hb3);clear hb3 ca rc15;cases a1
    ·have cd:=nT hs3.d O.d (low v1);rw[hd1] at cd;go_wp2_with fail
     refine cd.mono ?_;rintro e w4 ⟨rfl,hb4⟩;have HB4:=bW (eA HB3.out hb4);clear hb4 cd;go_wp2_with fail
     go_meet
     case rel=>exact ⟨rfl,HB4⟩
    go_wp2_with fail
    go_meet
    case rel=>exact ⟨rfl,HB3⟩
   obtain ⟨rfl,HB3⟩:=hcut
   obtain ⟨w4,rfl⟩:∃ x,x=wc:=⟨_,rfl⟩
   have HW4:=bW (eA HW2.out HB3.out);clear rc15 rc16 ca HB3
   cases hll:(a1 || d1) with
   | false =>
    go_wp2_with fail
    go_meet
    case rel=>exact ⟨HW4,⟨by rw[hv1,ha1,hd1,hll];rintro ⟨_,h⟩;cases h⟩⟩
   | true =>
    have hres:jJ st G.lay r word x k = { r.id v1 k with langs:=r.langs++[v1],dis:=r.dis || !a1 }:=by unfold jJ;rw[if_pos ⟨ht1,by rw[hv1,ha1,hd1];exact hll⟩,hv1,ha1]
    have HR4:=bW (H.out.below HW4.out);have HM4:=bW (gZ.of_below (b:=b) (V:=V) HW4.out);have HB4:=bW (eA hB.out HW4.out);have ci:=jH HR4.out v1 k (by exact n1) (by exact n2);go_wp2_with fail
    refine ci.mono ?_;rintro e w5 ⟨rfl,V5,hR5,hM5⟩;have HR5:=bW hR5;have HM5:=bW (HM4.out.trans hM5);have HB5:=bW (HB4.out.trans (HR4.out.moved hM5));clear ci hR5 hM5;have rc6:=HR5.out.row.at 6 _ rfl;have og:=bW HR5.out.langsRow;have hBg:w0.heap.size≤w5.heap.size:=Nat.le_trans HR5.out.base (Nat.le_of_lt HR5.out.lt)
    obtain ⟨vg,hvg⟩:∃ v,V5 2=v:=⟨_,rfl⟩
    rw[hvg] at rc6 og;have HVg:=bW hvg;clear hvg;have ng:=n3
    go_wp2_with (first | (refine mA rfl w0.heap.size (.tmp 50) (.tmp 52) 22 9 _ 1 16 rfl Tryz.underlying22 yO rfl bF bF vg r.langs.length (r.langs.map Value.string) [.string v1] rfl rfl rfl bL og.out hBg bA ?_) | fail)
    intro v1 w1 ho hg ha;obtain ⟨Ag,cg,ev1⟩:=fL ho;subst ev1;rw[← HVg.out] at hg ha;obtain ⟨qg,fg⟩:=HR5.out.far hg 6 (V5 2) rfl;obtain ⟨hR,hM⟩:=HR5.out.addLangs v1 ho hg ha;have HR6:=bW hR;have HM6:=bW (HM5.out.trans hM);have HB6:=bW (HB5.out.trans (HR5.out.moved hM));clear rc6 og hBg ng ho hg ha hR hM;go_upto_region 6 with fail
    obtain ⟨w6,hw6⟩:∃ w2,w1.setCell ⟨b,6,none⟩ ((.slice Ag (r.langs.length+1) cg):Value)=w2:=⟨_,rfl⟩
    rw[hw6] at HR6 HM6 HB6 ⊢;clear hw6 qg fg
    obtain ⟨V6,hV6⟩:∃ V2,upd V5 2 ((.slice Ag (r.langs.length+1) cg):Value)=V2:=⟨_,rfl⟩
    rw[hV6] at HR6 HM6;clear hV6;have rc13:=HR6.out.row.at 13 _ rfl;have rc15:=HR6.out.row.at 15 _ rfl;have rf13:=HR6.out.row.free 13 bN;have ca:=nT (S.below HB6.out).l O.l (low v1);rw[ha1] at ca
    cases hdis:r.dis with
    | true =>
     rw[show (r.id v1 k).dis=true from hdis] at rc13;have hres' : jJ st G.lay r word x k = { r.id v1 k with langs:=r.langs++[v1],dis:=true }:=by rw[hres,hdis];rfl
     clear hres;have hres:=hres';go_wp2_with fail
     obtain ⟨hR,hM⟩:=HR6.out.put 13 (.bool true) G { r.id v1 k with langs:=r.langs++[v1],dis:=true } rfl rfl bA;have HR8:=bW hR;have HM8:=bW (HM6.out.trans hM);clear hR hM;exact bodyPost_ret (v:=.tuple #[]) (by simp[results,Tryz.results113]) rfl ⟨rfl,_,(hres.symm▸HR8.out),HM8.out⟩
    | false =>
     rw[show (r.id v1 k).dis=false from hdis] at rc13;have hres' : jJ st G.lay r word x k = { r.id v1 k with langs:=r.langs++[v1],dis:=!a1 }:=by rw[hres,hdis];rfl
     clear hres;have hres:=hres';go_wp2_with fail
     refine ca.mono ?_;rintro e w7 ⟨rfl,hb7⟩;clear ca rc13 rc15 rf13;have HR7:=bW (HR6.out.below hb7);have HM7:=bW (HM6.out.trans (.of_below hb7));have HB7:=bW (eA HB6.out hb7);clear hb7;have rc13:=HR7.out.row.at 13 _ rfl;have rf13:=HR7.out.row.free 13 bN;go_wp2_with fail
     obtain ⟨hR,hM⟩:=HR7.out.put 13 (.bool (!a1)) G { r.id v1 k with langs:=r.langs++[v1],dis:=!a1 } rfl rfl bA;have HR8:=bW hR;have HM8:=bW (HM7.out.trans hM);clear hR hM;exact bodyPost_ret (v:=.tuple #[]) (by simp[results,Tryz.results113]) rfl ⟨rfl,_,(hres.symm▸HR8.out),HM8.out⟩
 obtain ⟨HW1,HNO⟩:=hcut
 obtain ⟨w1,rfl⟩:∃ x,x=wc:=⟨_,rfl⟩
 refine hJ1 _ _ ?_;clear hJ1;refine wp_seq_k (fun J2 hJ2=>?_)
 go_cut [] from 76 to 138 (fun wx=>Aside0 (Below w.heap.size w wx)∧Aside0 (jJ st G.lay r word x k = { r.id word k with cust:=x }))
 case first =>
  have HR1:=bW (H.out.below HW1.out);have HM1:=bW (gZ.of_below (b:=b) (V:=V) HW1.out);have HB1:=bW (eA hB.out HW1.out);have rc19:=HR1.out.row.at 19 _ rfl
  cases hlay:G.lay with
  | false =>
   rw[hlay] at rc19;go_wp2_with fail
   go_meet
   case rel=>exact ⟨HW1,⟨by rw[hlay];unfold jJ;rw[if_neg HNO.out,if_neg (fun h=>Bool.noConfusion h.1),if_neg (fun h=>Bool.noConfusion h.1),if_neg (fun h=>Bool.noConfusion h.1)]⟩⟩
  | true =>
   rw[hlay] at rc19;go_upto_if 79 with fail
   clear rc19 HR1 HM1 HB1;refine wp_cond_true rfl ?_;refine wp_seq_k (fun J3 hJ3=>?_)
   go_cut [] from 80 to 104 (fun wx=>Aside0 (Below w.heap.size w wx)∧Aside0 (¬ (gT x gK=true∧gX st (low (gV x gK))=true)))
   case first =>
    have ct:=pM x gK hx w1
    obtain ⟨v2,hv2⟩:∃ v,gV x gK=v:=⟨_,rfl⟩
    obtain ⟨t2,ht2⟩:∃ t,gT x gK=t:=⟨_,rfl⟩
    have hz2:v2.size≤x.size:=by rw[← hv2];exact vT _ _
    rw[hv2,ht2] at ct;go_wp2_with fail
    refine ct.mono ?_;rintro e w2 ⟨rfl,hb2⟩;have HW2:=bW (eA HW1.out hb2);clear hb2;clear ct
    cases t2 with
    | false =>
     go_wp2_with fail
     go_quiet (fail)
     go_wp2_with fail
     go_meet
     case rel=>exact ⟨⟨eA HW2.out (eV.below ⟨_,rfl⟩)⟩,⟨by rw[ht2];rintro ⟨h,_⟩;cases h⟩⟩
    | true =>
     have HR2:=bW (H.out.below HW2.out);have HM2:=bW (gZ.of_below (b:=b) (V:=V) HW2.out);have HB2:=bW (eA hB.out HW2.out);have SB:=(S.below HB2.out).below (w':=w2.drew) ((Below.refl _ _).drew);have rc17:w2.drew.cell? ⟨b,17,none⟩=some G.s2:=HR2.out.row.at 17 _ rfl;go_upto_region 9 with fail
     refine hY (n:=11) (S:=fun w'=>w'.cell? ⟨b,17,none⟩=some G.s2) (ds:=[]) _ bB rfl rfl (rc17) (fun hHeld=>?_);refine sA1 0 (some 85) sB1 ?_
     refine sA1 1 (some 86) sB1 ?_
     refine sA1 2 (some 87) sB1 ?_
     refine sA1 3 (some 88) sB1 ?_
     refine sA1 4 (some 89) sB1 ?_
     refine sA1 5 (some 90) sB1 ?_
     refine sA1 7 (some 92) sB1 ?_
     refine sC1 6 (some 91) sK1 ?_
     refine sF1 8 (some 93) sG1 (fun K hK=>?_);refine lA Tryz.func123 bB rfl #[.string v2] bH rfl rfl bI ?_
     with_reducible refine ((vJ v2 bA w2.drew)).mono ?_
     rintro e wa ⟨rfl,ha⟩;refine ⟨_,rfl,?_⟩;have rc17a:=cell_far rc17 ha;refine hK.out _ _ (rc17a) (fun hHeld=>?_);clear hK K;refine gJ sJ1 ?_
     refine sF1 9 (some 94) sG1 (fun K hK=>?_);refine lA Tryz.func116 bB rfl #[G.s2,.string (low v2)] bH rfl rfl bI ?_
     with_reducible refine ((aD4 (SB.below ha).f O.f (low v2))).mono ?_
     rintro e wb ⟨rfl,hbb⟩;refine ⟨_,rfl,?_⟩;have rc17b:=cell_far rc17a hbb;refine hK.out _ _ (rc17b) (fun hHeld=>?_);clear hK K;refine gJ sJ1 ?_
     refine sA1 10 (some 95) sB1 ?_
     refine iK bB ?_;have HW3:=bW (eA HW2.out (eA (eA ((Below.refl _ _).drew) ha) hbb))
     obtain ⟨f2,hf2⟩:∃ f,gX st (low v2)=f:=⟨_,rfl⟩
     rw[hf2];clear rc17 rc17a rc17b ha hbb SB HR2 HM2 HB2
     obtain ⟨w3,rfl⟩:∃ x,x=wb:=⟨_,rfl⟩
     cases f2 with
     | false =>
      go_wp2_with fail
      go_meet
      case rel=>exact ⟨HW3,⟨by rw[hv2,hf2];rintro ⟨_,h⟩;cases h⟩⟩
     | true =>
      have hres:jJ st true r word x k = { r.id v2 k with fmt:=v2 }:=by unfold jJ;rw[if_neg HNO.out,if_pos ⟨rfl,ht2,by rw[hv2];exact hf2⟩,hv2]
      have HR3:=bW (H.out.below HW3.out);have HM3:=bW (gZ.of_below (b:=b) (V:=V) HW3.out);have HB3:=bW (eA hB.out HW3.out);have ci:=jH HR3.out v2 k (by exact n1) (by exact n2);go_wp2_with fail
      refine ci.mono ?_;rintro e w4 ⟨rfl,V4,hR4,hM4⟩;have HR4:=bW hR4;have HM4:=bW (HM3.out.trans hM4);have HB4:=bW (HB3.out.trans (HR3.out.moved hM4));clear ci hR4 hM4;have rc8:=HR4.out.row.at 8 _ rfl;have rf8:=HR4.out.row.free 8 bN;go_wp2_with fail
      obtain ⟨hR,hM⟩:=HR4.out.put 8 (.string v2) G { r.id v2 k with fmt:=v2 } rfl rfl bA;have HR5:=bW hR;have HM5:=bW (HM4.out.trans hM);clear hR hM;exact bodyPost_ret (v:=.tuple #[]) (by simp[results,Tryz.results113]) rfl ⟨rfl,_,(hres.symm▸HR5.out),HM5.out⟩
   obtain ⟨HW1,HNO2⟩:=hcut
   obtain ⟨w1,rfl⟩:∃ x,x=wc:=⟨_,rfl⟩
   refine hJ3 _ _ ?_;clear hJ3;refine wp_seq_k (fun J4 hJ4=>?_)
   go_cut [] from 105 to 124 (fun wx=>Aside0 (Below w.heap.size w wx)∧Aside0 (¬ (gT x gA=true∧isKind (gV x gA)=true)))
   case first =>
    have ct:=pM x gA hx w1
    obtain ⟨v3,hv3⟩:∃ v,gV x gA=v:=⟨_,rfl⟩
    obtain ⟨t3,ht3⟩:∃ t,gT x gA=t:=⟨_,rfl⟩
    have hz3:v3.size≤x.size:=by rw[← hv3];exact vT _ _
    rw[hv3,ht3] at ct;go_wp2_with fail
    refine ct.mono ?_;rintro e w2 ⟨rfl,hb2⟩;have HW2:=bW (eA HW1.out hb2);clear hb2;clear ct
    cases t3 with
    | false =>
     go_wp2_with fail
     go_meet
     case rel=>exact ⟨HW2,⟨by rw[ht3];rintro ⟨h,_⟩;cases h⟩⟩
    | true =>
     have ck3:=uT v3 bA w2
     obtain ⟨b3,hb3⟩:∃ f,isKind v3=f:=⟨_,rfl⟩
     rw[hb3] at ck3;go_wp2_with fail
     refine ck3.mono ?_;rintro e w3 ⟨rfl,hb3⟩;have HW3:=bW (eA HW2.out hb3);clear hb3;clear ck3
     cases b3 with
     | false =>
      go_wp2_with fail
      go_meet
      case rel=>exact ⟨HW3,⟨by rw[hv3,hb3];rintro ⟨_,h⟩;cases h⟩⟩
     | true =>
      have hres:jJ st true r word x k = { r.id v3 k with kind:=v3 }:=by unfold jJ;rw[if_neg HNO.out,if_neg (fun h=>HNO2.out h.2),if_pos ⟨rfl,ht3,by rw[hv3];exact hb3⟩,hv3]
      have HR3:=bW (H.out.below HW3.out);have HM3:=bW (gZ.of_below (b:=b) (V:=V) HW3.out);have HB3:=bW (eA hB.out HW3.out);have ci:=jH HR3.out v3 k (by exact n1) (by exact n2);go_wp2_with fail
      refine ci.mono ?_;rintro e w4 ⟨rfl,V4,hR4,hM4⟩;have HR4:=bW hR4;have HM4:=bW (HM3.out.trans hM4);have HB4:=bW (HB3.out.trans (HR3.out.moved hM4));clear ci hR4 hM4;have rc9:=HR4.out.row.at 9 _ rfl;have rf9:=HR4.out.row.free 9 bN;go_wp2_with fail
      obtain ⟨hR,hM⟩:=HR4.out.put 9 (.string v3) G { r.id v3 k with kind:=v3 } rfl rfl bA;have HR5:=bW hR;have HM5:=bW (HM4.out.trans hM);clear hR hM;exact bodyPost_ret (v:=.tuple #[]) (by simp[results,Tryz.results113]) rfl ⟨rfl,_,(hres.symm▸HR5.out),HM5.out⟩
   obtain ⟨HW1,HNO3⟩:=hcut
   obtain ⟨w1,rfl⟩:∃ x,x=wc:=⟨_,rfl⟩
   refine hJ4 _ _ ?_;clear hJ4;have ct:=pM x fQ hx w1
   obtain ⟨v4,hv4⟩:∃ v,gV x fQ=v:=⟨_,rfl⟩
   obtain ⟨t4,ht4⟩:∃ t,gT x fQ=t:=⟨_,rfl⟩
   have hz4:v4.size≤x.size:=by rw[← hv4];exact vT _ _
   rw[hv4,ht4] at ct;go_wp2_with fail
   refine ct.mono ?_;rintro e w2 ⟨rfl,hb2⟩;have HW2:=bW (eA HW1.out hb2);clear hb2;clear ct
   cases t4 with
   | false =>
    go_wp2_with fail
    go_meet
    case rel=>exact ⟨HW2,⟨by rw[hlay];unfold jJ;rw[if_neg HNO.out,if_neg (fun h=>HNO2.out h.2),if_neg (fun h=>HNO3.out h.2),if_neg (by rw[ht4];rintro ⟨_,h⟩;cases h)]⟩⟩
   | true =>
    have hres:jJ st true r word x k = { r.id v4 k with lay:=v4 }:=by unfold jJ;rw[if_neg HNO.out,if_neg (fun h=>HNO2.out h.2),if_neg (fun h=>HNO3.out h.2),if_pos ⟨rfl,ht4⟩,hv4]
    have HR2:=bW (H.out.below HW2.out);have HM2:=bW (gZ.of_below (b:=b) (V:=V) HW2.out);have HB2:=bW (eA hB.out HW2.out);have ci:=jH HR2.out v4 k (by exact n1) (by exact n2);go_wp2_with fail
    refine ci.mono ?_;rintro e w3 ⟨rfl,V3,hR3,hM3⟩;have HR3:=bW hR3;have HM3:=bW (HM2.out.trans hM3);have HB3:=bW (HB2.out.trans (HR2.out.moved hM3));clear ci hR3 hM3;have rc10:=HR3.out.row.at 10 _ rfl;have rf10:=HR3.out.row.free 10 bN;go_wp2_with fail
    obtain ⟨hR,hM⟩:=HR3.out.put 10 (.string v4) G { r.id v4 k with lay:=v4 } rfl rfl bA;have HR4:=bW hR;have HM4:=bW (HM3.out.trans hM);clear hR hM;exact bodyPost_ret (v:=.tuple #[]) (by simp[results,Tryz.results113]) rfl ⟨rfl,_,(hres.symm▸HR4.out),HM4.out⟩
 obtain ⟨HW1,HRES⟩:=hcut
 obtain ⟨w1,rfl⟩:∃ x,x=wc:=⟨_,rfl⟩
 refine hJ2 _ _ ?_;clear hJ2;have hres:=HRES.out;have HR1:=bW (H.out.below HW1.out);have HM1:=bW (gZ.of_below (b:=b) (V:=V) HW1.out);have HB1:=bW (eA hB.out HW1.out);have ci:=jH HR1.out word k (by exact n1) (by exact n2);go_wp2_with fail
 refine ci.mono ?_;rintro e w2 ⟨rfl,V2,hR2,hM2⟩;have HR2:=bW hR2;have HM2:=bW (HM1.out.trans hM2);have HB2:=bW (HB1.out.trans (HR1.out.moved hM2));clear ci hR2 hM2;have rc12:=HR2.out.row.at 12 _ rfl;have rf12:=HR2.out.row.free 12 bN;go_wp2_with fail
 obtain ⟨hR,hM⟩:=HR2.out.put 12 (.string x) G { r.id word k with cust:=x } rfl rfl bA;have HR3:=bW hR;have HM3:=bW (HM2.out.trans hM);clear hR hM;exact bodyPost_end (v:=.tuple #[]) (by simp[results,Tryz.results113]) rfl ⟨rfl,_,(hres.symm▸HR3.out),HM3.out⟩
end
end Go.Proofs.YtlkoeeccebmjmaaGreatDoor.Path
