/- Texts that the law leans on: Spec2, Spec3, SFns, Words0, Ans0, Slashes. Condition: as told at each. -/
import Derived.Test.YtbkobfoaphcamaaGreatDoorQa
import Derived.Test.YtbkobfoaphcamaaGreatDoorQ19
set_option linter.unusedVariables false
set_option linter.unusedSimpArgs false
namespace Go.Proofs.YtbkobfoaphcamaaGreatDoor.Path
open Go.RowKit Go.Proofs.YtbkobfoaphcamaaGreatDoorW.PrintWords Go.Proofs.YtbkobfoaphcamaaGreatDoor.Base Go.Proofs.YtbkobfoaphcamaaGreatDoor.Total Go.Proofs.YtbkobfoaphcamaaGreatDoor.Lower
def nL (st:fP) (comp:ByteArray) (sc:Bool) (pts:Nat) (name:ByteArray) (d:RV×Nat) (c:Nat):RV×Nat:=(mI st comp sc pts d.1 (name.extract (c+1) d.2) (c:Int),c)
def gU (st:fP) (comp:ByteArray) (sc:Bool) (name:ByteArray) (cuts:List Nat):RV :=
 if cuts=[] then lG else
  let d:=cuts.reverse.foldl (nL st comp sc cuts.length name) (lG,name.size)
  mI st comp sc cuts.length d.1 (name.extract 0 d.2) (-1)
theorem xB (m:List Int) (k N:Int):kL (m++[k]) N=if 0≤k∧k < kL m N then k else kL m N:=by
 unfold kL;rw[List.foldl_append];rfl
theorem yL (n:List UInt8) (c e:Nat) (t:List Nat):∀ (a:List Nat) (o:Nat),(n.drop (c+1)).take (e - (c+1))∈sS n o (a++c::e::t)
 | [],o=>List.mem_cons_of_mem _ (List.mem_cons_self ..)
 | x::a,o=>List.mem_cons_of_mem _ (yL n c e t a (x+1))
theorem rO {l pre n:List UInt8} (S:nC l pre n):(eY n).Pairwise (· < ·)∧∀ c∈eY n,c < n.length:=by
 rw[(tE S).2];exact ⟨List.Pairwise.filter _ List.pairwise_lt_range,fun c hc=>List.mem_range.1 (List.mem_filter.1 hc).1⟩
theorem zX {E:Env} {p:eQ} {comp:ByteArray} {lo ld:Nat} {nd:Int} {last:Bool} (hl:p.lay = -1∨(1≤p.lay∧p.lay < p.known.length)) :
 ((jE E p comp lo ld nd last).1.lay=p.lay∧∀ x,p.known[p.lay.toNat]? = some x→p.lay≠-1→(jE E p comp lo ld nd last).1.known[p.lay.toNat]? = some x) ∨
 (lO p comp last=true∧∃ h:Int,(jE E p comp lo ld nd last).1.known[(jE E p comp lo ld nd last).1.lay.toNat]? = some ((lo:Int),h)):=by
 have app:∀ (y:Int×Int) (x:Int×Int),p.known[p.lay.toNat]? = some x→p.lay≠-1→(p.known++[y])[p.lay.toNat]? = some x:=by
  intro y x hx _;rw[List.getElem?_append_left (List.getElem?_eq_some_iff.1 hx).1];exact hx
 unfold jE;simp only[];split
 ·left;unfold nE;simp only[];split
  ·exact ⟨rfl,app _⟩
  split
  ·rename_i q hq
   have:q.lay=p.lay∧∃ y,q.known=p.known++[y]:=by
    unfold jD at hq
    repeat' split at hq
    all_goals first | (cases hq;exact ⟨rfl,_,rfl⟩) | cases hq
   obtain ⟨e1,y,e2⟩:=this;rw[e1,e2];exact ⟨rfl,app y⟩
  exact ⟨rfl,app _⟩
 split
 ·exact .inl ⟨rfl,app _⟩
 unfold jI;split
 ·exact .inl ⟨rfl,app _⟩
 split
 ·exact .inl ⟨rfl,app _⟩
 split
 ·exact .inl ⟨rfl,app _⟩
 split
 ·exact .inl ⟨rfl,app _⟩
 split
 ·rename_i hm
  right;refine ⟨hm,?_⟩;split
  ·rename_i h
   have h1:p.lay≠-1:=bne_iff_ne.1 h;refine ⟨(idHigh p ld:Int),?_⟩;show (p.known.set p.lay.toNat _)[p.lay.toNat]? = _;rw[List.getElem?_set_self bA]
  refine ⟨(idHigh p ld:Int),?_⟩;show (p.known++[_])[(p.known.length:Int).toNat]? = _;rw[Int.toNat_natCast,List.getElem?_append_right (Nat.le_refl _),Nat.sub_self];rfl
 exact .inl ⟨rfl,fun x hx _=>hx⟩
section
variable {st:fP} {comp T:ByteArray} {sc:Bool} {q:Nat} {pre n:List UInt8}
structure At (st:fP) (comp:ByteArray) (sc:Bool) (T:ByteArray) (q:Nat) (N:Nat) (e:Nat) (d:DoV) (r:RV×Nat):Prop where
 rel:Rel st comp sc T d.p r.1
 ld:d.ld=q+1+e
 re:r.2=e
 chi:d.p.cHigh = -1
 nEnd:d.p.nEnd=(q:Int)+1+kL r.1.marks N
 le:(e:Int)≤kL r.1.marks N
 lt:kL r.1.marks N < N
 low:∀ x,d.p.known[d.p.lay.toNat]? = some x→d.p.lay≠-1→(q:Int)+1 < x.1
 mem:∃ c∈eY ((L T).drop (q+1)),kL r.1.marks N=(c:Int)
 ext:r.1.ext≠⟨#[]⟩
theorem aE3 (r:RV) (w:ByteArray) (k:Int):(oY r w k).ext=w:=rfl
theorem qX (r:RV) (pts:Nat) (w:ByteArray) (k:Int):(mB st comp sc pts r w k).ext=r.ext:=by
 unfold mB jO jQ
 repeat' split
 all_goals rfl
theorem aE4 {r:RV} (h:r.ids≠[]) (pts:Nat) (w:ByteArray) (k:Int):(mB st comp sc pts r w k).ids≠[]:=by
 have h1:∀ t:ByteArray,r.ids++[t]≠[]:=by intro t;simp
 have h2:∀ (i:Nat) (t:ByteArray),r.ids.set i t≠[]:=by intro i t;simpa using h
 unfold mB jO jQ
 repeat' split
 all_goals first | exact h1 _ | exact h2 _ _ | exact h
theorem Rel.idsNe {p:eQ} {r:RV} (R:Rel st comp sc T p r):r.ids≠[]:=by
 rw[R.ids];unfold kW
 simpa using R.ne
theorem Rel.layPos {p:eQ} {r:RV} (R:Rel st comp sc T p r):p.lay = -1∨(1≤p.lay∧p.lay < p.known.length):=by
 rcases R.lay with ⟨h,_⟩ | ⟨_,h,x,hx,_⟩
 ·exact .inl h
 have:=(List.getElem?_eq_some_iff.1 hx).1;exact .inr ⟨h,aR⟩
theorem sC (S:nC (L T) pre n) (hq:pre.length=q+1) {name:ByteArray} (hn:L name=n) (a b:Nat):T.extract (q+1+a) (q+1+b)=name.extract a b:=by
 refine L_inj ?_;rw[eX,eX,hn,S.eq,← hq,List.drop_append,List.drop_of_length_le bA,List.nil_append];congr 1
 ·omega
 congr 1;omega
theorem At.start (S:nC (L T) pre n) (hq:pre.length=q+1) {name:ByteArray} (hn:L name=n) (K:oB (eW comp) n) (pts:Nat) {c:Nat} (hc:(eY n).getLast? = some c) {p:eQ} (hp:p = { gJ with comp:=comp,s:=T,typ:=if sc then 7 else 0 }) :
 At st comp sc T q n.length c (mH (eS st) comp (pts:Int) ⟨p,0,0⟩ (q+1+c)) (nL st comp sc pts name (lG,name.size) c):=by
 have hmem:c∈eY n:=List.mem_of_getLast? hc;obtain ⟨hup,hlt⟩:=rO S;have hcn:=hlt c hmem;have hsz:T.size=q+1+n.length:=by rw[← eN,S.eq,List.length_append,hq]
 have hnz:name.size=n.length:=by rw[← eN,hn]
 have hk:p.known=[]:=by rw[hp];rfl
 have hch:p.cHigh = -1:=by rw[hp];rfl
 have hs:p.s=T:=by rw[hp]
 have ht:p.typ=if sc then 7 else 0:=by rw[hp]
 have hih:idHigh p 0=T.size:=by unfold idHigh;rw[if_pos hk,hs]
 have hword:T.extract (q+1+c+1) T.size=name.extract (c+1) name.size:=by
  rw[hsz,hnz,Nat.add_assoc];exact sC S hq hn (c+1) n.length
 have hLw:L (name.extract (c+1) name.size)=n.drop (c+1):=by
  rw[eX,hn,hnz];exact List.take_of_length_le (by rw[List.length_drop];omega)
 have hw:mM (name.extract (c+1) name.size)=false:=by rw[tB,hLw];exact (K.last c hc).1
 have hd:mH (eS st) comp (pts:Int) ⟨p,0,0⟩ (q+1+c)=⟨{ rM (eS st) (eW comp) p (((q+1+c+1:Nat):Int),(T.size:Int)) (name.extract (c+1) name.size) with nEnd:=((q+1+c:Nat):Int) },0,q+1+c⟩:=by
  unfold mH;rw[uT hch];unfold jE;simp only[];rw[hih,hs,hword,hw];simp only[Bool.false_eq_true,if_false];rw[if_pos hk];rfl
 obtain ⟨R,hm⟩:=Rel.first (st:=st) (comp:=comp) (sc:=sc) (T:=T) hs ht (by rw[hp]) (lo:=q+1+c+1) (hi:=T.size) hword (c:Int)
 have hr:nL st comp sc pts name (lG,name.size) c=(oY lG (name.extract (c+1) name.size) (c:Int),c):=rfl
 have hre:kL (oY lG (name.extract (c+1) name.size) (c:Int)).marks (n.length:Int)=(c:Int):=by
  rw[hm];show (if 0≤(c:Int)∧(c:Int) < (n.length:Int) then (c:Int) else (n.length:Int))=_;rw[if_pos bA]
 rw[hd,hr];refine ⟨⟨R.s,R.typ,R.ids,R.unk,⟨R.ix.lang,R.ix.fmt,R.ix.kind,R.ix.cust,R.ix.pfmt,R.ix.pkind,R.ix.play,R.ix.pl,R.ix.langs,R.ix.lne,R.ix.pos⟩,R.lay,R.hl,R.hk,R.base,R.dis,R.ext⟩,rfl,rfl,hch,?_,?_,?_,?_,⟨c,?_,hre⟩,?_⟩
 ·show ((q+1+c:Nat):Int)=_;rw[hre];omega
 ·rw[hre];omega
 ·rw[hre];omega
 ·intro x _ hl;refine absurd ?_ hl;show p.lay = -1;rw[hp];rfl
 ·rw[← hq,S.eq,List.drop_left];exact hmem
 rw[aE3];intro h;have h2:=(K.last c hc).2;have h3:=congrArg ByteArray.size h;rw[← eN,hLw,List.length_drop] at h3;have h0:(⟨#[]⟩:ByteArray).size=0:=rfl;omega
theorem At.step (S:nC (L T) pre n) (hq:pre.length=q+1) {name:ByteArray} (hn:L name=n) (K:oB (eW comp) n) (SE:qT st) (pts:Nat) {d:DoV} {r:RV×Nat} {c e:Nat} (A:At st comp sc T q n.length e d r) (hc:c∈eY n) (hce:c < e) (hen:e < n.length) (hok:eW comp=true→okW ((n.drop (c+1)).take (e - (c+1)))) :
 At st comp sc T q n.length c (mH (eS st) comp (pts:Int) d (q+1+c)) (nL st comp sc pts name r c):=by
 have hsz:T.size=q+1+n.length:=by rw[← eN,S.eq,List.length_append,hq]
 have hword:T.extract (q+1+c+1) d.ld=name.extract (c+1) r.2:=by
  rw[A.ld,A.re,Nat.add_assoc];exact sC S hq hn (c+1) e
 have hLw:L (name.extract (c+1) r.2)=(n.drop (c+1)).take (e - (c+1)):=by rw[eX,hn,A.re]
 obtain ⟨R,hm⟩:=A.rel.later SE A.ext (lo:=q+1+c+1) (ld:=d.ld) hword (by rw[A.ld,hsz];omega) (fun h=>by rw[hLw];exact hok h) pts false (c:Int) (by rw[decide_eq_false bA])
 have hr:nL st comp sc pts name r c=(mB st comp sc pts r.1 (name.extract (c+1) r.2) (c:Int),c):=by
  unfold nL mI;rw[if_neg A.rel.idsNe]
 have hlay:=zX (E:=eS st) (p:=d.p) (comp:=comp) (lo:=q+1+c+1) (ld:=d.ld) (nd:=(pts:Int)) (last:=false) A.rel.layPos;have hkeep:=wH (eS st) d.p comp (q+1+c+1) d.ld (pts:Int) false
 obtain ⟨M,hM⟩:∃ M,jE (eS st) d.p comp (q+1+c+1) d.ld (pts:Int) false=M:=⟨_,rfl⟩
 have hne:M.1.nEnd=d.p.nEnd:=by
  rw[← hM];have:=(tJ (E:=eS st) (p:=d.p) (comp:=comp) (i:=q+1+c+1) (ld:=d.ld) (nd:=(pts:Int)) (last:=false) (N:=T.size) (by unfold idHigh;rw[if_neg A.rel.ne,A.ld];omega) (by unfold idHigh;rw[if_neg A.rel.ne,A.ld,hsz];omega) (by rw[A.rel.s])).2.1;exact this
 obtain ⟨r',hr'⟩:∃ r',mB st comp sc pts r.1 (name.extract (c+1) r.2) (c:Int)=r':=⟨_,rfl⟩
 have hext:r'.ext≠⟨#[]⟩:=by rw[← hr',qX];exact A.ext
 rw[hM] at R hm hlay hkeep;rw[hr'] at R hm hr
 have hd:mH (eS st) comp (pts:Int) d (q+1+c) = { d with p:={ M.1 with nEnd:=if M.2=true then ((q+1+c:Nat):Int) else d.p.nEnd },ld:=q+1+c }:=by
  unfold mH;rw[uT A.chi,hM];unfold mP
  by_cases h:M.2=true
  ·rw[if_pos h,if_pos h];rfl
  rw[if_neg h,if_neg h,← hne]
 have hre:kL r'.marks (n.length:Int)=if M.2=true then (c:Int) else kL r.1.marks (n.length:Int):=by
  rw[hm]
  by_cases h:M.2=true
  ·rw[if_pos h,if_pos h,xB,if_pos ⟨aR,by have:=A.le;omega⟩]
  rw[if_neg h,if_neg h]
 rw[hd,hr];refine ⟨⟨R.s,R.typ,R.ids,R.unk,⟨R.ix.lang,R.ix.fmt,R.ix.kind,R.ix.cust,R.ix.pfmt,R.ix.pkind,R.ix.play,R.ix.pl,R.ix.langs,R.ix.lne,R.ix.pos⟩,R.lay,R.hl,R.hk,R.base,R.dis,R.ext⟩,rfl,rfl,hkeep.cHigh.trans A.chi,?_,?_,?_,?_,?_,hext⟩
 ·show (if M.2=true then ((q+1+c:Nat):Int) else d.p.nEnd)=_;rw[hre];split
  ·omega
  exact A.nEnd
 ·rw[hre];split
  ·exact Int.le_refl _
  have:=A.le;omega
 ·rw[hre];split
  ·omega
  exact A.lt
 ·show ∀ x,M.1.known[M.1.lay.toNat]? = some x→M.1.lay≠-1→_;intro x hx hl;rcases hlay with ⟨e1,e2⟩ | ⟨_,h,e2⟩
  ·rw[e1] at hx hl;rcases A.rel.layPos with h0 | h0
   ·exact absurd h0 hl
   have hlt:d.p.lay.toNat < d.p.known.length:=by omega
   have:=e2 _ (List.getElem?_eq_getElem hlt) hl;rw[hx] at this;injection this with this
   rw[this];exact A.low _ (List.getElem?_eq_getElem hlt) hl
  rw[hx] at e2;injection e2 with e2
  rw[e2];show (q:Int)+1 < ((q+1+c+1:Nat):Int);omega
 show ∃ c∈eY ((L T).drop (q+1)),kL r'.marks (n.length:Int)=(c:Int);rw[hre];split
 ·exact ⟨c,by rw[← hq,S.eq,List.drop_left];exact hc,rfl⟩
 exact A.mem
theorem At.steps (S:nC (L T) pre n) (hq:pre.length=q+1) {name:ByteArray} (hn:L name=n) (K:oB (eW comp) n) (SE:qT st) (pts:Nat):∀ (todo:List Nat) (e:Nat) (tail:List Nat) (d:DoV) (r:RV×Nat),eY n=todo.reverse++e::tail→At st comp sc T q n.length e d r →
 ∃ e',(eY n).head? = some e'∧At st comp sc T q n.length e' ((todo.map (q+1 + ·)).foldl (mH (eS st) comp (pts:Int)) d) (todo.foldl (nL st comp sc pts name) r)
 | [],e,tail,d,r,h,A=>⟨e,by rw[h];rfl,A⟩
 | c::todo,e,tail,d,r,h,A=>by
  obtain ⟨hup,hlt⟩:=rO S;have h' : eY n=todo.reverse++c::e::tail:=by rw[h];simp
  have hce:c < e:=by
   rw[h',List.pairwise_append] at hup;exact (List.pairwise_cons.1 hup.2.1).1 e bL
  have hne:eY n≠[]:=by rw[h'];simp
  have hstep:=A.step S hq hn K SE pts (c:=c) (by rw[h'];simp) hce (hlt e (by rw[h'];simp)) (fun hl=>K.words hl hne _ (by rw[h'];exact yL n c e tail _ 0));exact At.steps S hq hn K SE pts todo c (e::tail) _ _ h' hstep
theorem aGi (S:nC (L T) pre n) (hq:pre.length=q+1) {name:ByteArray} (hn:L name=n) (K:oB (eW comp) n) (SE:qT st) {p:eQ} (hp:p = { gJ with comp:=comp,s:=T,typ:=if sc then 7 else 0 }) (hne:eY n≠[]) :
 Rel st comp sc T (mD (eS st) comp p q n) (gU st comp sc name (eY n))∧(mD (eS st) comp p q n).nEnd=(q:Int)+1+kL (gU st comp sc name (eY n)).marks n.length ∧
 (∃ c∈eY n,kL (gU st comp sc name (eY n)).marks n.length=(c:Int))∧(gU st comp sc name (eY n)).ext≠⟨#[]⟩ ∧
 (sc=true→∀ x,(mD (eS st) comp p q n).known[(mD (eS st) comp p q n).lay.toNat]? = some x→(mD (eS st) comp p q n).lay≠-1→(q:Int)+1 < x.1):=by
 obtain ⟨c0,hc0⟩:∃ c,(eY n).getLast? = some c:=by
  cases h:(eY n).getLast? with
  | none=>exact absurd (List.getLast?_eq_none_iff.1 h) hne
  | some c=>exact ⟨c,rfl⟩
 obtain ⟨front,hfront⟩:=List.getLast?_eq_some_iff.1 hc0;have hrev:(eY n).reverse=c0::front.reverse:=by rw[hfront];simp
 have A0:=At.start (st:=st) (sc:=sc) S hq hn K (eY n).length hc0 hp;obtain ⟨e,he,A⟩:=At.steps S hq hn K SE (eY n).length front.reverse c0 [] _ _ (by rw[List.reverse_reverse];exact hfront) A0
 have e1:nZ (eS st) comp p (q+1) n=(front.reverse.map (q+1 + ·)).foldl (mH (eS st) comp ((eY n).length:Int)) (mH (eS st) comp ((eY n).length:Int) ⟨p,0,0⟩ (q+1+c0)):=by
  unfold nZ;rw[hrev];rfl
 have e2:gU st comp sc name (eY n)=mI st comp sc (eY n).length (front.reverse.foldl (nL st comp sc (eY n).length name) (nL st comp sc (eY n).length name (lG,name.size) c0)).1 (name.extract 0 (front.reverse.foldl (nL st comp sc (eY n).length name) (nL st comp sc (eY n).length name (lG,name.size) c0)).2) (-1):=by
  unfold gU;rw[if_neg hne,hrev];rfl
 obtain ⟨d,hd⟩:∃ d,nZ (eS st) comp p (q+1) n=d:=⟨_,rfl⟩
 rw[← e1,hd] at A
 obtain ⟨r,hr⟩:∃ r,front.reverse.foldl (nL st comp sc (eY n).length name) (nL st comp sc (eY n).length name (lG,name.size) c0)=r:=⟨_,rfl⟩
 rw[hr] at A e2;have hsz:T.size=q+1+n.length:=by rw[← eN,S.eq,List.length_append,hq]
 have hen:e < n.length:=(rO S).2 e (List.mem_of_head? he)
 have hword:T.extract (q+1) d.ld=name.extract 0 r.2:=by
  rw[A.ld,A.re];exact sC S hq hn 0 e
 have hLw:L (name.extract 0 r.2)=(n.drop 0).take (e - 0):=by rw[eX,hn,A.re]
 have hokw:eW comp=true→okW (L (name.extract 0 r.2)):=by
  intro hl;rw[hLw];refine K.words hl hne _ ?_
  cases hs:eY n with
  | nil=>exact absurd hs hne
  | cons a t =>
   rw[hs] at he;injection he with he
   rw[he];exact List.mem_cons_self ..
 obtain ⟨R,hm⟩:=A.rel.later SE A.ext (lo:=q+1) (ld:=d.ld) hword (by rw[A.ld,hsz];omega) hokw (eY n).length true (-1) bF;have hlay:=zX (E:=eS st) (p:=d.p) (comp:=comp) (lo:=q+1) (ld:=d.ld) (nd:=((eY n).length:Int)) (last:=true) A.rel.layPos
 obtain ⟨M,hM⟩:∃ M,jE (eS st) d.p comp (q+1) d.ld ((eY n).length:Int) true=M:=⟨_,rfl⟩
 have hnE:M.1.nEnd=d.p.nEnd:=by
  rw[← hM];exact (tJ (E:=eS st) (p:=d.p) (comp:=comp) (i:=q+1) (ld:=d.ld) (nd:=((eY n).length:Int)) (last:=true) (N:=T.size) (by unfold idHigh;rw[if_neg A.rel.ne,A.ld];omega) (by unfold idHigh;rw[if_neg A.rel.ne,A.ld,hsz];omega) (by rw[A.rel.s])).2.1
 have e3:gU st comp sc name (eY n)=mB st comp sc (eY n).length r.1 (name.extract 0 r.2) (-1):=by
  rw[e2];unfold mI;rw[if_neg A.rel.idsNe]
 rw[← e3] at R hm;have hx:(gU st comp sc name (eY n)).ext≠⟨#[]⟩:=by rw[e3,qX];exact A.ext
 obtain ⟨r',hr'⟩:∃ r',gU st comp sc name (eY n)=r':=⟨_,rfl⟩
 rw[hr'] at R hm hx ⊢;rw[hM] at R hm hlay;have hpos:¬ (M.1.nEnd≤0):=by rw[hnE,A.nEnd];have:=A.le;omega
 have e4:mD (eS st) comp p q n=M.1:=by
  unfold mD;rw[hd,if_pos (by rw[A.ld];omega),uT A.chi,hM];unfold mP
  by_cases h:M.2=true
  ·rw[if_pos h,if_pos rfl,if_neg hpos]
  rw[if_neg h]
 have hre:kL r'.marks (n.length:Int)=kL r.1.marks (n.length:Int):=by
  rw[hm]
  by_cases h:M.2=true
  ·rw[if_pos h,xB,if_neg bA]
  rw[if_neg h]
 rw[e4,hre];refine ⟨R,hnE.trans A.nEnd,?_,hx,?_⟩
 ·have:=A.mem;rw[← hq,S.eq,List.drop_left] at this;exact this
 intro hsc x hx hl;rcases hlay with ⟨e1,e2⟩ | ⟨hmay,h,e2⟩
 ·rw[e1] at hx hl;rcases A.rel.layPos with h0 | h0
  ·exact absurd h0 hl
  have hlt:d.p.lay.toNat < d.p.known.length:=by omega
  have:=e2 _ (List.getElem?_eq_getElem hlt) hl;rw[hx] at this;injection this with this
  rw[this];exact A.low _ (List.getElem?_eq_getElem hlt) hl
 exfalso;unfold lO at hmay;rw[A.rel.typ,hsc] at hmay
 simp at hmay
end
end Go.Proofs.YtbkobfoaphcamaaGreatDoor.Path
namespace Go.Proofs.YtbkobfoaphcamaaGreatDoor.Path
open Go.RowKit Go.Proofs.YtbkobfoaphcamaaGreatDoorW.PrintWords Go.Proofs.YtbkobfoaphcamaaGreatDoor.Base Go.Proofs.YtbkobfoaphcamaaGreatDoor.Total Go.Proofs.YtbkobfoaphcamaaGreatDoor.Lower
structure WV where
 comp:ByteArray
 path:ByteArray
 name:ByteArray
 nEnd:Nat
 ids:List ByteArray
 unk:List ByteArray
 langs:List ByteArray
 ext:ByteArray
 fmt:ByteArray
 kind:ByteArray
 lay:ByteArray
 lang:ByteArray
 cust:ByteArray
 dis:Bool
 typ:Int
def chooseB (a b:ByteArray):ByteArray:=if a=⟨#[]⟩ then b else a
def mT (st:fP) (comp:ByteArray) (path nm:List UInt8) (pointed:Bool) (ext:ByteArray) (baseof:Bool):Int :=
 if (pointed=true∧(kA comp || kV comp)=true∧listed st.cont ext=true)∧nm≠[] then
  if nm=nY then 3 else if nm=mZ then 4 else 2
 else if (pointed=true∧nm=lT∧L ext=mY)∧eW comp=false then 5
 else if (pointed=true∧nm=lT∧L ext=mY)∧baseof=true then 9
 else if fH path gC=true then 7
 else if eW comp=true∧baseof=true then 9
 else if eW comp=true∧fH path kD=true then 6
 else if eW comp=true∧jH.isPrefixOf path=true then 8
 else if pointed=true∧nm=lT∧L ext=mY then 5
 else 0
def lastB (path:ByteArray):ByteArray:=⟨((L path).drop (behind (L path))).toArray⟩
def wOf (st:fP) (comp path:ByteArray):WV :=
 let name:=lastB path
 let r:=gU st comp (fH (L path) gC) name (eY (L name))
 let e:=(kL r.marks (name.size:Int)).toNat
 let f:=chooseB r.fmt r.fmt1
 { comp:=comp,path:=path,name:=name,nEnd:=e,ids:=r.ids,unk:=r.unk,langs:=r.langs,ext:=r.ext,fmt:=if eW comp=true∧f=⟨#[]⟩∧eY (L name)≠[]∧iB st r.ext=true then r.ext else f,kind:=chooseB r.kind r.kind1,lay:=chooseB r.lay r.lay1,lang:=(match r.langs with | []=>r.lang1 | l::_=>l),cust:=r.cust,dis:=r.dis,typ:=mT st comp (L path) (L (name.extract 0 e)) (!r.ids.isEmpty) r.ext r.baseof }
def slB (l:List UInt8):Nat→Option Nat
 | 0=>none
 | i+1=>if l[i]? = some 47 then some i else slB l i
def iG (path:ByteArray):ByteArray :=
 match slB (L path) path.size with
 | some (a+1)=>path.extract 0 (a+1)
 | _=>⟨#[47]⟩
def jG (path:ByteArray):ByteArray :=
 match slB (L path) path.size with
 | some (a+1)=>lastB (path.extract 0 (a+1))
 | _=>⟨#[]⟩
def kJ (l:List UInt8):Nat:=(l.filter fun c=>c==47).length
def qQ (path:ByteArray) (typ:Int):ByteArray :=
 if kJ ((L path).drop 1)=0∨(kJ ((L path).drop 1)=1∧typ=3) then ⟨#[]⟩ else ⟨(((L path).drop 1).takeWhile fun c=>c != 47).toArray⟩
def jR (t:Int):Bool:=decide (3≤t∧t≤5)
def qY (w:WV):ByteArray:=w.path.extract 0 (w.path.size - w.name.size)
def kQ (w:WV):ByteArray:=if w.ids=[] then w.path else qY w++w.name.extract 0 w.nEnd
def lW (w:WV):ByteArray :=
 if w.ids=[] then (if w.path=⟨#[47]⟩∧2≤w.typ∧w.typ≤5 then ⟨#[]⟩ else w.path)
 else if jR w.typ=true then (if iG w.path=⟨#[47]⟩ then ⟨#[]⟩ else iG w.path)
 else if w.typ=2 then kQ w
 else if w.ids.length=1 then w.path
 else kQ w++⟨#[46]⟩++w.ext
def mJ (w:WV):ByteArray:=if w.lang=⟨#[]⟩ then w.path else qY w++w.name.extract 0 w.nEnd++⟨#[46]⟩++w.ext
def kU (w:WV) (s:ByteArray):ByteArray:=if w.ids=[] then s else s.extract 0 (s.size - w.ext.size - 1)
def mR (w:WV):ByteArray :=
 if jR w.typ=true∧jG w.path≠⟨#[]⟩ then (iG w.path).extract 0 ((slB (L (iG w.path)) (iG w.path).size).getD 0) else iG w.path
def sB (w:WV):gV where
 component:=w.comp
 container:=jG w.path
 containerDir:=mR w
 section_:=qQ w.path w.typ
 name:=w.name
 nameNoExt:=kU w w.name
 baseName:=if jR w.typ=true then jG w.path else w.name.extract 0 w.nEnd
 nameNoId:=w.name.extract 0 w.nEnd
 dir:=iG w.path
 path:=w.path
 pathNoLang:=mJ w
 pathNoId:=kQ w
 pathBefore:=kU w w.path
 base:=lW w
 idBase:=if eW w.comp=true then w.path else lW w
 ext:=w.ext
 fmt:=w.fmt
 kind:=w.kind
 layout:=w.lay
 lang:=w.lang
 custom:=w.cust
 langs:=w.langs
 ids:=w.ids
 unk:=w.unk
 disabled:=w.dis
 isContent:=decide (1≤w.typ∧w.typ≤5)
 isBundle:=jR w.typ
 isBranch:=w.typ==4
 isLeaf:=w.typ==3
 isData:=w.typ==5
 typ:=w.typ
theorem aGb {st:fP} {comp T:ByteArray} {d:DoV} {r:RV} {nm:List UInt8} (hs:d.p.s=T) (ht:d.p.trim=false) (hc:d.p.comp=comp) (htyp:d.p.typ=if fH (L T) gC then 7 else 0)
 (hids:r.ids=[]↔d.p.known=[]) (hext:d.p.known≠[]→fO d.p 0=r.ext) (hbase:r.baseof=(d.p.base != -1)) (hb0:d.p.known=[]→d.p.base = -1)
 (hnm:L (sub (gR d.p).s (gR d.p).nLow (gR d.p).nHigh)=nm) (hlt:(gR d.p).nLow < (gR d.p).nHigh↔nm≠[])
 (hstrike:fH (L T) gC=true→d.p.lay≠-1→(d.p.known.getD d.p.lay.toNat (0,0)).1≠d.p.cHigh) :
 tF (eS st) comp d = { gR d.p with typ:=mT st comp (L T) nm (!r.ids.isEmpty) r.ext r.baseof,sec:=if mT st comp (L T) nm (!r.ids.isEmpty) r.ext r.baseof=3∧d.sc=2 then 0 else d.p.sec }:=by
 have ecl:eW comp=true→kA comp=false∧kV comp=false:=by
  intro h;unfold eW at h;have h:=beq_iff_eq.1 h;unfold kA kV;rw[h];exact ⟨by decide,by decide⟩
 have hn7:∀ x:eQ,x.trim=false→x.s=T→(nrm x.trim x.s).data.toList=L T:=by
  intro x h1 h2;rw[h1,h2];rfl
 -- the third sort never strikes
 have s3:∀ x:eQ,x.lay=d.p.lay→x.known=d.p.known→x.cHigh=d.p.cHigh→(x.typ=7→fH (L T) gC=true)→nP x=x:=by
  intro x h1 h2 h3 h4;unfold nP;rw[if_neg];rintro ⟨c1,c2,c3⟩;rw[h1,h2,h3] at *;exact hstrike (h4 c1) c2 c3
 obtain ⟨sh,hsh⟩:∃ x,fH (L T) gC=x:=⟨_,rfl⟩
 have P0:(gR d.p).typ=if sh then 7 else 0:=by rw[← hsh];exact htyp
 have Pid:fO (gR d.p) 0=fO d.p 0:=rfl;have Pk:(gR d.p).known=d.p.known:=rfl;have Pc:(gR d.p).comp=comp:=hc
 -- the second sort
 have s2:∀ x:eQ,x.trim=false→x.s=T→x.base=d.p.base→x.typ < 6∨x.typ=7 →
  lM comp x = { x with typ:=if x.typ < 6∧eW comp=true then (if r.baseof=true then 9 else if sh=true then 7 else if fH (L T) kD=true then 6 else if jH.isPrefixOf (L T)=true then 8 else x.typ) else x.typ }:=by
  intro x h1 h2 h3 h4;have hb' : r.baseof=(x.base != -1):=by rw[h3];exact hbase
  unfold lM;rw[hn7 x h1 h2,hsh,hb']
  by_cases c1:x.typ < 6∧eW comp=true
  ·rw[if_pos c1,if_pos c1]
   by_cases c2:x.base = -1
   ·have e1:¬ (x.base≠-1):=fun h=>h c2;have e2:¬ ((x.base != -1)=true):=by rw[c2];decide
    rw[if_neg e1,if_neg e2]
    cases sh with
    | true=>rfl
    | false =>
     cases fH (L T) kD with
     | true=>rfl
     | false =>
      cases jH.isPrefixOf (L T) with
      | true=>rfl
      | false=>rfl
   have e2:(x.base != -1)=true:=bne_iff_ne.2 c2;rw[if_pos c2,if_pos e2]
  rw[if_neg c1,if_neg c1]
 have fin:∀ (x:eQ) (R:Int),iM (eS st) d.sc (gR d.p)=x→x.trim=false→x.s=T→x.base=d.p.base→x.lay=d.p.lay→x.known=d.p.known→x.cHigh=d.p.cHigh→(x.typ < 6∨x.typ=7) →
  (if x.typ < 6∧eW comp=true then (if r.baseof=true then (9:Int) else if sh=true then 7 else if fH (L T) kD=true then 6 else if jH.isPrefixOf (L T)=true then 8 else x.typ) else x.typ)=R→(R=7→fH (L T) gC=true)→tF (eS st) comp d = { x with typ:=R }:=by
  intro x R h1 h2 h3 h4 h5 h6 h7 h8 h9 h10;unfold tF;rw[h1,s2 x h2 h3 h4 h8,h9];exact s3 { x with typ:=R } h5 h6 h7 h10
 by_cases hk:d.p.known=[]
 ·
  have hi:r.ids=[]:=hids.2 hk;have s1:iM (eS st) d.sc (gR d.p)=gR d.p:=by unfold iM;rw[if_pos (show (gR d.p).known=[] from hk)]
  have hb:r.baseof=false:=by rw[hbase,hb0 hk];rfl
  have hR:mT st comp (L T) nm (!r.ids.isEmpty) r.ext r.baseof=if sh=true then 7 else if eW comp=true∧fH (L T) kD=true then 6 else if eW comp=true∧jH.isPrefixOf (L T)=true then 8 else 0:=by
   unfold mT;rw[hi,hb,hsh]
   simp
  obtain ⟨R,hRR⟩:∃ R,mT st comp (L T) nm (!r.ids.isEmpty) r.ext r.baseof=R:=⟨_,rfl⟩
  rw[hRR] at hR ⊢
  have h3:¬ (R=3∧d.sc=2):=by
   rintro ⟨h,_⟩;rw[hR] at h
   revert h
   cases sh <;> cases eW comp <;> cases fH (L T) kD <;> cases jH.isPrefixOf (L T) <;> decide
  rw[if_neg h3];refine fin (gR d.p) R s1 ht hs rfl rfl rfl rfl (by rw[P0];cases sh <;> decide) ?_ ?_
  ·rw[P0,hb,hR];cases sh <;> cases eW comp <;> cases fH (L T) kD <;> cases jH.isPrefixOf (L T) <;> rfl
  intro h;rw[hR] at h;rw[hsh]
  revert h
  cases sh <;> cases eW comp <;> cases fH (L T) kD <;> cases jH.isPrefixOf (L T) <;> decide
 have hi:(!r.ids.isEmpty)=true:=by
  cases h:r.ids with
  | nil=>exact absurd (hids.1 h) hk
  | cons a l=>rfl
 rw[hi];have hex:=hext hk
 have hisc:((kA (gR d.p).comp || kV (gR d.p).comp) && (eS st).cont (fO (gR d.p) 0))=((kA comp || kV comp) && listed st.cont r.ext):=by
  rw[Pc,Pid,hex];rfl
 have hext0:(fO (gR d.p) 0).toList=L r.ext:=by rw[Pid,hex,L_toList]
 have hnm2:(sub (gR d.p).s (gR d.p).nLow (gR d.p).nHigh).toList=nm:=by rw[L_toList];exact hnm
 obtain ⟨R,hRR⟩:∃ R,mT st comp (L T) nm true r.ext r.baseof=R:=⟨_,rfl⟩
 rw[hRR]
 by_cases c1:((kA comp || kV comp)=true∧listed st.cont r.ext=true)∧nm≠[]
 ·
  have hl:eW comp=false:=by
   cases h:eW comp with
   | false=>rfl
   | true =>
    obtain ⟨h1,h2⟩:=ecl h;rw[h1,h2] at c1;exact absurd c1.1.1 bF
  have hR:R=if nm=nY then 3 else if nm=mZ then 4 else 2:=by
   rw[← hRR];unfold mT;rw[if_pos (show (true=true∧(kA comp || kV comp)=true∧listed st.cont r.ext=true)∧nm≠[] from ⟨⟨rfl,c1.1.1,c1.1.2⟩,c1.2⟩)]
  have hc9:((kA comp || kV comp) && listed st.cont r.ext)=true:=by rw[c1.1.1,c1.1.2];rfl
  have s1:iM (eS st) d.sc (gR d.p) = { gR d.p with typ:=R,sec:=if R=3∧d.sc=2 then 0 else d.p.sec }:=by
   unfold iM;rw[if_neg (show ¬ ((gR d.p).known=[]) from hk)];simp only[hisc,hnm2,hc9,if_pos (hlt.2 c1.2),if_true]
   by_cases d1:nm=nY
   ·rw[if_pos d1] at hR;subst hR;rw[if_pos d1]
    by_cases d2:d.sc=2
    ·rw[if_pos d2,if_pos (show (3:Int)=3∧d.sc=2 from ⟨rfl,d2⟩)]
    rw[if_neg d2,if_neg (fun h=>d2 h.2:¬ ((3:Int)=3∧d.sc=2))];rfl
   rw[if_neg d1] at hR;rw[if_neg d1]
   by_cases d2:nm=mZ
   ·rw[if_pos d2] at hR;subst hR;rw[if_pos d2,if_neg (by rintro ⟨h,_⟩;omega:¬ ((4:Int)=3∧d.sc=2))];rfl
   rw[if_neg d2] at hR;subst hR;rw[if_neg d2,if_neg (by rintro ⟨h,_⟩;omega:¬ ((2:Int)=3∧d.sc=2))];rfl
  have hty:R < 6:=by
   rw[hR];split
   ·decide
   split <;> decide
  exact fin _ R s1 ht hs rfl rfl rfl rfl (.inl hty) (by rw[hl];show (if R < 6∧false=true then _ else R)=R;rw[if_neg bL]) (by intro h;exfalso;omega)
 have hnot:¬ ((true=true∧(kA comp || kV comp)=true∧listed st.cont r.ext=true)∧nm≠[]):=fun h=>c1 ⟨⟨h.1.2.1,h.1.2.2⟩,h.2⟩
 obtain ⟨dt,hdt⟩:∃ b:Bool,decide (nm=lT∧L r.ext=mY)=b:=⟨_,rfl⟩
 have s1:iM (eS st) d.sc (gR d.p) = { gR d.p with typ:=if dt=true then 5 else (gR d.p).typ }:=by
  unfold iM;rw[if_neg (show ¬ ((gR d.p).known=[]) from hk)];simp only[hisc,hnm2,hext0]
  by_cases c2:nm=[]
  ·have hd:dt=false:=by rw[← hdt];exact decide_eq_false (by rintro ⟨h,_⟩;rw[c2] at h;cases h)
   rw[if_neg (fun h=>(hlt.1 h) c2),hd];rfl
  have hc9:¬ (((kA comp || kV comp) && listed st.cont r.ext)=true):=by intro h;rw[Bool.and_eq_true] at h;exact c1 ⟨h,c2⟩
  rw[if_pos (hlt.2 c2),if_neg hc9]
  cases dt with
  | true=>rw[if_pos (of_decide_eq_true hdt)];rfl
  | false=>rw[if_neg (of_decide_eq_false hdt)];rfl
 have hR:R=if eW comp=true then (if dt=true∧r.baseof=true then 9 else if sh=true then 7 else if r.baseof=true then 9 else if fH (L T) kD=true then 6 else if jH.isPrefixOf (L T)=true then 8 else if dt=true then 5 else 0) else if dt=true then 5 else if sh=true then 7 else 0:=by
  rw[← hRR];unfold mT;rw[if_neg hnot,hsh]
  cases dt with
  | true =>
   have h:=of_decide_eq_true hdt;simp only[h.1,h.2,true_and,and_true,and_self,if_true];cases eW comp <;> cases r.baseof <;> cases sh <;> simp
  | false =>
   have h:¬ (true=true∧nm=lT∧L r.ext=mY):=fun h=>of_decide_eq_false hdt h.2;rw[if_neg (fun g=>h g.1),if_neg (fun g=>h g.1),if_neg h];cases eW comp <;> cases r.baseof <;> cases sh <;> simp
 have h3:¬ (R=3∧d.sc=2):=by
  rintro ⟨h,_⟩;rw[hR] at h
  revert h
  cases dt <;> cases r.baseof <;> cases sh <;> cases eW comp <;> cases fH (L T) kD <;> cases jH.isPrefixOf (L T) <;> decide
 rw[if_neg h3];refine fin { gR d.p with typ:=if dt=true then 5 else (gR d.p).typ } R s1 ht hs rfl rfl rfl rfl ?_ ?_ ?_
 ·show (if dt=true then (5:Int) else (gR d.p).typ) < 6∨(if dt=true then (5:Int) else (gR d.p).typ)=7;rw[P0];cases dt <;> cases sh <;> decide
 ·show (if (if dt=true then (5:Int) else (gR d.p).typ) < 6∧eW comp=true then (if r.baseof=true then (9:Int) else if sh=true then 7 else if fH (L T) kD=true then 6 else if jH.isPrefixOf (L T)=true then 8 else (if dt=true then (5:Int) else (gR d.p).typ)) else (if dt=true then (5:Int) else (gR d.p).typ))=R;rw[P0,hR];cases dt <;> cases r.baseof <;> cases sh <;> cases eW comp <;> cases fH (L T) kD <;> cases jH.isPrefixOf (L T) <;> rfl
 intro h;rw[hR] at h;rw[hsh]
 revert h
 cases dt <;> cases r.baseof <;> cases sh <;> cases eW comp <;> cases fH (L T) kD <;> cases jH.isPrefixOf (L T) <;> decide
end Go.Proofs.YtbkobfoaphcamaaGreatDoor.Path
namespace Go.Proofs.YtbkobfoaphcamaaGreatDoor.Path
open Go.RowKit Go.Proofs.YtbkobfoaphcamaaGreatDoorW.PrintWords Go.Proofs.YtbkobfoaphcamaaGreatDoor.Base Go.Proofs.YtbkobfoaphcamaaGreatDoor.Total Go.Proofs.YtbkobfoaphcamaaGreatDoor.Ext Go.Proofs.YtbkobfoaphcamaaGreatDoor.Lower Go.Proofs.YtbkobfoaphcamaaGreatDoor.PCore
theorem aBm {α:Type} (F:Nat→Nat→Option Bool) (p:α→Bool) (l:List α) (hend:∀ k,F (k+1) l.length=some false) (hhit:∀ (j:Nat) (h:j < l.length),p l[j]=true→∀ k,F (k+1) j=some true) (hmiss:∀ (j:Nat) (h:j < l.length),p l[j]=false→∀ k,F (k+1) j=F k (j+1)):∀ (n j:Nat),l.length - j=n→j≤l.length→Ev (fun k=>F k j) ((l.drop j).any p):=by
 intro n
 induction n with
 | zero =>
  intro j h1 h2;obtain rfl:j=l.length:=by omega
  rw[List.drop_length];exact Ev.step (f:=fun _=>some false) (fun k=>hend k) (Ev.now _)
 | succ n ih =>
  intro j h1 h2;have hi:j < l.length:=by omega
  rw[List.drop_eq_getElem_cons hi,List.any_cons]
  cases c:p l[j] with
  | true =>
   rw[Bool.true_or];exact Ev.step (f:=fun _=>some true) (fun k=>hhit j hi c k) (Ev.now _)
  | false =>
   rw[Bool.false_or];exact Ev.step (fun k=>hmiss j hi c k) (ih (j+1) bA bA)
theorem aBl (l:List ByteArray) (s:ByteArray) (hl:l.length≤1000000):Ev (fun k=>fK.f k l s) (listed l s):=by
 refine aBm (fun k j=>fK.l0 k l s (j:Int)) (fun x=>x.toList==s.toList) l (fun k=>?_) (fun j h c k=>?_) (fun j h c k=>?_) l.length 0 bA bA
 ·simp only[fK.l0];rw[if_neg bA]
 ·simp only[fK.l0];rw[if_pos bA,if_pos bA,oG _ _ _ h,if_pos (beq_iff_eq.1 c)]
 simp only[fK.l0];rw[if_pos bA,if_pos bA,oG _ _ _ h,if_neg (by simpa using c),w64 bA bA];rfl
theorem aBp (st:fP) (s:ByteArray) (hl:st.fmts.length≤1000000):Ev (fun k=>fV.f k (st.fmts.map mkF) s) (iB st s):=by
 have e:iB st s=(st.fmts.map mkF).any fun x=>x.f0.toList==s.toList:=by unfold iB;rw[List.any_map];rfl
 have hl' : (st.fmts.map mkF).length≤1000000:=by rw[List.length_map];exact hl
 rw[e];generalize st.fmts.map mkF=l at hl';refine aBm (fun k j=>fV.l0 k l s (j:Int)) (fun x=>x.f0.toList==s.toList) l (fun k=>?_) (fun j h c k=>?_) (fun j h c k=>?_) l.length 0 bA bA
 ·simp only[fV.l0];rw[if_neg bA]
 ·simp only[fV.l0];rw[if_pos bA,if_pos bA,oF _ _ h,if_pos (beq_iff_eq.1 c)]
 simp only[fV.l0];rw[if_pos bA,if_pos bA,oF _ _ h,if_neg (by simpa using c),w64 bA bA];rfl
theorem aFu (st:fP) (s e:ByteArray) (hl:st.fmts.length≤1000000):Ev (fun k=>fS.f k (st.fmts.map mkF) s e) (jY st s e):=by
 have he:jY st s e=(st.fmts.map mkF).any fun x=>x.f0.toList==s.toList && x.f1.toList==e.toList:=by unfold jY;rw[List.any_map];rfl
 have hl' : (st.fmts.map mkF).length≤1000000:=by rw[List.length_map];exact hl
 rw[he];generalize st.fmts.map mkF=l at hl';refine aBm (fun k j=>fS.l0 k l s e (j:Int)) (fun x=>x.f0.toList==s.toList && x.f1.toList==e.toList) l (fun k=>?_) (fun j h c k=>?_) (fun j h c k=>?_) l.length 0 bA bA
 ·simp only[fS.l0];rw[if_neg bA]
 ·simp only[Bool.and_eq_true,beq_iff_eq] at c;simp only[fS.l0];rw[if_pos bA,if_pos bA,oF _ _ h,if_pos c.1,if_pos c.2]
 simp only[fS.l0];rw[if_pos bA,if_pos bA,oF _ _ h]
 by_cases c1:l[j].f0.toList=s.toList
 ·have c2:¬ l[j].f1.toList=e.toList:=by intro h2;rw[c1,h2] at c;simp at c
  rw[if_pos c1,if_neg c2,w64 bA bA];rfl
 rw[if_neg c1,w64 bA bA];rfl
theorem aAg (s t:ByteArray):iK.f s t=some ((L t).isPrefixOf (L s)):=by
 unfold iK.f
 have e:∀ r:Bool,(r=true↔(L t) <+: (L s))→(L t).isPrefixOf (L s)=r:=by
  intro r h;rw[Bool.eq_iff_iff,List.isPrefixOf_iff_prefix,h]
 by_cases c:(s.size:Int)≥(t.size:Int)
 ·rw[if_pos c,if_pos bA,if_pos bA];refine congrArg some (e _ ?_).symm;rw[L_toList,L_toList,eX,beq_iff_eq,Int.toNat_natCast,List.drop_zero,Nat.sub_zero,← eN];exact ⟨fun h=>h▸List.take_prefix _ _,fun h=>(List.prefix_iff_eq_take.1 h).symm⟩
 rw[if_neg c];refine congrArg some (e _ ?_).symm;refine ⟨(fun h=>by cases h),fun h=>?_⟩;have:=h.length_le;rw[eN,eN] at this;omega
theorem xY (s:ByteArray) (hs:s.size≤1000000):iS.f s=some (low s):=by unfold iS.f;rw[if_pos bA]
theorem aGe (x pre:ByteArray) (hx:x.size≤1000000):pA.f x pre=some (if hO x pre=true then hZ x pre else ⟨#[]⟩,hO x pre):=by
 unfold pA.f;rw[xY x hx,Option.bind_some,aAg,Option.bind_some];have e:(L pre).isPrefixOf (L (low x))=hO x pre:=rfl;rw[e]
 cases h:hO x pre with
 | false=>rfl
 | true =>
  have:=(List.isPrefixOf_iff_prefix.1 (e.trans h)).length_le;rw[eN,eN,pW] at this;rw[if_pos rfl,if_pos bA,if_pos bA,if_pos rfl];rfl
theorem aC7 (s:ByteArray) (hs:s.size≤1000000):lI.f s=some (isKind s):=by
 unfold lI.f;rw[xY s hs,Option.bind_some,L_toList,← oI];show _=some (oN (Lib.toLowerA (L s)));generalize Lib.toLowerA (L s)=l;unfold oN
 by_cases c1:l=[104,111,109,101]
 ·subst c1;rfl
 by_cases c2:l=[112,97,103,101]
 ·subst c2;rfl
 by_cases c3:l=[115,101,99,116,105,111,110]
 ·subst c3;rfl
 by_cases c4:l=[116,97,120,111,110,111,109,121]
 ·subst c4;rfl
 by_cases c5:l=[116,101,114,109]
 ·subst c5;rfl
 rw[if_neg c1,if_neg c2,if_neg c3,if_neg c4,if_neg c5,beq_eq_false_iff_ne.2 c1,beq_eq_false_iff_ne.2 c2,beq_eq_false_iff_ne.2 c3,beq_eq_false_iff_ne.2 c4,beq_eq_false_iff_ne.2 c5]
 simp
theorem aCw (a b:ByteArray):oZ.f a b=some (chooseB a b):=by
 unfold oZ.f chooseB
 by_cases c:a=⟨#[]⟩
 ·subst c;rw[if_pos rfl,if_pos (by rw[L_toList];rfl)]
 rw[if_neg c,if_neg (fun h=>c (L_inj (by rw[← L_toList,h];rfl)))]
theorem aFw (s t:ByteArray) (hs:s.size≤1000000) (ht:t.size≤1000000):∀ (g i:Nat),s.size+1 - i≤g→i≤s.size+1→Ev (fun k=>fU.l0 k s t (i:Int)) (wU (L s) (L t) g i):=by
 have hl:=eN s;have hlt:=eN t;intro g
 induction g with
 | zero =>
  intro i h1 h2;refine Ev.step (f:=fun _=>some false) (fun k=>?_) (Ev.now _);simp only[fU.l0];rw[if_neg (by rw[w64 bA bA];omega)]
 | succ g ih =>
  intro i h1 h2;unfold wU
  by_cases c:s.size < i+t.size
  ·rw[if_pos bA];refine Ev.step (f:=fun _=>some false) (fun k=>?_) (Ev.now _);simp only[fU.l0];rw[if_neg (by rw[w64 bA bA];omega)]
  rw[if_neg bA];have hx:(s.extract i (i+t.size)).toList=((L s).drop i).take (L t).length:=by rw[L_toList,eX,hlt];congr 1;omega
  by_cases h:((L s).drop i).take (L t).length=L t
  ·rw[h,beq_self_eq_true,Bool.true_or];refine Ev.step (f:=fun _=>some true) (fun k=>?_) (Ev.now _);simp only[fU.l0];rw[w64 (n:=(i:Int)+t.size) bA bA,if_pos bA,if_pos bA,if_pos bA,if_pos ?_];rw[Int.toNat_natCast,show ((i:Int)+(t.size:Int)).toNat=i+t.size by omega,hx,h,L_toList]
  have:(((L s).drop i).take (L t).length==L t)=false:=by simpa using h
  rw[this,Bool.false_or];refine Ev.step (fun k=>?_) (ih (i+1) bA bA);simp only[fU.l0];rw[w64 (n:=(i:Int)+t.size) bA bA,if_pos bA,if_pos bA,if_pos bA,if_neg ?_,w64 bA bA]
  ·rfl
  rw[Int.toNat_natCast,show ((i:Int)+(t.size:Int)).toNat=i+t.size by omega,hx,L_toList];exact h
structure yP (st:fP):Prop where
 l:st.langs.length≤1000000
 d:st.dis.length≤1000000
 f:st.fmts.length≤1000000
 c:st.cont.length≤1000000
 lz:∀ x∈st.langs,x.size≤1000000
 dz:∀ x∈st.dis,x.size≤1000000
 cz:∀ x∈st.cont,x.size≤1000000
structure nJ (w:World) (st:fP) (vl vd vf vc:Value):Prop where
 l:fM w 0 vl st.langs
 d:fM w 0 vd st.dis
 f:nA w 0 vf st.fmts
 c:fM w 0 vc st.cont
theorem nJ.below {w w' : World} {st:fP} {vl vd vf vc:Value} (H:nJ w st vl vd vf vc) (hb:Below w.heap.size w w'):nJ w' st vl vd vf vc:=⟨H.l.below hb,H.d.below hb,H.f.below hb,H.c.below hb⟩
section
variable {w:World}
theorem oA {v:Value} {l:List ByteArray} (H:fM w 0 v l) (hl:l.length≤1000000) (s:ByteArray):Calls Tryz.prog 38 #[v,.string s] w fun e w'=>e = .returned (.bool (listed l s))∧Below w.heap.size w w':=by
 obtain ⟨k,hk⟩:=(aBl l s hl).rounds;obtain ⟨A0,c0,rfl,h0,r0⟩:=H.kd bA
 exact (fK.calls k A0 c0 l s _ w r0 h0 hk).mono fun _ _ ⟨h1,h2⟩=>⟨h1,h2.below⟩
theorem aDm {v:Value} {st:fP} (H:nA w 0 v st.fmts) (hl:st.fmts.length≤1000000) (s:ByteArray):Calls Tryz.prog 94 #[v,.string s] w fun e w'=>e = .returned (.bool (iB st s))∧Below w.heap.size w w':=by
 obtain ⟨k,hk⟩:=(aBp st s hl).rounds;obtain ⟨A0,c0,rfl,h0,r0⟩:=H.kd bA
 exact (fV.calls k A0 c0 _ s _ w r0 h0 hk).mono fun _ _ ⟨h1,h2⟩=>⟨h1,h2.below⟩
theorem aBa {v:Value} {st:fP} (H:nA w 0 v st.fmts) (hl:st.fmts.length≤1000000) (s e:ByteArray):Calls Tryz.prog 112 #[v,.string s,.string e] w fun x w'=>x = .returned (.bool (jY st s e))∧Below w.heap.size w w':=by
 obtain ⟨k,hk⟩:=(aFu st s e hl).rounds;obtain ⟨A0,c0,rfl,h0,r0⟩:=H.kd bA
 exact (fS.calls k A0 c0 _ s e _ w r0 h0 hk).mono fun _ _ ⟨h1,h2⟩=>⟨h1,h2.below⟩
theorem aCn (s t:ByteArray) (w:World):Calls Tryz.prog 42 #[.string s,.string t] w fun e w'=>e = .returned (.bool ((L t).isPrefixOf (L s)))∧Below w.heap.size w w' :=
 (iK.calls s t _ w (aAg s t)).mono fun _ _ ⟨h1,h2⟩=>⟨h1,h2.below⟩
theorem pT (x pre:ByteArray) (hx:x.size≤1000000) (w:World):Calls Tryz.prog 110 #[.string x,.string pre] w fun e w'=>e = .returned (.tuple #[.string (if hO x pre=true then hZ x pre else ⟨#[]⟩),.bool (hO x pre)])∧Below w.heap.size w w' :=
 pA.calls x pre _ _ w (aGe x pre hx)
theorem vG (x:ByteArray) (hx:x.size≤1000000) (w:World):Calls Tryz.prog 43 #[.string x] w fun e w'=>e = .returned (.string (low x))∧Below w.heap.size w w':=lower_calls x w bA
theorem uR (x:ByteArray) (hx:x.size≤1000000) (w:World):Calls Tryz.prog 111 #[.string x] w fun e w'=>e = .returned (.bool (isKind x))∧Below w.heap.size w w' :=
 lI.calls x _ w (aC7 x hx)
theorem rK (a b:ByteArray) (w:World):Calls Tryz.prog 93 #[.string a,.string b] w fun e w'=>e = .returned (.string (chooseB a b))∧Below w.heap.size w w' :=
 (oZ.calls a b _ w (aCw a b)).mono fun _ _ ⟨h1,h2⟩=>⟨h1,h2.below⟩
theorem rP (s t:ByteArray) (hs:s.size≤1000000) (ht:t.size≤1000000) (w:World):Calls Tryz.prog 27 #[.string s,.string t] w fun e w'=>e = .returned (.bool (fH (L s) (L t)))∧Below w.heap.size w w':=by
 have h:=aFw s t hs ht (s.size+1) 0 bA bA;obtain ⟨k,hk⟩:=h.rounds
 exact (fU.calls k s t _ w (by unfold fH;rw[eN];exact hk)).mono fun _ _ ⟨h1,h2⟩=>⟨h1,h2.below⟩
theorem aHt {v:Value} {l:List ByteArray} (H:fM w 0 v l) (hl:l.length≤1000000) (s:ByteArray):Calls Tryz.prog 38 #[v,.string s] w fun e w'=>e = .returned (.bool (listed l s))∧∃ m,w'=w.drewN m:=by
 obtain ⟨k,hk⟩:=(aBl l s hl).rounds;obtain ⟨A0,c0,rfl,h0,r0⟩:=H.kd bA
 exact (fK.calls k A0 c0 l s _ w r0 h0 hk).mono fun _ _ ⟨h1,h2⟩=>⟨h1,h2.out⟩
theorem aH5 {v:Value} {st:fP} (H:nA w 0 v st.fmts) (hl:st.fmts.length≤1000000) (s:ByteArray):Calls Tryz.prog 94 #[v,.string s] w fun e w'=>e = .returned (.bool (iB st s))∧∃ m,w'=w.drewN m:=by
 obtain ⟨k,hk⟩:=(aBp st s hl).rounds;obtain ⟨A0,c0,rfl,h0,r0⟩:=H.kd bA
 exact (fV.calls k A0 c0 _ s _ w r0 h0 hk).mono fun _ _ ⟨h1,h2⟩=>⟨h1,h2.out⟩
theorem aA0 (s:ByteArray) (hs:s.size≤1000000) (w:World):Calls Tryz.prog 41 #[.string s] w fun e w'=>∃ x,e = .returned (.tuple #[.string x,.bool (iO (L s))])∧(iO (L s)=true→x=gA s)∧x.size≤s.size∧Below w.heap.size w w':=by
 obtain ⟨x,h1,h2,h3⟩:=tN s hs;refine (jM.calls s x _ w h1).mono ?_;rintro e w' ⟨rfl,hb⟩;refine ⟨x,rfl,fun h=>L_inj ?_,h3,hb.below⟩;rw[h2 h];unfold inner gA;rw[eX,eN];congr 1
end
end Go.Proofs.YtbkobfoaphcamaaGreatDoor.Path
namespace Go.Proofs.YtbkobfoaphcamaaGreatDoor.Path
open Go.RowKit Go.Proofs.YtbkobfoaphcamaaGreatDoorW.PrintWords Go.Proofs.YtbkobfoaphcamaaGreatDoor.Base Go.Proofs.YtbkobfoaphcamaaGreatDoor.Total Go.Proofs.YtbkobfoaphcamaaGreatDoor.Lower
structure oX (r:RV) (k:Nat):Prop where
 ids:r.ids.length≤k
 unk:r.unk.length≤k
 langs:r.langs.length≤k
 marks:r.marks.length≤k
 lay:r.layAt < (r.ids.length:Int)
theorem oX.zero:oX lG 0:=⟨Nat.le_refl _,Nat.le_refl _,Nat.le_refl _,Nat.le_refl _,by decide⟩
theorem oX.word {r:RV} {k:Nat} (h:oX r k) (st:fP) (comp:ByteArray) (sc:Bool) (pts:Nat) (w:ByteArray) (m:Int):oX (mI st comp sc pts r w m) (k+1):=by
 obtain ⟨h1,h2,h3,h4,h5⟩:=h;unfold mI oY mB jO jQ RV.id
 repeat' split
 all_goals
  refine ⟨?_,?_,?_,?_,?_⟩ <;> simp only[List.length_append,List.length_singleton,List.length_set] <;> omega
section
variable (st:fP) (comp:ByteArray) (sc:Bool) (name:ByteArray) (cuts:List Nat)
def dK (k:Nat):RV×Nat:=(cuts.reverse.take k).foldl (nL st comp sc cuts.length name) (lG,name.size)
theorem yZ:dK st comp sc name cuts 0=(lG,name.size):=rfl
theorem qZ (k:Nat) (h:k < cuts.length):dK st comp sc name cuts (k+1)=nL st comp sc cuts.length name (dK st comp sc name cuts k) (cuts[cuts.length - 1 - k]' bA):=by
 unfold dK;rw[List.take_succ_eq_append_getElem (by rw[List.length_reverse];exact h),List.foldl_append,List.getElem_reverse];rfl
theorem aBe (k:Nat) (h:k < cuts.length):(dK st comp sc name cuts (k+1)).2=cuts[cuts.length - 1 - k]' bA:=by
 rw[qZ _ _ _ _ _ k h];rfl
theorem sX:∀ k,k≤cuts.length→oX (dK st comp sc name cuts k).1 k
 | 0,_=>oX.zero
 | k+1,h=>by
  rw[qZ _ _ _ _ _ k bA];exact (sX k bA).word ..
theorem aG7 (r:RV) (pts:Nat) (w:ByteArray) (m:Int):(mI st comp sc pts r w m).ids≠[]:=by
 unfold mI;split
 ·simp[oY,RV.id]
 exact aE4 (by assumption) pts w m
theorem aEj (k:Nat) (h0:0 < k) (h:k≤cuts.length):(dK st comp sc name cuts k).1.ids≠[]:=by
 obtain ⟨j,rfl⟩:∃ j,k=j+1:=⟨k - 1,aR⟩
 rw[qZ _ _ _ _ _ j bA];show (mI _ _ _ _ _ _ _).ids≠[];apply aG7
theorem sY (h:cuts≠[]):gU st comp sc name cuts=mI st comp sc cuts.length (dK st comp sc name cuts cuts.length).1 (name.extract 0 (dK st comp sc name cuts cuts.length).2) (-1):=by
 unfold gU dK;rw[if_neg h,List.take_of_length_le (by rw[List.length_reverse];exact Nat.le_refl _)]
theorem aIy (hup:cuts.Pairwise (· < ·)) (hlt:∀ c∈cuts,c < name.size) (k:Nat) (h:k < cuts.length):cuts[cuts.length - 1 - k]' bA+1≤(dK st comp sc name cuts k).2∧(dK st comp sc name cuts k).2≤name.size:=by
 cases k with
 | zero=>exact ⟨hlt _ (List.getElem_mem _),Nat.le_refl _⟩
 | succ k =>
  rw[aBe _ _ _ _ _ k bA];refine ⟨?_,Nat.le_of_lt (hlt _ (List.getElem_mem _))⟩;exact List.pairwise_iff_getElem.1 hup _ _ _ _ bA
theorem aHx (hlt:∀ c∈cuts,c < name.size) (h:cuts≠[]):(dK st comp sc name cuts cuts.length).2≤name.size:=by
 obtain ⟨j,hj⟩:∃ j,cuts.length=j+1:=⟨cuts.length - 1,by have:=List.length_pos_iff.2 h;omega⟩
 rw[hj,aBe _ _ _ _ _ j bA];exact Nat.le_of_lt (hlt _ (List.getElem_mem _))
end
theorem aGa (m:List Int) (N:Int) (k:Nat) (h:k < m.length):kL (m.take (k+1)) N=if 0≤m[k]∧m[k] < kL (m.take k) N then m[k] else kL (m.take k) N:=by
 rw[List.take_succ_eq_append_getElem h,xB]
theorem aD6 (m:List Int) (N:Nat):0≤kL m (N:Int)∧kL m (N:Int)≤(N:Int):=by
 have:∀ (l:List Int) (e:Int),0≤e→e≤(N:Int)→0≤l.foldl (fun e m=>if 0≤m∧m < e then m else e) e∧l.foldl (fun e m=>if 0≤m∧m < e then m else e) e≤(N:Int):=by
  intro l
  induction l with
  | nil=>intro e h1 h2;exact ⟨h1,h2⟩
  | cons a l ih =>
   intro e h1 h2;rw[List.foldl_cons];split
   ·exact ih _ bA bA
   exact ih _ h1 h2
 exact this m N bA bA
end Go.Proofs.YtbkobfoaphcamaaGreatDoor.Path
namespace Go.Proofs.YtbkobfoaphcamaaGreatDoor.Path
open Go.RowKit Go.Proofs.YtbkobfoaphcamaaGreatDoorW.PrintWords Go.Proofs.YtbkobfoaphcamaaGreatDoor.Base Go.Proofs.YtbkobfoaphcamaaGreatDoor.Total Go.Proofs.YtbkobfoaphcamaaGreatDoor.Ext Go.Proofs.YtbkobfoaphcamaaGreatDoor.Lower Go.Proofs.YtbkobfoaphcamaaGreatDoor.PCore
structure uF (x:WV):Prop where
 path:x.path.size≤1000000
 head:(L x.path)[0]? = some 47
 name:x.name.size≤x.path.size
 nEnd:x.nEnd≤x.name.size
 ext:x.ids≠[]→x.ext.size+1≤x.name.size
 extz:x.ext.size≤1000000
 ids:x.ids.length≤2000000
 unk:x.unk.length≤2000000
 langs:x.langs.length≤2000000
def slI (l:List UInt8) (n:Nat):Int:=match slB l n with | some j=>(j:Int) | none=>-1
theorem aC4 (p:ByteArray) (hp:p.size≤1000000):∀ n:Nat,n≤p.size→Ev (fun k=>eV.l0 k p ((n:Int) - 1)) (slI (L p) n):=by
 have hl:=eN p;intro n
 induction n with
 | zero =>
  intro _;refine Ev.step (f:=fun _=>some (-1)) (fun k=>?_) (Ev.now _);simp only[eV.l0];rw[if_neg bA]
 | succ n ih =>
  intro h;have hn:n < (L p).length:=by omega
  have hb:=sM p n hn;have e:((n+1:Nat):Int) - 1=(n:Int):=by omega
  rw[e];unfold slI slB
  by_cases c:(L p)[n]=47
  ·rw[if_pos (by rw[List.getElem?_eq_getElem hn,c])];refine Ev.step (f:=fun _=>some (n:Int)) (fun k=>?_) (Ev.now _);simp only[eV.l0];rw[if_pos bA,if_pos bA,if_pos bA,if_pos (by rw[hb];exact (tR _ 47 bF).2 c)]
  rw[if_neg (by rw[List.getElem?_eq_getElem hn];intro h2;injection h2 with h2;exact c h2)];refine Ev.step (fun k=>?_) (ih bA);simp only[eV.l0];rw[if_pos bA,if_pos bA,if_pos bA,if_neg (by rw[hb];exact fun h2=>c ((tR _ 47 bF).1 h2)),w64 bA bA]
theorem wR (p:ByteArray) (hp:p.size≤1000000):Ev (fun k=>eV.f k p (p.size:Int)) (slI (L p) p.size):=by
 refine Ev.congr (fun k=>?_) (aC4 p hp p.size (Nat.le_refl _));unfold eV.f;rw[w64 bA bA]
theorem vF (l:List UInt8):∀ (n j:Nat),slB l n=some j→j < n
 | 0,j,h=>by cases h
 | n+1,j,h=>by
  unfold slB at h;split at h
  ·injection h with h;omega
  have:=vF l n j h;omega
theorem aBn (p:ByteArray) (hp:p.size≤1000000):Ev (fun k=>kO.f k p) (iG p):=by
 unfold kO.f;refine Ev.bind (wR p hp) ?_;unfold iG slI
 cases h:slB (L p) p.size with
 | none=>dsimp only;exact Ev.congr (fun k=>by rw[if_pos bA]) (Ev.now _)
 | some j =>
  have:=vF _ _ _ h
  cases j with
  | zero=>dsimp only;exact Ev.congr (fun k=>by rw[if_pos bA]) (Ev.now _)
  | succ a=>dsimp only;exact Ev.congr (fun k=>by rw[if_neg bA,if_pos bA,if_pos bA];rfl) (Ev.now _)
theorem zB (p:ByteArray) (hp:p.size≤1000000) (h0:(L p)[0]? = some 47):Ev (fun k=>jS.f k p) (jG p):=by
 unfold jS.f;refine Ev.bind (wR p hp) ?_;unfold jG slI
 cases h:slB (L p) p.size with
 | none=>dsimp only;exact Ev.congr (fun k=>by rw[if_pos bA]) (Ev.now _)
 | some j =>
  have hj:=vF _ _ _ h
  cases j with
  | zero=>dsimp only;exact Ev.congr (fun k=>by rw[if_pos bA]) (Ev.now _)
  | succ a =>
   dsimp only
   have hz:(p.extract 0 (a+1)).size≤1000000:=by rw[ByteArray.size_extract];omega
   obtain ⟨r,hr,h1,_,_⟩:=pB (p.extract 0 (a+1)) hz ⟨0,by rw[eX,List.drop_zero,List.getElem?_take_of_lt bA];exact h0⟩;have:r=lastB (p.extract 0 (a+1)):=L_inj (h1.trans (kR _).symm);subst this;refine Ev.congr (fun k=>?_) (Ev.bind hr (Ev.now _));rw[if_neg bA,if_pos bA,if_pos bA];rfl
theorem tT (t:Int):iQ.f t=some (jR t):=by
 unfold iQ.f jR
 by_cases c:3≤t
 ·rw[if_pos c];congr 1;exact decide_eq_decide.2 ⟨fun h=>⟨c,h⟩,fun h=>h.2⟩
 rw[if_neg c];congr 1;exact (decide_eq_false (fun h=>c h.1)).symm
section
variable {x:WV} (O:uF x)
include O
theorem zR:lJ.f x.comp x.path x.name (x.nEnd:Int) x.ids x.unk x.langs x.ext x.fmt x.kind x.lay x.lang x.cust x.dis x.typ=some (qY x):=by
 have:=O.name;have:=O.path;unfold lJ.f qY;rw[w64 bA bA,if_pos bA,if_pos bA];congr 2;omega
omit O in
theorem head_size (x:WV):(qY x).size≤x.path.size:=by unfold qY;rw[ByteArray.size_extract];omega
theorem zZ:gG.f x.comp x.path x.name (x.nEnd:Int) x.ids x.unk x.langs x.ext x.fmt x.kind x.lay x.lang x.cust x.dis x.typ=some (kQ x):=by
 have h1:=O.name;have h2:=O.path;have h3:=O.nEnd;have h4:=head_size x;unfold gG.f kQ
 by_cases c:x.ids=[]
 ·rw[if_pos (by rw[c];rfl),if_pos c]
 rw[if_neg (by intro h;exact c (List.eq_nil_of_length_eq_zero bA)),if_neg c,zR O,Option.bind_some,if_pos bA,if_pos bA,Int.toNat_natCast,if_pos (by rw[ByteArray.size_extract];omega)]
theorem aF5:(kQ x).size≤2000000:=by
 have h1:=O.name;have h2:=O.path;have h4:=head_size x;unfold kQ;split
 ·omega
 rw[size_append,ByteArray.size_extract];omega
theorem aDn:jP.f x.comp x.path x.name (x.nEnd:Int) x.ids x.unk x.langs x.ext x.fmt x.kind x.lay x.lang x.cust x.dis x.typ=some (mJ x):=by
 have h1:=O.name;have h2:=O.path;have h3:=O.nEnd;have h4:=head_size x;have h5:=O.extz;have hd:(⟨#[46]⟩:ByteArray).size=1:=rfl;unfold jP.f mJ
 by_cases c:x.lang=⟨#[]⟩
 ·rw[if_pos (by rw[c,L_toList];rfl),if_pos c]
 rw[if_neg (fun h=>c (L_inj (by rw[← L_toList,h];rfl))),if_neg c,zR O,Option.bind_some,if_pos bA,if_pos bA,Int.toNat_natCast,if_pos (by rw[ByteArray.size_extract];omega),if_pos (by rw[size_append,ByteArray.size_extract];omega),if_pos (by rw[size_append,size_append,ByteArray.size_extract];omega)]
theorem aCv (s:ByteArray) (hs:s.size≤1000000) (hn:x.name.size≤s.size):nQ.f x.comp x.path x.name (x.nEnd:Int) x.ids x.unk x.langs x.ext x.fmt x.kind x.lay x.lang x.cust x.dis x.typ s=some (kU x s):=by
 have h5:=O.extz;unfold nQ.f kU
 by_cases c:x.ids=[]
 ·rw[if_pos (by rw[c];rfl),if_pos c]
 have h6:=O.ext c;rw[if_neg (by intro h;exact c (List.eq_nil_of_length_eq_zero bA)),if_neg c,w64 (n:=(s.size:Int) - (x.ext.size:Int)) bA bA,w64 bA bA,if_pos bA,if_pos bA];congr 2;omega
theorem tA (b:Bool):Ev (fun k=>gL.j0 k b x.comp x.path x.name (x.nEnd:Int) x.ids x.unk x.langs x.ext x.fmt x.kind x.lay x.lang x.cust x.dis x.typ) (if b=true then ⟨#[]⟩ else if x.ids=[] then x.path else if jR x.typ=true then (if iG x.path=⟨#[47]⟩ then ⟨#[]⟩ else iG x.path) else if x.typ=2 then kQ x else if x.ids.length=1 then x.path else kQ x++⟨#[46]⟩++x.ext):=by
 have h5:=O.extz;have h6:=aF5 O;have hd:(⟨#[46]⟩:ByteArray).size=1:=rfl
 have e0:(x.ids.length:Int)=0↔x.ids=[]:=⟨fun h=>List.eq_nil_of_length_eq_zero bA,fun h=>by rw[h];rfl⟩
 have e1:(iG x.path).toList=([47]:List UInt8)↔iG x.path=⟨#[47]⟩:=⟨fun h=>L_inj (by rw[← L_toList,h];rfl),fun h=>by rw[h,L_toList];rfl⟩
 refine Ev.step (f:=fun k=>_) (fun k=>rfl) ?_;simp only[gL.j0]
 cases b with
 | true=>exact Ev.now _
 | false =>
  simp only[Bool.false_eq_true,if_false]
  by_cases c:x.ids=[]
  ·simp only[if_pos (e0.2 c),if_pos c];exact Ev.now _
  simp only[if_neg (fun h=>c (e0.1 h)),if_neg c,tT,Option.bind_some]
  by_cases c2:jR x.typ=true
  ·simp only[if_pos c2];refine Ev.bind (aBn x.path O.path) ?_
   by_cases c3:iG x.path=⟨#[47]⟩
   ·simp only[if_pos (e1.2 c3),if_pos c3];exact Ev.now _
   simp only[if_neg (fun h=>c3 (e1.1 h)),if_neg c3];exact Ev.now _
  simp only[if_neg c2,zZ O,Option.bind_some]
  by_cases c4:x.typ=2
  ·simp only[if_pos c4];exact Ev.now _
  simp only[if_neg c4]
  by_cases c5:x.ids.length=1
  ·simp only[if_pos (show (x.ids.length:Int)=1 by omega),if_pos c5];exact Ev.now _
  simp only[if_neg (show ¬ (x.ids.length:Int)=1 by omega),if_neg c5];rw[show (fun (_:Nat)=>if (kQ x).size+1≤9223372036854775807 then if (kQ x++(⟨#[46]⟩:ByteArray)).size+x.ext.size≤9223372036854775807 then some ((kQ x++(⟨#[46]⟩:ByteArray))++x.ext) else none else none)=fun _=>some (kQ x++⟨#[46]⟩++x.ext) from by funext _;rw[if_pos bA,if_pos (by rw[size_append];omega)]];exact Ev.now _
theorem aFt:Ev (fun k=>gL.f k x.comp x.path x.name (x.nEnd:Int) x.ids x.unk x.langs x.ext x.fmt x.kind x.lay x.lang x.cust x.dis x.typ) (lW x):=by
 have e0:(x.ids.length:Int)=0↔x.ids=[]:=⟨fun h=>List.eq_nil_of_length_eq_zero bA,fun h=>by rw[h];rfl⟩
 have e1:x.path.toList=([47]:List UInt8)↔x.path=⟨#[47]⟩:=⟨fun h=>L_inj (by rw[← L_toList,h];rfl),fun h=>by rw[h,L_toList];rfl⟩
 unfold gL.f lW
 by_cases c:x.ids=[]
 ·simp only[if_pos (e0.2 c),if_pos c]
  by_cases c1:x.path=⟨#[47]⟩
  ·simp only[if_pos (e1.2 c1)]
   by_cases c2:x.typ≥2
   ·simp only[if_pos c2];have h:=tA O (decide (x.typ≤5));rw[if_pos c] at h
    by_cases c3:x.typ≤5
    ·rw[if_pos (decide_eq_true c3)] at h;rw[if_pos ⟨c1,c2,c3⟩];exact h
    rw[if_neg (by rw[decide_eq_false c3];decide)] at h;rw[if_neg (fun h2=>c3 h2.2.2)];exact h
   simp only[if_neg c2];have h:=tA O false;rw[if_neg bF,if_pos c] at h;rw[if_neg (fun h2=>c2 h2.2.1)];exact h
  simp only[if_neg (fun h=>c1 (e1.1 h))];have h:=tA O false;rw[if_neg bF,if_pos c] at h;rw[if_neg (fun h2=>c1 h2.1)];exact h
 simp only[if_neg (fun h=>c (e0.1 h)),if_neg c];have h:=tA O false;rw[if_neg bF,if_neg c] at h;exact h
end
end Go.Proofs.YtbkobfoaphcamaaGreatDoor.Path
namespace Go.Proofs.YtbkobfoaphcamaaGreatDoor.Path
open Go.RowKit Go.Proofs.YtbkobfoaphcamaaGreatDoorW.PrintWords Go.Proofs.YtbkobfoaphcamaaGreatDoor.Base Go.Proofs.YtbkobfoaphcamaaGreatDoor.Lower
theorem aD5 (c:UInt8):lY (jK c)=47↔c=47:=by
 have hn:∀ d:UInt8,d=47↔d.toNat=47:=fun d=>⟨fun h=>by rw[h];rfl,fun h=>UInt8.toNat_inj.1 h⟩
 by_cases h1:65≤c.toNat∧c.toNat≤90
 ·have e1:jK c=c+32:=by unfold jK;rw[if_pos h1]
  have e2:(c+32).toNat=c.toNat+32:=by
   rw[UInt8.toNat_add,show (32:UInt8).toNat=32 from rfl];omega
  have e3:c+32≠32:=by
   intro h;have:=congrArg UInt8.toNat h;rw[e2,show (32:UInt8).toNat=32 from rfl] at this;omega
  have e4:lY (c+32)=c+32:=by unfold lY;rw[if_neg e3]
  rw[e1,e4,hn,hn,e2];omega
 have e1:jK c=c:=by unfold jK;rw[if_neg h1]
 rw[e1];unfold lY
 by_cases h2:c=32
 ·rw[if_pos h2,h2];decide
 rw[if_neg h2]
theorem aAu {l:List UInt8} (h:∀ i:Nat,¬ (l[i]? = some 47∧l[i+1]? = some 47)):∀ i:Nat,¬ ((iJ l)[i]? = some 47∧(iJ l)[i+1]? = some 47):=by
 have hlead:∀ i:Nat,¬ ((kT l)[i]? = some 47∧(kT l)[i+1]? = some 47):=by
  intro i;unfold kT;split
  ·rintro ⟨_,h2⟩;simp at h2
  split
  ·exact h i
  rename_i h0 h1
  rintro ⟨h2,h3⟩
  cases i with
  | zero =>
   rw[List.getElem?_cons_succ,← List.head?_eq_getElem?] at h3;exact h1 h3
  | succ i =>
   rw[List.getElem?_cons_succ] at h2 h3;exact h i ⟨h2,h3⟩
 intro i;unfold iJ;simp only;split
 ·rintro ⟨h2,h3⟩
  have e:∀ k:Nat,(kT l).dropLast[k]? = some 47→(kT l)[k]? = some 47:=by
   intro k hk;rw[List.getElem?_dropLast] at hk;split at hk
   ·exact hk
   cases hk
  exact hlead i ⟨e _ h2,e _ h3⟩
 exact hlead i
theorem aB8 {s:ByteArray} (h:∀ i:Nat,¬ ((L s)[i]? = some 47∧(L s)[i+1]? = some 47)):∀ i:Nat,¬ ((L (norm s))[i]? = some 47∧(L (norm s))[i+1]? = some 47):=by
 intro i;rw[aFg,List.getElem?_map,List.getElem?_map,Option.map_eq_some_iff,Option.map_eq_some_iff];rintro ⟨⟨a,h1,h2⟩,⟨b,h3,h4⟩⟩;rw[(aD5 a).1 h2] at h1;rw[(aD5 b).1 h4] at h3;exact h i ⟨h1,h3⟩
end Go.Proofs.YtbkobfoaphcamaaGreatDoor.Path
