/- Texts that the law leans on: Built, Built2, More, Built3, Built4, Built5, Built6, PTextsx0, PTextsx1, PTextsx. Condition: as told at each. -/
import Derived.Test.YtcdgldnphhidlaaGreatDoorProg
import Derived.Below
import Derived.Deep.Draws
import Derived.Deep.AppendLies
import Derived.Maps.AppendAt
import Derived.OwnWalk
import Derived.Laws.BytesArg
import Derived.Laws.MakeOwn
import Derived.Laws.OwnMore
import Derived.Deep.OwnRows
import Derived.Tactics
import Derived.Lib.ConvBytes
import Derived.Laws.Slices
import Derived.WalkKit
import Derived.KernelRfl
import Derived.RowKit3
import Derived.Deep.LoopGhost
import Derived.Deep.QuietTactic
import Derived.BigQuiet
import Derived.WideLaws
import Derived.Deep.DeepCutAuto
import Derived.Deep.CutBlock
import Derived.Deep.RegionHeld3
import Derived.Laws.Rows
import Derived.Lib.AppendStr
import Derived.ArgAppend
import Derived.Laws.IdiomCopy
import Derived.OrdersHeld
import Derived.Laws.BitsLemmas
import Derived.RowKit
import Derived.Laws.StructEq
import Derived.Test.YtcdgldnphhidlaaGreatDoorVa
import Derived.Test.YtcdgldnphhidlaaGreatDoorV18
set_option linter.unusedVariables false
set_option linter.unusedSimpArgs false
set_option maxRecDepth 100000
set_option maxHeartbeats 16000000
namespace Go.Proofs.YtcdgldnphhidlaaGreatDoor.Path
open Go.RowKit Go.ZW.PrintWords Go.Proofs.YtcdgldnphhidlaaGreatDoor.Base Go.Proofs.YtcdgldnphhidlaaGreatDoor.Total Go.Proofs.YtcdgldnphhidlaaGreatDoor.Lower Go.Proofs.YtcdgldnphhidlaaGreatDoor.Ext
def Cut (n:List UInt8) (i:Nat) (X:List Nat):Prop:=∀ g,n.length - i≤g→jT n g i=X
theorem Cut.all {n:List UInt8} {X:List Nat} (h:Cut n 0 X):fB n=X:=h _ bA
theorem Cut.done {n:List UInt8}:∀ {i:Nat},(∀ j,i≤j→n[j]?≠some 46)→Cut n i []
 | i,h,0,_=>rfl
 | i,h,g+1,hg=>by
  unfold jT;split
  ·rfl
  rw[if_neg (h i (Nat.le_refl _))];exact Cut.done (fun j hj=>h j bA) g bA
theorem Cut.step {n:List UInt8} {i:Nat} {X:List Nat} (hi:n[i]?≠some 46) (hl:i < n.length) (h:Cut n (i+1) X):Cut n i X:=by
 intro g hg
 cases g with
 | zero=>omega
 | succ g =>
  unfold jT;rw[if_neg bA,if_neg hi];exact h g bA
theorem Cut.skip {n:List UInt8} {X:List Nat}:∀ (k i:Nat),(∀ j,i≤j→j < i+k→n[j]?≠some 46)→i+k≤n.length→Cut n (i+k) X→Cut n i X
 | 0,i,_,_,h=>h
 | k+1,i,hj,hl,h=>Cut.step (hj i (Nat.le_refl _) bA) bA (Cut.skip k (i+1) (fun j h1 h2=>hj j bA bA) bA (by rw[show i+1+k=i+(k+1) by omega];exact h))
theorem Cut.point {n:List UInt8} {i m:Nat} {X:List Nat} (hi:n[i]? = some 46) (hm:lM n i=m) (him:i < m) (h:Cut n m X):Cut n i (i::X):=by
 intro g hg;have hl:=(List.getElem?_eq_some_iff.1 hi).1
 cases g with
 | zero=>omega
 | succ g =>
  unfold jT;rw[if_neg bA,if_pos hi,hm,h g bA]
theorem rN {l:List UInt8} {c:UInt8} (h:∀ x∈l,x≠c) (j:Nat):l[j]?≠some c:=by
 intro hj;exact h c (List.mem_of_getElem? hj) rfl
theorem aBm {a b:List UInt8} (ha:∀ x∈a,x≠46) (hb:∀ x∈b,x≠46) (hb0:b.head?≠some 95):fB (a++46::b)=[a.length]:=by
 have at0:(a++46::b)[a.length]? = some 46:=by rw[List.getElem?_append_right (Nat.le_refl _),Nat.sub_self];rfl
 refine Cut.all (Cut.skip a.length 0 (fun j _ h=>?_) (by rw[List.length_append];omega) ?_)
 ·rw[List.getElem?_append_left bA];exact rN ha j
 rw[Nat.zero_add];refine Cut.point at0 (m:=a.length+1) ?_ bA (Cut.done fun j hj=>?_)
 ·unfold lM;rw[if_neg];rw[List.getElem?_append_right bA,show a.length+1 - a.length=1 by omega];intro h;exact hb0 (by rw[List.head?_eq_getElem?];exact h)
 rw[List.getElem?_append_right bA]
 obtain ⟨k,hk⟩:∃ k,j - a.length=k+1:=⟨j - a.length - 1,aQ⟩
 rw[hk,List.getElem?_cons_succ];exact rN hb k
theorem xK {a b c:List UInt8} (ha:∀ x∈a,x≠46) (hb:∀ x∈b,x≠46) (hc:∀ x∈c,x≠46) (hc0:c.head?≠some 95)
 (hn:b.head?≠some 95∨lM (a++46::(b++46::c)) a.length=a.length+1+b.length):fB (a++46::(b++46::c))=[a.length,a.length+1+b.length]:=by
 obtain ⟨n,hN⟩:∃ n,a++46::(b++46::c)=n:=⟨_,rfl⟩
 have hlen:n.length=a.length+1+b.length+1+c.length:=by rw[← hN];simp;omega
 have g0:∀ j,j < a.length→n[j]?≠some 46:=fun j h=>by rw[← hN,List.getElem?_append_left h];exact rN ha j
 have g1:n[a.length]? = some 46:=by rw[← hN,List.getElem?_append_right (Nat.le_refl _),Nat.sub_self];rfl
 have gb:∀ j,j < b.length→n[a.length+1+j]? = b[j]?:=fun j h=>by
  rw[← hN,List.getElem?_append_right bA,show a.length+1+j - a.length=j+1 by omega,List.getElem?_cons_succ,List.getElem?_append_left h]
 have g2:n[a.length+1+b.length]? = some 46:=by
  rw[← hN,List.getElem?_append_right bA,show a.length+1+b.length - a.length=b.length+1 by omega,List.getElem?_cons_succ,List.getElem?_append_right (Nat.le_refl _),Nat.sub_self];rfl
 have gc:∀ j,n[a.length+1+b.length+1+j]? = c[j]?:=fun j=>by
  rw[← hN,List.getElem?_append_right bA,show a.length+1+b.length+1+j - a.length=b.length+1+j+1 by omega,List.getElem?_cons_succ,List.getElem?_append_right bA,show b.length+1+j - b.length=j+1 by omega,List.getElem?_cons_succ]
 rw[hN] at hn ⊢
 have tail:Cut n (a.length+1+b.length) [a.length+1+b.length]:=by
  refine Cut.point g2 (m:=a.length+1+b.length+1) ?_ bA (Cut.done fun j hj=>?_)
  ·unfold lM;rw[if_neg];have:=gc 0;rw[Nat.add_zero] at this;rw[this];intro h;exact hc0 (by rw[List.head?_eq_getElem?];exact h)
  obtain ⟨k,rfl⟩:∃ k,j=a.length+1+b.length+1+k:=⟨j - (a.length+1+b.length+1),aQ⟩
  rw[gc k];exact rN hc k
 refine Cut.all (Cut.skip a.length 0 (fun j _ h=>g0 j bA) bA ?_);rw[Nat.zero_add];rcases hn with hn | hn
 ·refine Cut.point g1 (m:=a.length+1) ?_ bA (Cut.skip b.length (a.length+1) (fun j h1 h2=>?_) bA tail)
  ·unfold lM;rw[if_neg]
   by_cases hb1:b=[]
   ·have:=g2;rw[hb1] at this;have e:n[a.length+1]? = some 46:=this;rw[e];decide
   have:=gb 0 (List.length_pos_iff.2 hb1);rw[Nat.add_zero] at this;rw[this];intro h;exact hn (by rw[List.head?_eq_getElem?];exact h)
  obtain ⟨k,rfl⟩:∃ k,j=a.length+1+k:=⟨j - (a.length+1),aQ⟩
  rw[gb k bA];exact rN hb k
 exact Cut.point g1 hn bA tail
def iW (c:UInt8):Prop:=(97≤c.toNat∧c.toNat≤122)∨(48≤c.toNat∧c.toNat≤57)∨c.toNat=45
structure gK (w:ByteArray):Prop where
 ne:L w≠[]
 each:∀ c∈L w,iW c
 first:∀ c,(L w).head? = some c→97≤c.toNat∧c.toNat≤122
 notIndex:L w≠nW
 notBaseof:w.toList≠tK
 notKind:isKind w=false
theorem iW.ne {c x:UInt8} (h:iW c) (hx:¬ iW x):c≠x:=fun e=>hx (e▸h)
theorem not47:¬ iW 47:=by unfold iW;decide
theorem oH:¬ iW 46:=by unfold iW;decide
theorem aH7:¬ iW 95:=by unfold iW;decide
theorem gK.no {w:ByteArray} (h:gK w) {x:UInt8} (hx:¬ iW x):∀ c∈L w,c≠x:=fun c hc=>(h.each c hc).ne hx
theorem gK.head {w:ByteArray} (h:gK w):(L w).head?≠some 95:=fun e=>by have:=h.first _ e;revert this;decide
theorem gK.pos {w:ByteArray} (h:gK w):0 < (L w).length:=List.length_pos_iff.2 h.ne
theorem iW.norm {c:UInt8} (h:iW c):jF (gZ c)=c:=by
 unfold iW at h;have e:gZ c=c:=by unfold gZ;rw[if_neg bA]
 rw[e];unfold jF;rw[if_neg (by intro e;rw[e] at h;revert h;decide)]
def gD (dirs:List ByteArray):List UInt8:=dirs.flatMap fun d=>47::L d
def gU (dirs:List ByteArray):ByteArray:=⟨(gD dirs).toArray⟩
theorem jL (dirs:List ByteArray):L (gU dirs)=gD dirs:=kV _
theorem qQ (d:ByteArray) (ds:List ByteArray):gD (d::ds)=47::L d++gD ds:=rfl
theorem yK (a b:List ByteArray):gD (a++b)=gD a++gD b:=List.flatMap_append
theorem mP {dirs:List ByteArray}:gD dirs=[]↔dirs=[]:=by
 cases dirs with
 | nil=>exact ⟨fun _=>rfl,fun _=>rfl⟩
 | cons d ds=>exact ⟨(fun h=>by cases h),(fun h=>by cases h)⟩
theorem folder_each {dirs:List ByteArray} (h:∀ d∈dirs,gK d):∀ c∈gD dirs,c=47∨iW c:=by
 intro c hc;obtain ⟨d,hd,hc⟩:=List.mem_flatMap.1 hc;rcases List.mem_cons.1 hc with h1 | h1
 ·exact .inl h1
 exact .inr ((h d hd).each c h1)
theorem aEk {dirs:List ByteArray} (h:∀ d∈dirs,gK d):lL (gD dirs)=dirs.length:=by
 induction dirs with
 | nil=>rfl
 | cons d ds ih =>
  have e:(L d).filter (fun c=>c==47)=[]:=List.filter_eq_nil_iff.2 (fun c hc=>by simpa using (h d (List.mem_cons_self ..)).no not47 c hc);have:=ih (fun x hx=>h x (List.mem_cons_of_mem _ hx));unfold lL at *;rw[qQ,List.filter_append,List.length_append,this]
  simp[e]
  omega
structure kU (T:ByteArray) (dirs:List ByteArray) (n:List UInt8):Prop where
 eq:L T=gD dirs++47::n
 dirs:∀ d∈dirs,gK d
 no:∀ c∈n,c≠47
section
variable {T:ByteArray} {dirs:List ByteArray} {n:List UInt8} (B:kU T dirs n)
include B
theorem kU.split:nA (L T) (gD dirs++[47]) n:=⟨by rw[B.eq];simp,⟨_,rfl⟩,fun j=>rN B.no j⟩
theorem kU.lastL:L (lastB T)=n:=by
 have:=B.split.behind;unfold lastB;rw[kV,this.1,← this.2]
theorem kU.size:T.size=(gD dirs).length+1+n.length:=by rw[← eK,B.eq];simp;omega
theorem kU.at47:(L T)[(gD dirs).length]? = some 47:=by rw[B.eq,List.getElem?_append_right (Nat.le_refl _),Nat.sub_self];rfl
theorem kU.after (j:Nat) (h:(gD dirs).length < j):(L T)[j]?≠some 47:=by
 rw[B.eq,List.getElem?_append_right bA]
 obtain ⟨k,hk⟩:∃ k,j - (gD dirs).length=k+1:=⟨j - (gD dirs).length - 1,aQ⟩
 rw[hk,List.getElem?_cons_succ];exact rN B.no k
theorem kU.slB:slB (L T) T.size=some (gD dirs).length:=uJ B.at47 _ (by rw[B.size];omega) (fun j h _=>B.after j h)
theorem kU.ahead:T.extract 0 (gD dirs).length=gU dirs:=by
 refine L_inj ?_;rw[eS,jL,B.eq]
 simp
theorem kU.dir:kK T=if dirs=[] then ⟨#[47]⟩ else gU dirs:=by
 unfold kK;rw[B.slB]
 by_cases h:dirs=[]
 ·rw[if_pos h,mP.2 h];rfl
 rw[if_neg h];have h2:gD dirs≠[]:=fun e=>h (mP.1 e)
 obtain ⟨a,ha⟩:∃ a,(gD dirs).length=a+1:=⟨(gD dirs).length - 1,by have:=List.length_pos_iff.2 h2;omega⟩
 rw[ha];show T.extract 0 (a+1)=_;rw[← ha,B.ahead]
theorem kU.up (init:List ByteArray) (d:ByteArray) (h:dirs=init++[d]):kU (gU dirs) init (L d) :=
 ⟨by rw[jL,h,yK];show gD init++(47::L d++gD [])=_;simp[gD],fun x hx=>B.dirs x (h▸List.mem_append_left _ hx),(B.dirs d (h▸List.mem_append_right _ (List.mem_singleton.2 rfl))).no not47⟩
theorem kU.cont:mS T=dirs.getLast?.getD ⟨#[]⟩:=by
 unfold mS;rw[B.slB]
 by_cases h:dirs=[]
 ·rw[h];rfl
 have h2:gD dirs≠[]:=fun e=>h (mP.1 e)
 obtain ⟨a,ha⟩:∃ a,(gD dirs).length=a+1:=⟨(gD dirs).length - 1,by have:=List.length_pos_iff.2 h2;omega⟩
 rw[ha];show lastB (T.extract 0 (a+1))=_;rw[← ha,B.ahead];obtain ⟨init,d,hd⟩:=List.eq_nil_or_concat dirs |>.resolve_left h
 rw[List.concat_eq_append] at hd;refine L_inj ?_;rw[(B.up init d hd).lastL,hd,List.getLast?_append];rfl
theorem kU.sec (t:Int):uH T t=if dirs=[]∨(dirs.length=1∧t=3) then ⟨#[]⟩ else dirs.head?.getD ⟨#[]⟩:=by
 have hn:n.filter (fun c=>c==47)=[]:=List.filter_eq_nil_iff.2 (fun c hc=>by simpa using B.no c hc)
 have hc:lL ((L T).drop 1)=dirs.length:=by
  have h1:lL (L T)=dirs.length+1:=by
   have:=aEk B.dirs;unfold lL at *;rw[B.eq,List.filter_append,List.length_append,this]
   simp[hn]
  have h2:∃ r,L T=47::r:=by
   rw[B.eq]
   cases dirs with
   | nil=>exact ⟨_,rfl⟩
   | cons d ds=>exact ⟨_,rfl⟩
  obtain ⟨r,hr⟩:=h2;rw[hr] at h1 ⊢;unfold lL at *
  simp at h1 ⊢
  omega
 unfold uH;rw[hc]
 by_cases h:dirs=[]
 ·rw[if_pos (.inl (by rw[h];rfl)),if_pos (.inl h)]
 have hl:dirs.length≠0:=fun e=>h (List.length_eq_zero_iff.1 e)
 by_cases h2:dirs.length=1∧t=3
 ·rw[if_pos (.inr h2),if_pos (.inr h2)]
 rw[if_neg (fun a=>a.elim hl h2),if_neg (fun a=>a.elim h h2)];refine L_inj ?_;rw[kV,B.eq];obtain ⟨d,ds,hd⟩:=List.exists_cons_of_ne_nil h;have hp:=B.dirs d (by rw[hd];exact List.mem_cons_self ..);rw[hd];show (L d++gD ds++47::n).takeWhile (fun c=>c != 47)=L d
 have hh:∃ r,gD ds++47::n=47::r:=by
  cases ds with
  | nil=>exact ⟨_,rfl⟩
  | cons x xs=>exact ⟨_,rfl⟩
 obtain ⟨r,hr⟩:=hh;rw[List.append_assoc,hr,List.takeWhile_append_of_pos (fun c hc=>by simpa using hp.no not47 c hc)]
 simp
theorem kU.contDir (hd:dirs≠[]):(kK T).extract 0 ((Path.slB (L (kK T)) (kK T).size).getD 0)=gU dirs.dropLast:=by
 obtain ⟨init,d,h⟩:=List.eq_nil_or_concat dirs |>.resolve_left hd
 rw[List.concat_eq_append] at h;rw[B.dir,if_neg hd,(B.up init d h).slB,h,List.dropLast_concat];have:=(B.up init d h).ahead;rw[h] at this;exact this
end
theorem aAh (s t:List UInt8):∀ (g i:Nat),xO s t g i=true→∃ j,(s.drop j).take t.length=t
 | 0,i,h=>by cases h
 | g+1,i,h=>by
  unfold xO at h;split at h
  ·cases h
  rw[Bool.or_eq_true] at h;rcases h with h | h
  ·exact ⟨i,beq_iff_eq.1 h⟩
  exact aAh s t g (i+1) h
theorem kU.short {T:ByteArray} {dirs:List ByteArray} {n:List UInt8} (B:kU T dirs n):gC (L T) gY=false:=by
 cases h:gC (L T) gY with
 | false=>rfl
 | true =>
  obtain ⟨j,hj⟩:=aAh _ _ _ _ h
  have g:∀ k,k < 13→(L T)[j+k]? = gY[k]?:=by
   intro k hk
   have:((L T).drop j)[k]? = gY[k]?:=by
    conv=>rhs;rw[← hj]
    rw[List.getElem?_take_of_lt (show k < gY.length from hk)]
   rw[← this,List.getElem?_drop]
  have g12:=g 12 bH;have g1:=g 1 bH;have e1:(L T)[j+1]? = some 95:=g1;have e12:(L T)[j+12]? = some 47:=g12
  have hle:j+12≤(gD dirs).length:=by
   by_cases c:j+12≤(gD dirs).length
   ·exact c
   exact absurd e12 (B.after _ bA)
  rw[B.eq,List.getElem?_append_left bA] at e1;rcases folder_each B.dirs _ (List.mem_of_getElem? e1) with h | h
  ·cases h
  exact absurd h aH7
structure Agree (st st' : fD) (n:ByteArray):Prop where
 langs:∀ a b,listed st'.langs (n.extract a b)=listed st.langs (n.extract a b)
 dis:∀ a b,listed st'.dis (n.extract a b)=listed st.dis (n.extract a b)
 cont:∀ a b,listed st'.cont (n.extract a b)=listed st.cont (n.extract a b)
 fmts:st'.fmts=st.fmts
section
variable {st st' : fD} {n:ByteArray} (A:Agree st st' n) (hn:low n=n)
include A
theorem Agree.beside:jW st'=jW st:=by funext x y;unfold jW;rw[A.fmts]
include hn
end
theorem aHo {st:fD} {comp s:ByteArray} (K:nZ st comp s):gQ (fL (eI st) comp (norm s))=vT (wOf st comp (pathOf s false)) (wOf st comp (pathOf s false)).typ false:=by
 obtain ⟨h1,h2,h3⟩:=aGx K (wOf st comp (pathOf s false)).typ false;have e:{ fL (eI st) comp (norm s) with typ:=(wOf st comp (pathOf s false)).typ,trim:=false }=fL (eI st) comp (norm s):=by rw[← h2,← h3]
 rw[e] at h1;exact h1
theorem lQ.norm {x:ByteArray} (h:lQ x):norm x=x:=by
 refine L_inj ?_;rw[rW];refine (List.map_congr_left (fun c hc=>?_)).trans (List.map_id _);obtain ⟨i,hi,rfl⟩:=List.getElem_of_mem hc;have hs:i < x.size:=by rw[← eK];exact hi
 have:=h.each (i:Int) bA bA;rw[tF x i hi] at this;unfold gZ;rw[if_neg bA];unfold jF;rw[if_neg (by intro e;rw[e] at this;revert this;decide)];rfl
theorem pV {s:ByteArray} {dirs:List ByteArray} {n:List UInt8} (h:L (norm s)=gD dirs++47::n) (hd:∀ d∈dirs,gK d) (hn:∀ c∈n,c≠47) (h0:n≠[]):kU (pathOf s false) dirs n:=by
 refine ⟨?_,hd,hn⟩;have e:L (pathOf s false)=hE (L (norm s)):=by unfold pathOf;simp only[Bool.false_eq_true,if_false];rw[kV]
 have hh:(L (norm s)).head? = some 47:=by
  rw[h]
  cases dirs with
  | nil=>rfl
  | cons d ds=>rfl
 have hl:kD (L (norm s))=L (norm s):=by
  unfold kD;rw[if_neg (by intro e;rw[e] at hh;cases hh),if_pos hh]
 rw[e];unfold hE;simp only[hl];rw[if_neg,h];rintro ⟨_,h2⟩;rw[h,List.getLast?_append] at h2;obtain ⟨init,x,hx⟩:=List.eq_nil_or_concat n |>.resolve_left h0
 rw[List.concat_eq_append] at hx;have:(47::n).getLast? = some x:=by rw[hx,← List.cons_append,List.getLast?_append];rfl
 rw[this] at h2;simp only[Option.some_or,Option.some.injEq] at h2;exact hn x (hx▸List.mem_append_right _ (List.mem_singleton.2 rfl)) h2
theorem rO {s:ByteArray} (h:∀ c∈L s,iW c∨c=46∨c=47∨c=95):norm s=s:=by
 refine L_inj ?_;rw[rW];refine (List.map_congr_left (fun c hc=>?_)).trans (List.map_id _);rcases h c hc with h | rfl | rfl | rfl
 ·exact h.norm
 all_goals decide
theorem yX (st:fD) (comp:ByteArray) (sc:Bool) (n:ByteArray) (k:Nat):iR st comp sc n [k]=iX st comp sc 1 (kJ jK (n.extract (k+1) n.size) k) (n.extract 0 k) (-1):=by
 unfold iR;rw[if_neg bJ];simp only[List.reverse_cons,List.reverse_nil,List.nil_append,List.foldl_cons,List.foldl_nil,List.length_cons,List.length_nil];unfold nB qV;simp only[];rw[if_pos (show jK.ids=[] from rfl),if_neg (by simp[kJ,RV.id])]
theorem uF (st:fD) (comp:ByteArray) (sc:Bool) (n:ByteArray) (k m:Nat):iR st comp sc n [k,m]=iX st comp sc 2 (iX st comp sc 2 (kJ jK (n.extract (m+1) n.size) m) (n.extract (k+1) m) k) (n.extract 0 k) (-1):=by
 unfold iR;rw[if_neg bJ];simp only[List.reverse_cons,List.reverse_nil,List.nil_append,List.cons_append,List.foldl_cons,List.foldl_nil,List.length_cons,List.length_nil];unfold nB qV;simp only[];have h1:(kJ jK (n.extract (m+1) n.size) m).ids≠[]:=by simp[kJ,RV.id]
 rw[if_pos (show jK.ids=[] from rfl),if_neg h1,if_neg (yV h1 _ _ _)]
theorem qU {st:fD} {comp:ByteArray} {sc:Bool} {pts:Nat} {r:RV} {w:ByteArray} {k:Int} (hw:hO (L w)=false) (hb:w.toList≠tK) (hc:eV comp=false)
 (hl:¬ (((iQ comp || eV comp)=true∧2≤pts∧r.hasLang=false)∧(listed st.langs w || listed st.dis w)=true)):iX st comp sc pts r w k = { r with unk:=r.unk++[w] }:=by
 have c0:¬ (hO (L w)=true):=by rw[hw];decide
 have c1:¬ (eV comp=true):=by rw[hc];decide
 unfold iX;rw[if_neg c0];unfold nV;rw[if_neg hl,if_neg (fun h=>c1 h.1),if_neg (fun h=>c1 h.1),if_neg hb,if_neg (fun h=>c1 h.1)]
theorem aDo {st:fD} {comp:ByteArray} {sc:Bool} {pts:Nat} {r:RV} {w:ByteArray} {k:Int} (hw:hO (L w)=false)
 (hl:((iQ comp || eV comp)=true∧2≤pts∧r.hasLang=false)∧(listed st.langs w || listed st.dis w)=true):iX st comp sc pts r w k = { r.id w k with lang1:=w,hasLang:=true,dis:=r.dis || !listed st.langs w }:=by
 have c0:¬ (hO (L w)=true):=by rw[hw];decide
 unfold iX;rw[if_neg c0];unfold nV;rw[if_pos hl]
theorem pP {l:List UInt8} (h:l.head?≠some 95):hO l=false:=by
 unfold hO;rw[List.head?_eq_getElem?] at h;have:(l[0]? == some 95)=false:=beq_eq_false_iff_ne.2 h;rw[this];simp
theorem wC {st:fD} {comp T:ByteArray} {r:RV} {e:Nat} (hr:iR st comp (gC (L T) gY) (lastB T) (fB (L (lastB T)))=r) (he:(mM r.marks ((lastB T).size:Int)).toNat=e) :
 wOf st comp T = { comp:=comp,path:=T,name:=lastB T,nEnd:=e,ids:=r.ids,unk:=r.unk,langs:=r.langs,ext:=r.ext,fmt:=if eV comp=true∧chooseB r.fmt r.fmt1=⟨#[]⟩∧fB (L (lastB T))≠[]∧iE st r.ext=true then r.ext else chooseB r.fmt r.fmt1,kind:=chooseB r.kind r.kind1,lay:=chooseB r.lay r.lay1,lang:=(match r.langs with | []=>r.lang1 | l::_=>l),cust:=r.cust,dis:=r.dis,typ:=mL st comp (L T) (L ((lastB T).extract 0 e)) (!r.ids.isEmpty) r.ext r.baseof }:=by
 unfold wOf;simp only[hr,he];rfl
theorem aEg (x y:List UInt8) (c:UInt8):(x++c::y).drop (x.length+1)=y:=by
 rw[show x++c::y=(x++[c])++y by simp,show x.length+1=(x++[c]).length by simp,List.drop_left]
section
variable {n a b c:ByteArray}
theorem aAt (h:L n=L a++46::L b):n.extract 0 (L a).length=a∧n.extract ((L a).length+1) n.size=b∧n.size=(L a).length+1+(L b).length:=by
 have hs:n.size=(L a).length+1+(L b).length:=by rw[← eK,h];simp;omega
 refine ⟨L_inj ?_,L_inj ?_,hs⟩
 ·rw[eS,h];simp
 rw[eS,h,hs,aEg,show (L a).length+1+(L b).length - ((L a).length+1)=(L b).length by omega,List.take_length]
theorem tD (h:L n=L a++46::(L b++46::L c)):n.extract 0 (L a).length=a∧n.extract ((L a).length+1) ((L a).length+1+(L b).length)=b∧n.extract ((L a).length+1+(L b).length+1) n.size=c∧n.size=(L a).length+1+(L b).length+1+(L c).length:=by
 have hs:n.size=(L a).length+1+(L b).length+1+(L c).length:=by rw[← eK,h];simp;omega
 refine ⟨L_inj ?_,L_inj ?_,L_inj ?_,hs⟩
 ·rw[eS,h];simp
 ·rw[eS,h,aEg,show (L a).length+1+(L b).length - ((L a).length+1)=(L b).length by omega];simp
 have e:L a++46::(L b++46::L c)=(L a++46::L b)++46::L c:=by simp
 rw[eS,h,hs,e,show (L a).length+1+(L b).length+1=(L a++46::L b).length+1 by simp;omega,aEg,show (L a++46::L b).length+1+(L c).length - ((L a++46::L b).length+1)=(L c).length by omega,List.take_length]
end
theorem vY {st:fD} {comp s:ByteArray} {p:eJ} (K:nZ st comp s) (hp:fL (eI st) comp (norm s)=p):gQ p=aBc (wOf st comp (pathOf s false)):=by
 rw[← hp,aHo K,aE0]
theorem kU.headIs {T:ByteArray} {dirs:List ByteArray} {n:List UInt8} (B:kU T dirs n):T.extract 0 (T.size - (lastB T).size)=gU dirs++⟨#[47]⟩:=by
 refine L_inj ?_;have h:(lastB T).size=n.length:=by rw[← eK,B.lastL]
 rw[eS,iP,jL,B.size,h,B.eq,show (gD dirs).length+1+n.length - n.length - 0=(gD dirs++[47]).length by simp];rw[show gD dirs++47::n=(gD dirs++[47])++n by simp,List.drop_zero,List.take_left];rfl
theorem pZ {dirs:List ByteArray} {n:List UInt8} (hd:∀ d∈dirs,gK d) (hn:∀ c∈n,iW c∨c=46∨c=47∨c=95):∀ c∈gD dirs++47::n,iW c∨c=46∨c=47∨c=95:=by
 intro c hc;rcases List.mem_append.1 hc with h | h
 ·rcases folder_each hd c h with h | h
  ·exact .inr (.inr (.inl h))
  exact .inl h
 rcases List.mem_cons.1 h with h | h
 ·exact .inr (.inr (.inl h))
 exact hn c h
theorem aD0 {a b:ByteArray} (h:L a≠L b):a≠b:=fun e=>h (e▸rfl)
theorem gK.neE {w:ByteArray} (h:gK w):w≠⟨#[]⟩:=aD0 (by rw[show L (⟨#[]⟩:ByteArray)=[] from rfl];exact h.ne)
theorem gK.notContent {w:ByteArray} (h:gK w):L w≠mN:=fun e=>h.head (by rw[e];rfl)
theorem aEz {st:fD} {comp ext:ByteArray} {path nm:List UInt8} {pt bo:Bool} (hc:iQ comp=false) (hl:eV comp=false) (ha:kZ comp=false) (hs:gC path gY=false) (hn:nm≠mN):mL st comp path nm pt ext bo=0:=by
 have c1:¬ (eV comp=true):=by rw[hl];decide
 unfold mL;rw[if_neg (by rw[hc,ha];rintro ⟨⟨_,h,_⟩,_⟩;cases h),if_neg (fun h=>hn h.1.2.1),if_neg (fun h=>hn h.1.2.1),if_neg (by rw[hs];decide),if_neg (fun h=>c1 h.1),if_neg (fun h=>c1 h.1),if_neg (fun h=>c1 h.1),if_neg (fun h=>hn h.2.1)]
theorem uE {st:fD} {comp ext:ByteArray} {path nm:List UInt8} {bo:Bool} (hc:iQ comp=true) (he:listed st.cont ext=true) (hn:nm≠[]):mL st comp path nm true ext bo=if nm=nW then 3 else if nm=mT then 4 else 2:=by
 unfold mL;rw[if_pos ⟨⟨rfl,by rw[hc];rfl,he⟩,hn⟩]
theorem aCj (k N:Nat) (h:k < N):(mM [(k:Int)] (N:Int)).toNat=k:=by
 unfold mM;simp only[List.foldl_cons,List.foldl_nil];rw[if_pos ⟨aQ,aQ⟩];omega
theorem aCk (k m N:Nat) (h1:k < m) (h:m < N):(mM [(m:Int),(k:Int)] (N:Int)).toNat=k:=by
 unfold mM;simp only[List.foldl_cons,List.foldl_nil];rw[if_pos (show (0:Int)≤m∧(m:Int) < N from ⟨aQ,aQ⟩),if_pos ⟨aQ,aQ⟩];omega
section
variable {st:fD} {comp s:ByteArray} {p:eJ} (K:nZ st comp s) (hp:fL (eI st) comp (norm s)=p) {dirs:List ByteArray} (hd:∀ d∈dirs,gK d)
include K hp hd
theorem aEm {name ext:ByteArray} (hs:L s=gD dirs++47::(L name++46::L ext)) (hname:gK name) (hext:gK ext) (hc:iQ comp=false) (hl:eV comp=false) (ha:kZ comp=false) :
 p.typ=0∧fH p 0=ext∧pE p=⟨#[]⟩∧iV p=[ext]∧kB p=[name]∧nH p=s∧nrm p.trim p.s=s∧jH p false false=gU dirs++⟨#[47]⟩++name∧jA p=name∧nJ p=name∧nI p=name∧kS p=dirs.head?.getD ⟨#[]⟩:=by
 have hn:norm s=s:=rO (by
  rw[hs];refine pZ hd (fun c hc=>?_);rcases List.mem_append.1 hc with h | h
  ·exact .inl (hname.each c h)
  rcases List.mem_cons.1 h with h | h
  ·exact .inr (.inl h)
  exact .inl (hext.each c h))
 have B:=pV (s:=s) (by rw[hn];exact hs) hd (fun c hc=>by
  rcases List.mem_append.1 hc with h | h
  ·exact hname.no not47 c h
  rcases List.mem_cons.1 h with h | h
  ·rw[h];decide
  exact hext.no not47 c h) bJ
 have hT:pathOf s false=s:=L_inj (by rw[B.eq,hs]);have E:=vY K hp;rw[hT] at B E;have hF:=B.lastL;obtain ⟨w1,w2,w3⟩:=aAt hF;have hcut:fB (L (lastB s))=[(L name).length]:=by rw[hF];exact aBm (hname.no oH) (hext.no oH) hext.head
 have hr:iR st comp (gC (L s) gY) (lastB s) (fB (L (lastB s))) = { kJ jK ext ((L name).length:Int) with unk:=[name] }:=by
  rw[hcut,yX,w1,w2,qU (pP hname.head) hname.notBaseof hl (by rw[hc,hl];rintro ⟨⟨h,_⟩,_⟩;cases h)];rfl
 have W:=wC (st:=st) (comp:=comp) (T:=s) hr (aCj _ _ (by rw[w3];omega));rw[w1,aEz hc hl ha B.short hname.notContent,if_neg (by rw[hl];rintro ⟨h,_⟩;cases h)] at W;rw[W] at E;refine ⟨congrArg ToldV.typ E,congrArg ToldV.ext E,congrArg ToldV.lang E,congrArg ToldV.ids E,congrArg ToldV.unk E,congrArg ToldV.base E,congrArg ToldV.path E,?_,?_,?_,?_,?_⟩
 ·refine (congrArg ToldV.pathNoId E).trans ?_;show sT _++(lastB s).extract 0 (L name).length=_;rw[w1];unfold sT;exact congrArg (· ++ name) B.headIs
 ·exact (congrArg ToldV.nameNoId E).trans w1
 ·refine (congrArg ToldV.nameNoExt E).trans ?_;show (lastB s).extract 0 ((lastB s).size - ext.size - 1)=_;rw[show (lastB s).size - ext.size - 1=(L name).length by rw[w3,eK ext];omega];exact w1
 ·exact (congrArg ToldV.baseName E).trans w1
 refine (congrArg ToldV.section_ E).trans ?_;show uH s 0=_;rw[B.sec];split
 ·rename_i h
  rcases h with h | ⟨_,h⟩
  ·rw[h];rfl
  cases h
 rfl
end
structure tO (w:ByteArray):Prop where
 ne:L w≠[]
 each:∀ c∈L w,iW c∨c=95
 wrap:hO (L w)=false
 notBaseof:w.toList≠tK
theorem gK.name {w:ByteArray} (h:gK w):tO w:=⟨h.ne,fun c hc=>.inl (h.each c hc),pP h.head,h.notBaseof⟩
theorem tO.no {w:ByteArray} (h:tO w) {x:UInt8} (hx:¬ iW x) (h9:x≠95):∀ c∈L w,c≠x:=fun c hc=>(h.each c hc).elim (fun h=>h.ne hx) (fun h e=>h9 (e▸h))
theorem zO {comp:ByteArray} (hc:iQ comp=true):eV comp=false:=by
 unfold iQ at hc;unfold eV;rw[beq_iff_eq.1 hc];decide
structure pS (st:fD) (s:ByteArray) (p:eJ) (dirs:List ByteArray) (nm e lang:ByteArray) (ids langs:List ByteArray) (dis:Bool):Prop where
 built:∃ n,kU s dirs n
 path:nrm p.trim p.s=s
 typ:p.typ=if L nm=nW then 3 else if L nm=mT then 4 else 2
 ids:iV p=ids
 langs:iT p=langs
 lang:pE p=lang
 ext:fH p 0=e
 dis:p.dis=dis
 cust:oG p=⟨#[]⟩
 name:jA p=nm
 base:nH p=if lR p.typ=true then (if kK s=⟨#[47]⟩ then ⟨#[]⟩ else kK s) else if p.typ=2 then gU dirs++⟨#[47]⟩++nm else nH p
 baseName:lR p.typ=true→nI p=mS s
 cont:mA p=mS s
 sec:kS p=uH s p.typ
 dir:pK p=kK s
 contDir:lO p=if lR p.typ=true∧mS s≠⟨#[]⟩ then (kK s).extract 0 ((slB (L (kK s)) (kK s).size).getD 0) else kK s
theorem pS.of {st:fD} {s:ByteArray} {p:eJ} {dirs:List ByteArray} {n:List UInt8} {nm:ByteArray} {W:WV} (B:kU s dirs n) (E:gQ p=aBc W) (h1:W.path=s) (h2:W.name=lastB s) (h3:(lastB s).extract 0 W.nEnd=nm) (h4:W.typ=if L nm=nW then 3 else if L nm=mT then 4 else 2) (h5:W.ids≠[]) (h6:W.cust=⟨#[]⟩) :
 pS st s p dirs nm W.ext W.lang W.ids W.langs W.dis where
 built:=⟨n,B⟩
 path:=(congrArg ToldV.path E).trans h1
 typ:=(congrArg ToldV.typ E).trans h4
 ids:=congrArg ToldV.ids E
 langs:=congrArg ToldV.langs E
 lang:=congrArg ToldV.lang E
 ext:=congrArg ToldV.ext E
 dis:=congrArg ToldV.disabled E
 cust:=(congrArg ToldV.custom E).trans h6
 name:=by
  refine (congrArg ToldV.nameNoId E).trans ?_;show W.name.extract 0 W.nEnd=_;rw[h2,h3]
 base:=by
  have ht:p.typ=W.typ:=congrArg ToldV.typ E;have hb:nH p=rP W:=congrArg ToldV.base E;rw[hb,ht];unfold rP;rw[if_neg h5,h1]
  by_cases c:lR W.typ=true
  ·rw[if_pos c,if_pos c]
  rw[if_neg c,if_neg c]
  by_cases c2:W.typ=2
  ·rw[if_pos c2,if_pos c2];unfold pF sT;rw[if_neg h5,h1,h2,h3,B.headIs]
  rw[if_neg c2,if_neg c2]
 baseName:=fun hb=>by
  refine (congrArg ToldV.baseName E).trans ?_;have ht:p.typ=W.typ:=congrArg ToldV.typ E;show (if lR W.typ=true then mS W.path else _)=_;rw[← ht,if_pos hb,h1]
 cont:=by
  refine (congrArg ToldV.container E).trans ?_;show mS W.path=_;rw[h1]
 sec:=by
  refine (congrArg ToldV.section_ E).trans ?_;have ht:p.typ=W.typ:=congrArg ToldV.typ E;show uH W.path W.typ=_;rw[h1,ht]
 dir:=by
  refine (congrArg ToldV.dir E).trans ?_;show kK W.path=_;rw[h1]
 contDir:=by
  refine (congrArg ToldV.containerDir E).trans ?_;have ht:p.typ=W.typ:=congrArg ToldV.typ E;show qL W=_;unfold qL;rw[h1,ht]
section
variable {st:fD} {comp s:ByteArray} {p:eJ} (K:nZ st comp s) (hp:fL (eI st) comp (norm s)=p) {dirs:List ByteArray} (hd:∀ d∈dirs,gK d)
include K hp hd
theorem aCf {nm e:ByteArray} (hs:L s=gD dirs++47::(L nm++46::L e)) (hnm:tO nm) (he:gK e) (hc:iQ comp=true) (hce:listed st.cont e=true) :
 pS st s p dirs nm e ⟨#[]⟩ [e] [] false:=by
 have hl:=zO hc
 have hn:norm s=s:=rO (by
  rw[hs];refine pZ hd (fun c hc=>?_);rcases List.mem_append.1 hc with h | h
  ·rcases hnm.each c h with h | h
   ·exact .inl h
   exact .inr (.inr (.inr h))
  rcases List.mem_cons.1 h with h | h
  ·exact .inr (.inl h)
  exact .inl (he.each c h))
 have B:=pV (s:=s) (by rw[hn];exact hs) hd (fun c hc=>by
  rcases List.mem_append.1 hc with h | h
  ·exact hnm.no not47 bH c h
  rcases List.mem_cons.1 h with h | h
  ·rw[h];decide
  exact he.no not47 c h) bJ
 have hT:pathOf s false=s:=L_inj (by rw[B.eq,hs]);have E:=vY K hp;rw[hT] at B E;have hF:=B.lastL;obtain ⟨w1,w2,w3⟩:=aAt hF;have hcut:fB (L (lastB s))=[(L nm).length]:=by rw[hF];exact aBm (hnm.no oH bH) (he.no oH) he.head
 have hr:iR st comp (gC (L s) gY) (lastB s) (fB (L (lastB s))) = { kJ jK e ((L nm).length:Int) with unk:=[nm] }:=by
  rw[hcut,yX,w1,w2,qU hnm.wrap hnm.notBaseof hl (by rintro ⟨⟨_,h,_⟩,_⟩;omega)];rfl
 have W:=wC (st:=st) (comp:=comp) (T:=s) hr (aCj _ _ (by rw[w3];omega));rw[W] at E;refine pS.of B E rfl rfl w1 ?_ (by simp[kJ,RV.id]) rfl;show mL st comp (L s) (L ((lastB s).extract 0 (L nm).length)) true e false=_;rw[w1,uE hc hce hnm.ne]
theorem xT {nm l e:ByteArray} (hs:L s=gD dirs++47::(L nm++46::(L l++46::L e))) (hnm:tO nm) (hl' : gK l) (he:gK e) (hc:iQ comp=true) (hce:listed st.cont e=true) (hll:(listed st.langs l || listed st.dis l)=true) :
 pS st s p dirs nm e l [e,l] [] (!listed st.langs l):=by
 have hl:=zO hc
 have hn:norm s=s:=rO (by
  rw[hs];refine pZ hd (fun c hc=>?_);rcases List.mem_append.1 hc with h | h
  ·rcases hnm.each c h with h | h
   ·exact .inl h
   exact .inr (.inr (.inr h))
  rcases List.mem_cons.1 h with h | h
  ·exact .inr (.inl h)
  rcases List.mem_append.1 h with h | h
  ·exact .inl (hl'.each c h)
  rcases List.mem_cons.1 h with h | h
  ·exact .inr (.inl h)
  exact .inl (he.each c h))
 have B:=pV (s:=s) (by rw[hn];exact hs) hd (fun c hc=>by
  rcases List.mem_append.1 hc with h | h
  ·exact hnm.no not47 bH c h
  rcases List.mem_cons.1 h with h | h
  ·rw[h];decide
  rcases List.mem_append.1 h with h | h
  ·exact hl'.no not47 c h
  rcases List.mem_cons.1 h with h | h
  ·rw[h];decide
  exact he.no not47 c h) bJ
 have hT:pathOf s false=s:=L_inj (by rw[B.eq,hs]);have E:=vY K hp;rw[hT] at B E;have hF:=B.lastL;obtain ⟨w1,w2,w3,w4⟩:=tD hF;have hcut:fB (L (lastB s))=[(L nm).length,(L nm).length+1+(L l).length]:=by rw[hF];exact xK (hnm.no oH bH) (hl'.no oH) (he.no oH) he.head (.inl hl'.head)
 have hr:iR st comp (gC (L s) gY) (lastB s) (fB (L (lastB s))) = { (kJ jK e (((L nm).length+1+(L l).length:Nat):Int)).id l ((L nm).length:Int) with lang1:=l,hasLang:=true,dis:=!listed st.langs l,unk:=[nm] }:=by
  rw[hcut,uF,w1,w2,w3,aDo (pP hl'.head) ⟨⟨by rw[hc];rfl,Nat.le_refl _,rfl⟩,hll⟩,qU hnm.wrap hnm.notBaseof hl (by rintro ⟨⟨_,_,h⟩,_⟩;cases h)]
  simp[kJ,RV.id,jK]
 have W:=wC (st:=st) (comp:=comp) (T:=s) hr (aCk _ _ _ bA (by rw[w4];omega));rw[W] at E;refine pS.of B E rfl rfl w1 ?_ (by simp[kJ,RV.id]) rfl;show mL st comp (L s) (L ((lastB s).extract 0 (L nm).length)) true e false=_;rw[w1,uE hc hce hnm.ne]
end
theorem aC6 {dirs:List ByteArray} (hd:∀ d∈dirs,gK d) (h:dirs≠[]):gU dirs≠⟨#[47]⟩:=by
 refine aD0 ?_;obtain ⟨d,ds,rfl⟩:=List.exists_cons_of_ne_nil h;rw[jL,qQ];have:=(hd d (List.mem_cons_self ..)).ne;intro e;rw[show L (⟨#[47]⟩:ByteArray)=[47] from rfl,List.cons_append] at e;injection e with _ e
 exact this (List.append_eq_nil_iff.1 e).1
theorem aDw {st:fD} {s:ByteArray} {p:eJ} {dirs:List ByteArray} {nm e lang:ByteArray} {ids langs:List ByteArray} {dis:Bool} (P:pS st s p dirs nm e lang ids langs dis) (ht:p.typ=3∨p.typ=4) :
 nH p=gU dirs∧nI p=dirs.getLast?.getD ⟨#[]⟩∧mA p=dirs.getLast?.getD ⟨#[]⟩∧pK p=(if dirs=[] then ⟨#[47]⟩ else gU dirs)∧(dirs≠[]→lO p=gU dirs.dropLast) ∧
 kS p=(if dirs=[]∨(dirs.length=1∧p.typ=3) then ⟨#[]⟩ else dirs.head?.getD ⟨#[]⟩):=by
 obtain ⟨n,B⟩:=P.built
 have hb:lR p.typ=true:=by
  unfold lR;exact decide_eq_true bA
 refine ⟨?_,by rw[P.baseName hb,B.cont],by rw[P.cont,B.cont],by rw[P.dir,B.dir],fun h=>?_,by rw[P.sec,B.sec]⟩
 ·rw[P.base,if_pos hb,B.dir]
  by_cases h:dirs=[]
  ·rw[if_pos h,if_pos rfl,h];rfl
  rw[if_neg h,if_neg (aC6 B.dirs h)]
 have hc:mS s≠⟨#[]⟩:=by
  rw[B.cont];obtain ⟨init,d,hd⟩:=List.eq_nil_or_concat dirs |>.resolve_left h
  rw[List.concat_eq_append] at hd;rw[hd,List.getLast?_append];exact (B.dirs d (hd▸List.mem_append_right _ (List.mem_singleton.2 rfl))).neE
 rw[P.contDir,if_pos ⟨hb,hc⟩,B.contDir h]
theorem aGa {st:fD} {n e:ByteArray} (h:iE st n=false):jW st n e=false:=by
 unfold iE at h;unfold jW;rw[List.any_eq_false] at h ⊢;intro x hx;have:=h x hx;intro hb;rw[Bool.and_eq_true] at hb;exact this hb.1
theorem aAn {w:ByteArray} (h:∀ c∈L w,iW c∨c=95):low w=w:=by
 refine L_inj ?_;rw[rG];refine (List.map_congr_left (fun c hc=>?_)).trans (List.map_id _);rcases h c hc with h | rfl
 ·unfold iW at h;unfold gZ;rw[if_neg bA];rfl
 decide
theorem last_at (X:List UInt8):(95::(X++[95]))[(95::(X++[95])).length - 1]? = some (95:UInt8):=by
 have e:(95::(X++[95])).length - 1=X.length+1:=by simp
 rw[e,List.getElem?_cons_succ,List.getElem?_append_right (Nat.le_refl _),Nat.sub_self];rfl
theorem aCs {n:List UInt8} {e:Nat} (h9:n[e]? = some 95) (h6:n[e+1]? = some 46):∀ (g k:Nat),e - k < g→k≤e→(∀ j,k≤j→j < e→n[j]?≠some 47∧n[j+1]?≠some 46)→kT n g k=some e
 | 0,k,h,_,_=>by omega
 | g+1,k,hg,hk,hj=>by
  have hl:=(List.getElem?_eq_some_iff.1 h6).1;unfold kT
  by_cases c:k=e
  ·subst c;rw[if_neg (by rw[h9];decide),if_pos ⟨h9,.inr h6⟩]
  obtain ⟨j1,j2⟩:=hj k (Nat.le_refl _) bA;rw[if_neg j1,if_neg (by rintro ⟨_,h | h⟩ <;> first | omega | exact j2 h)];exact aCs h9 h6 g (k+1) bA bA (fun j a b=>hj j bA b)
section
variable {st:fD} {comp s:ByteArray} {p:eJ} (K:nZ st comp s) (hp:fL (eI st) comp (norm s)=p) {dirs:List ByteArray} (hd:∀ d∈dirs,gK d)
include K hp hd
theorem aB4 {lay fn fe:ByteArray} (hs:L s=gD dirs++47::(L lay++46::(L fn++46::L fe))) (h1:gK lay) (h2:gK fn) (h3:gK fe) (hl:eV comp=true)
 (hln:(listed st.langs lay || listed st.dis lay)=false) (hlf:(listed st.langs fn || listed st.dis fn)=false) (hf:jW st fn fe=true) (hn1:iE st lay=false) :
 xQ p=fn∧qG p=lay∧fH p 0=fe∧iV p=[fe,fn,lay]:=by
 have hn:norm s=s:=rO (by
  rw[hs];refine pZ hd (fun c hc=>?_);rcases List.mem_append.1 hc with h | h
  ·exact .inl (h1.each c h)
  rcases List.mem_cons.1 h with h | h
  ·exact .inr (.inl h)
  rcases List.mem_append.1 h with h | h
  ·exact .inl (h2.each c h)
  rcases List.mem_cons.1 h with h | h
  ·exact .inr (.inl h)
  exact .inl (h3.each c h))
 have B:=pV (s:=s) (by rw[hn];exact hs) hd (fun c hc=>by
  rcases List.mem_append.1 hc with h | h
  ·exact h1.no not47 c h
  rcases List.mem_cons.1 h with h | h
  ·rw[h];decide
  rcases List.mem_append.1 h with h | h
  ·exact h2.no not47 c h
  rcases List.mem_cons.1 h with h | h
  ·rw[h];decide
  exact h3.no not47 c h) bJ
 have hT:pathOf s false=s:=L_inj (by rw[B.eq,hs]);have E:=vY K hp;rw[hT] at B E;have hF:=B.lastL;obtain ⟨w1,w2,w3,w4⟩:=tD hF;have hcut:fB (L (lastB s))=[(L lay).length,(L lay).length+1+(L fn).length]:=by rw[hF];exact xK (h1.no oH) (h2.no oH) (h3.no oH) h3.head (.inl h2.head)
 have hr:iR st comp (gC (L s) gY) (lastB s) (fB (L (lastB s))) = { ({ (kJ jK fe (((L lay).length+1+(L fn).length:Nat):Int)).id fn ((L lay).length:Int) with fmt1:=fn }).id lay (-1) with layAt:=2,lay1:=lay }:=by
  rw[hcut,uF,w1,w2,w3,B.short]
  have a1:∀ r:RV,∀ k:Int,r.ext=fe→iX st comp false 2 r fn k = { r.id fn k with fmt1:=fn }:=by
   intro r k hr;unfold iX;rw[if_neg (by rw[pP h2.head];decide)];unfold nV;rw[if_neg (by rw[hlf];rintro ⟨_,h⟩;cases h),if_pos ⟨hl,by rw[hr];exact hf⟩]
  have a2:∀ r:RV,r.layAt < 0→iX st comp false 2 r lay (-1) = { r.id lay (-1) with layAt:=r.ids.length,lay1:=lay }:=by
   intro r hr;unfold iX;rw[if_neg (by rw[pP h1.head];decide)];unfold nV;rw[if_neg (by rw[hln];rintro ⟨_,h⟩;cases h),if_neg (by rw[aGa hn1];rintro ⟨_,h⟩;cases h),if_neg (by rw[h1.notKind];rintro ⟨_,_,h⟩;cases h),if_neg h1.notBaseof,if_pos ⟨hl,fun h=>by cases h.1⟩,if_pos hr]
  rw[a1 _ _ rfl,a2 _ (by show (-1:Int) < 0;decide)];rfl
 obtain ⟨r',g1,g2,g3,g4,g5,g6,g7⟩:∃ r',iR st comp (gC (L s) gY) (lastB s) (fB (L (lastB s)))=r'∧r'.fmt=⟨#[]⟩∧r'.fmt1=fn∧r'.lay=⟨#[]⟩∧r'.lay1=lay∧r'.ext=fe∧r'.ids=[fe,fn,lay]:=⟨_,hr,rfl,rfl,rfl,rfl,rfl,rfl⟩
 have W:=wC (st:=st) (comp:=comp) (T:=s) g1 rfl;rw[W] at E;have hch:∀ x:ByteArray,chooseB (⟨#[]⟩:ByteArray) x=x:=fun x=>by unfold chooseB;rw[if_pos rfl]
 refine ⟨?_,?_,(congrArg ToldV.ext E).trans g6,(congrArg ToldV.ids E).trans g7⟩
 ·refine (congrArg ToldV.fmt E).trans ?_
  have hne:¬ (eV comp=true∧chooseB r'.fmt r'.fmt1=⟨#[]⟩∧fB (L (lastB s))≠[]∧iE st r'.ext=true):=by
   rw[g2,g3,hch];exact fun h=>h2.neE h.2.1
  refine (if_neg hne).trans ?_;rw[g2,g3,hch]
 refine (congrArg ToldV.layout E).trans ?_;show chooseB r'.lay r'.lay1=lay;rw[g4,g5,hch]
theorem uM {nm l e:ByteArray} (hs:L (norm s)=gD dirs++47::(L nm++46::((95::((L eZ++L l)++[95]))++46::L e))) (hnm:gK nm) (hl' : gK l) (he:gK e) (hc:iQ comp=true) (hce:listed st.cont e=true) (hll:listed st.langs l=true) (hnn:(listed st.langs nm || listed st.dis nm)=false) :
 pS st (pathOf s false) p dirs nm e l [e,l] [l] false:=by
 have hl:=zO hc
 obtain ⟨wd,hwd⟩:∃ wd:ByteArray,L wd=95::((L eZ++L l)++[95]):=⟨_,kV _⟩
 rw[← hwd] at hs
 have hpre:∀ c∈L eZ,iW c∨c=95:=by
  rw[show L eZ=[108,97,110,103,117,97,103,101,95] from rfl];intro c hc;simp only[List.mem_cons,List.not_mem_nil,or_false] at hc;unfold iW;rcases hc with rfl | rfl | rfl | rfl | rfl | rfl | rfl | rfl | rfl <;> decide
 have hv:∀ c∈L eZ++L l,iW c∨c=95:=fun c hc=>(List.mem_append.1 hc).elim (hpre c) (fun h=>.inl (hl'.each c h))
 have hwc:∀ c∈L wd,iW c∨c=95:=by
  rw[hwd];intro c hc;rcases List.mem_cons.1 hc with h | h
  ·exact .inr h
  rcases List.mem_append.1 h with h | h
  ·exact hv c h
  exact .inr (List.mem_singleton.1 h)
 have wno:∀ {x:UInt8},¬ iW x→x≠95→∀ c∈L wd,c≠x:=fun hx h9 c hc=>(hwc c hc).elim (fun h=>h.ne hx) (fun h e=>h9 (e▸h))
 have B:=pV (s:=s) hs hd (fun c hc=>by
  rcases List.mem_append.1 hc with h | h
  ·exact hnm.no not47 c h
  rcases List.mem_cons.1 h with h | h
  ·rw[h];decide
  rcases List.mem_append.1 h with h | h
  ·exact wno not47 bH c h
  rcases List.mem_cons.1 h with h | h
  ·rw[h];decide
  exact he.no not47 c h) bJ
 have E:=vY K hp
 obtain ⟨T,hT⟩:∃ T,pathOf s false=T:=⟨_,rfl⟩
 rw[hT] at B E ⊢;have hF:=B.lastL;obtain ⟨w1,w2,w3,w4⟩:=tD hF;have hwl:(L wd).length=(L eZ++L l).length+2:=by rw[hwd];simp;omega
 -- where the wrapper ends
 have hnext:lM (L nm++46::(L wd++46::L e)) (L nm).length=(L nm).length+1+(L wd).length:=by
  obtain ⟨n,hN⟩:∃ n,L nm++46::(L wd++46::L e)=n:=⟨_,rfl⟩
  have gw:∀ j,j < (L wd).length→n[(L nm).length+1+j]? = (L wd)[j]?:=fun j h=>by
   rw[← hN,List.getElem?_append_right bA,show (L nm).length+1+j - (L nm).length=j+1 by omega,List.getElem?_cons_succ,List.getElem?_append_left h]
  have g2:n[(L nm).length+1+(L wd).length]? = some 46:=by
   rw[← hN,List.getElem?_append_right bA,show (L nm).length+1+(L wd).length - (L nm).length=(L wd).length+1 by omega,List.getElem?_cons_succ,List.getElem?_append_right (Nat.le_refl _),Nat.sub_self];rfl
  rw[hN]
  have g0:n[(L nm).length+1]? = some 95:=by
   have:=gw 0 bA;rw[Nat.add_zero,hwd] at this;exact this
  have glast:n[(L nm).length+(L wd).length]? = some 95:=by
   have:=gw ((L wd).length - 1) bA;rw[show (L nm).length+1+((L wd).length - 1)=(L nm).length+(L wd).length by omega] at this;rw[this,hwd];exact last_at _
  have hlen:=(List.getElem?_eq_some_iff.1 g2).1
  have hw:pO n ((L nm).length+2)=some ((L nm).length+(L wd).length):=by
   unfold pO;refine aCs glast (by rw[show (L nm).length+(L wd).length+1=(L nm).length+1+(L wd).length by omega];exact g2) _ _ bA bA (fun j a b=>?_)
   obtain ⟨t,rfl⟩:∃ t,j=(L nm).length+1+t:=⟨j - ((L nm).length+1),aQ⟩
   refine ⟨?_,?_⟩
   ·rw[gw t bA];exact rN (wno not47 bH) t
   rw[show (L nm).length+1+t+1=(L nm).length+1+(t+1) by omega,gw (t+1) bA];exact rN (wno oH bH) _
  unfold lM;rw[if_pos g0,hw];show (L nm).length+(L wd).length+1=_;omega
 have hcut:fB (L (lastB T))=[(L nm).length,(L nm).length+1+(L wd).length]:=by
  rw[hF];exact xK (hnm.no oH) (wno oH bH) (he.no oH) he.head (.inr hnext)
 have hin:fS wd=eZ++l:=by
  refine L_inj ?_;unfold fS;rw[eS,iP,← eK,hwl,hwd,List.drop_succ_cons,List.drop_zero,show (L eZ++L l).length+2 - 1 - 1=(L eZ++L l).length by omega,List.take_left]
 have htag:iI (eZ++l) eZ=true:=by
  unfold iI;rw[aAn (by rw[iP];exact hv),iP,List.isPrefixOf_iff_prefix];exact List.prefix_append _ _
 have hcutp:iL (eZ++l) eZ=l:=by
  refine L_inj ?_;unfold iL;rw[eS,iP,show eZ.size=(L eZ).length from (eK _).symm,List.drop_left,← eK,iP,List.length_append,show (L eZ).length+(L l).length - (L eZ).length=(L l).length by omega,List.take_length]
 have hll2:low l=l:=aAn (fun c hc=>.inl (hl'.each c hc))
 have hwrap:hO (L wd)=true:=by
  unfold hO;have e1:(L wd)[0]? = some 95:=by rw[hwd];rfl
  have e2:(L wd)[(L wd).length - 1]? = some 95:=by rw[hwd];exact last_at _
  rw[e1,e2,decide_eq_true (by rw[hwl,List.length_append];have:=hl'.pos;omega)];rfl
 have hr:iR st comp (gC (L T) gY) (lastB T) (fB (L (lastB T))) = { (kJ jK e (((L nm).length+1+(L wd).length:Nat):Int)).id l ((L nm).length:Int) with langs:=[l],dis:=false,unk:=[nm] }:=by
  rw[hcut,uF,w1,w2,w3]
  have a1:∀ (sc:Bool) (r:RV) (k:Int),iX st comp sc 2 r wd k = { r.id l k with langs:=r.langs++[l],dis:=r.dis }:=by
   intro sc r k;unfold iX;rw[if_pos hwrap];unfold mR;rw[hin,hcutp,hll2,hll,if_pos ⟨htag,rfl⟩]
   simp
  rw[a1,qU (pP hnm.head) hnm.notBaseof hl (by rw[hnn];rintro ⟨_,h⟩;cases h)]
  simp[kJ,RV.id,jK]
 have W:=wC (st:=st) (comp:=comp) (T:=T) hr (aCk _ _ _ bA (by rw[w4];omega));rw[W] at E;refine pS.of B E rfl rfl w1 ?_ (by simp[kJ,RV.id]) rfl;show mL st comp (L T) (L ((lastB T).extract 0 (L nm).length)) true e false=_;rw[w1,uE hc hce hnm.ne]
end
end Go.Proofs.YtcdgldnphhidlaaGreatDoor.Path
namespace Go.Proofs.YtcdgldnphhidlaaGreatDoor.PTexts
open Go.RowKit Go.ZW.PrintWords Go.ZW.PrintLast Go.ZW.PrintMore
attribute [local go_sem] kF kH lE lF jR jS kG kI   -- for this text's walks alone
def aBr:Option Int→Value
 | none=>.nilIface
 | some c=>.iface 0 (.int .i64 c)
theorem aFg:aBr none = .nilIface:=rfl
theorem aFh (c:Int):aBr (some c) = .iface 0 (.int .i64 c):=rfl
end Go.Proofs.YtcdgldnphhidlaaGreatDoor.PTexts
namespace Go.Proofs.YtcdgldnphhidlaaGreatDoor.PTexts
open Go.RowKit Go.ZW.PrintWords Go.ZW.PrintLast Go.ZW.PrintMore
attribute [local go_sem] kF kH lE lF jR jS kG kI   -- for this text's walks alone
def laws_texts.l0:Nat→List ByteArray→List ByteArray→Int→Int→Option (Bool)
 | 0,_,_,_,_=>none
 | k+1,x0,x1,x12,x13=>if x13 < x12 then (if 0≤x13 then (if x13 < (x0.length:Int) then (if x13 < (x1.length:Int) then (if (gE ByteArray.empty x0 x13).toList=(gE ByteArray.empty x1 x13).toList then (laws_texts.l0 k x0 x1 x12 (wrap64 (x13+1))) else (some false)) else (none)) else (none)) else (none)) else (some true)
def laws_texts.f (k:Nat) (l0:List ByteArray) (l1:List ByteArray):Option (Bool):=if (l0.length:Int)=(l1.length:Int) then (laws_texts.l0 k l0 l1 (l0.length:Int) 0) else (some false)
theorem laws_texts.mono_l:∀ k,(∀ y0 y1 y2 y3,LeO (laws_texts.l0 k y0 y1 y2 y3) (laws_texts.l0 (k+1) y0 y1 y2 y3))
 | 0=>fun _ _ _ _ r h=>by simp[laws_texts.l0] at h
 | k+1=>by
  have ih0:=laws_texts.mono_l k
  intro y0 y1 y2 y3;unfold laws_texts.l0
  exact dA
theorem laws_texts.mono:∀ a0 a1 k,LeO (laws_texts.f k a0 a1) (laws_texts.f (k+1) a0 a1):=by
 intro a0 a1 k;have ih0:=laws_texts.mono_l k;unfold laws_texts.f
 exact dA
theorem laws_texts.calls (k:Nat) (A0:Option Addr) (c0:Nat) (l0:List ByteArray) (A1:Option Addr) (c1:Nat) (l1:List ByteArray) (r:Bool) (w:World) (hr0:Kd.C Kd.string w A0 l0.length l0) (hc0:l0.length≤c0) (hr1:Kd.C Kd.string w A1 l1.length l1) (hc1:l1.length≤c1) (h:laws_texts.f k l0 l1=some r) :
 Calls Tryz.prog 35 #[.slice A0 l0.length c0,.slice A1 l1.length c1] w fun e w'=>e = .returned (.bool r)∧eW w w':=by
 have HR0:=cH hr0;have HC0:=cH hc0;clear hr0 hc0;have HR1:=cH hr1;have HC1:=cH hc1;clear hr1 hc1;unfold laws_texts.f at h;have H:=h;clear h
 by_cases c3:(l0.length:Int)=(l1.length:Int)
 ·rw[if_pos c3] at H;have c3b0:=beq_iff_eq.mpr c3;have c3b1:=bne_eq_false_iff_eq.mpr c3;have c3b2:(l0.length==l1.length)=true:=by first | simpa using c3 | (simp at c3 ⊢;omega)
  clear c3;have H':=cH H;clear H;go_enter Tryz.func35,Tryz.ntmps35;go_wp2
  repeat (go_quiet (fail);try go_wp2)
  go_loopg [13] k (fun kq v13 w'=>∃ (x13_1:Int),v13 = .int .i64 x13_1∧Aside0 (laws_texts.l0 kq l0 l1 (l0.length:Int) x13_1=some r)∧Aside0 (kq≤k)∧eW w w')
  case atStart=>exact ⟨(0),bE,H',⟨Nat.le_refl _⟩,dM⟩
  case round =>
   clear H'
   (try clear c1);(try clear c3);(try clear c3b0);(try clear c3b1);(try clear c3b2)
   obtain ⟨x13_1,rfl,HA,HK1,⟨m1,rfl⟩⟩:=hrel
   cases gk with
   | zero=>exact absurd HA.out (by simp[laws_texts.l0])
   | succ k1 =>
    have H:=HA.out;clear HA;simp only[laws_texts.l0] at H
    by_cases c4:x13_1 < (l0.length:Int)
    ·rw[if_pos c4] at H;have c4b0:=decide_eq_true c4;clear c4
     by_cases c5:0≤x13_1
     ·rw[if_pos c5] at H;have c5b0:=decide_eq_true c5;clear c5
      by_cases c6:x13_1 < (l0.length:Int)
      ·rw[if_pos c6] at H;have c6b0:=decide_eq_true c6;clear c6
       by_cases c7:x13_1 < (l1.length:Int)
       ·rw[if_pos c7] at H;have c7b0:=decide_eq_true c7;clear c7
        by_cases c8:(gE ByteArray.empty l0 x13_1).toList=(gE ByteArray.empty l1 x13_1).toList
        ·rw[if_pos c8] at H;have c8b0:=beq_iff_eq.mpr c8;have c8b1:=bne_eq_false_iff_eq.mpr c8;clear c8;have H':=cH H;clear H;have p101:0≤(x13_1:Int):=cG;have q101:x13_1 < (l0.length:Int):=cG;obtain ⟨ad101,e101,hx101_0⟩:=Kd.at_string HR0.out x13_1 p101 q101;cases e101;replace p101:=eq_true p101;replace q101:=eq_true q101;have p102:0≤(x13_1:Int):=cG;have q102:x13_1 < (l1.length:Int):=cG
         obtain ⟨ad102,e102,hx102_0⟩:=Kd.at_string HR1.out x13_1 p102 q102;cases e102;replace p102:=eq_true p102;replace q102:=eq_true q102;go_wp2
         repeat (go_quiet (fail);try go_wp2)
         go_roundg k1
         case measure=>have:=HK1.out;omega
         case rel=>exact ⟨(wrap64 (x13_1+1)),bE,H',⟨aT⟩,dM⟩
        rw[if_neg c8] at H;have c8b0:=beq_eq_false_iff_ne.mpr c8;have c8b1:=bne_iff_ne.mpr c8;obtain rfl:=Option.some.inj H;have p101:0≤(x13_1:Int):=cG;have q101:x13_1 < (l0.length:Int):=cG;obtain ⟨ad101,e101,hx101_0⟩:=Kd.at_string HR0.out x13_1 p101 q101;cases e101;replace p101:=eq_true p101;replace q101:=eq_true q101;have p102:0≤(x13_1:Int):=cG;have q102:x13_1 < (l1.length:Int):=cG
        obtain ⟨ad102,e102,hx102_0⟩:=Kd.at_string HR1.out x13_1 p102 q102;cases e102;replace p102:=eq_true p102;replace q102:=eq_true q102;go_wp2
        repeat (go_quiet (fail);try go_wp2)
        go_ret;exact ⟨bE,dM⟩
       rw[if_neg c7] at H;exact absurd H bJ
      rw[if_neg c6] at H;exact absurd H bJ
     rw[if_neg c5] at H;exact absurd H bJ
    rw[if_neg c4] at H;have c4b0:=decide_eq_false c4;clear c4;obtain rfl:=Option.some.inj H;go_wp2
    repeat (go_quiet (fail);try go_wp2)
    go_ret;exact ⟨bE,dM⟩
 rw[if_neg c3] at H;have c3b0:=beq_eq_false_iff_ne.mpr c3;have c3b1:=bne_iff_ne.mpr c3;have c3b2:(l0.length==l1.length)=false:=by first | simpa using c3 | (simp at c3 ⊢;omega)
 obtain rfl:=Option.some.inj H;go_enter Tryz.func35,Tryz.ntmps35;go_wp2
 repeat (go_quiet (fail);try go_wp2)
 go_ret;exact ⟨bE,dM⟩
end Go.Proofs.YtcdgldnphhidlaaGreatDoor.PTexts
namespace Go.Proofs.YtcdgldnphhidlaaGreatDoor.PTexts
open Go.RowKit Go.ZW.PrintWords Go.ZW.PrintLast Go.ZW.PrintMore
attribute [local go_sem] kF kH lE lF jR jS kG kI   -- for this text's walks alone
end Go.Proofs.YtcdgldnphhidlaaGreatDoor.PTexts
