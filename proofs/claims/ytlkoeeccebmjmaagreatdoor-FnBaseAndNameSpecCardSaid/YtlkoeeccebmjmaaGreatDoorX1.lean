/- Texts that the law leans on: WWords, Base, Path. Condition: as told at each. -/
import Derived.Below
import Derived.Deep.Draws
import Derived.Deep.AppendLies
import Derived.Maps.AppendAt
import Derived.OwnWalk
import Derived.Laws.BytesArg
import Derived.Laws.MakeOwn
import Derived.Laws.OwnMore
import Derived.Deep.OwnRows
import Derived.Tactics
import Derived.Lib.ConvBytes
import Derived.Laws.Slices
import Derived.WalkKit
import Derived.KernelRfl
import Derived.RowKit3
import Derived.Deep.LoopGhost
import Derived.Deep.QuietTactic
import Derived.BigQuiet
import Derived.WideLaws
import Derived.Deep.DeepCutAuto
import Derived.Deep.CutBlock
import Derived.Deep.RegionHeld3
import Derived.Laws.Rows
import Derived.Lib.AppendStr
import Derived.ArgAppend
import Derived.Laws.IdiomCopy
import Derived.RowKit
import Derived.IntWalk
import Derived.Lib.Strings
import Derived.OneCell
import Derived.Laws.AppendOwn
import Derived.Test.YtlkoeeccebmjmaaGreatDoorXa
set_option linter.unusedVariables false
set_option linter.unusedSimpArgs false
set_option maxRecDepth 100000
set_option maxHeartbeats 16000000
namespace Go.ZW.PrintWords
open Go.RowKit
structure eV (w w' : World):Prop where mk::(out:∃ n,w'=w.drewN n)
theorem eV.refl (w:World):eV w w:=⟨⟨0,rfl⟩⟩
theorem eV.step {w w' : World} (h:eV w w') (n:Nat):eV w (w'.drewN n):=by
 obtain ⟨m,rfl⟩:=h;exact ⟨⟨m+n,World.drewN_drewN ..⟩⟩
theorem eV.grown {w w' : World} (h:eV w w'):Grown w w':=by
 obtain ⟨n,rfl⟩:=h
 induction n with
 | zero=>exact Grown.refl _
 | succ n ih=>rw[← World.drew_drewN];exact Grown.drew ih
theorem eV.below {w w' : World} (h:eV w w'):Below w.heap.size w w':=by
 obtain ⟨n,rfl⟩:=h
 induction n with
 | zero=>exact Below.refl _ _
 | succ n ih=>rw[← World.drew_drewN];exact ih.drew
def rd (xs:List Int) (i:Int):Int:=xs.getD i.toNat 0
def bt (s:ByteArray) (i:Int):Int:=if h:i.toNat < s.size then ((s[i.toNat]'h).toNat:Int) else 0
theorem fN (s:ByteArray) (i:Int):∀ h:i.toNat < s.size,((s[i.toNat]'h).toNat:Int)=bt s i:=fun h=>by simp[bt,h]
def nums (k:IntKind) (xs:List Int):List Value:=xs.map fun x=>.int k x
theorem nums_append (k:IntKind) (xs ys:List Int):nums k (xs++ys)=nums k xs++nums k ys:=by simp[nums]
theorem fC {w W:World} (h:Below w.heap.size w W) (o:Obj):Below w.heap.size w (W.alloc o):=h.alloc h.size o
theorem yI {B:Nat} {w W:World} (h:Below B w W):Below B w W.drew:=⟨h.os,h.tape,h.output,h.size,h.block⟩
theorem eU {B:Nat} {w W:World} (h:Below B w W) (n:Nat):Below B w (W.drewN n):=⟨h.os,h.tape,h.output,h.size,h.block⟩
theorem pF {B:Nat} {w w1 w2:World} (h:Below B w w1) (hB:B≤w1.heap.size) (k:Below w1.heap.size w1 w2):Below B w w2 :=
 h.trans ⟨k.os,k.tape,k.output,k.size,fun i hi=>k.block i (Nat.lt_of_lt_of_le hi hB)⟩
theorem zV {w w1:World} (h:Below w.heap.size w w1) (row:Option Nat):w.grownBy w1 row:=⟨h.os,h.tape,h.output,h.size,fun i hi _=>h.block i hi⟩
theorem qL {w w1:World} (h:Below w.heap.size w w1) {a:Addr} {v:Value} (hc:w.cell? a=some v):w1.cell? a=some v:=(h.cell (World.block_lt_of_cell? w a hc)).trans hc
def iX (w:World) (k:IntKind) (A:Option Addr) (n:Nat) (xs:List Int):Prop :=
 xs.length=n∧n≤9223372036854775807∧(0 < n→∃ ad,A=some ad∧∀ j,j < n→w.cell? (ad.add j)=some (.int k (xs.getD j 0)))
theorem iX.at_ {w:World} {k:IntKind} {A:Option Addr} {n:Nat} {xs:List Int} (h:iX w k A n xs) (i:Int) (h0:0≤i) (h1:i < n):∃ ad,A=some ad∧w.cell? (ad.add i.toNat)=some (.int k (rd xs i)):=by
 obtain ⟨ad,e,hc⟩:=h.2.2 (by omega);exact ⟨ad,e,hc _ (by omega)⟩
theorem iX.below {w w1:World} {k:IntKind} {A:Option Addr} {n:Nat} {xs:List Int} (h:iX w k A n xs) (hb:Below w.heap.size w w1):iX w1 k A n xs :=
 ⟨h.1,h.2.1,fun hn=>by
  obtain ⟨ad,e,hc⟩:=h.2.2 hn
  exact ⟨ad,e,fun j hj=>qL hb (hc j hj)⟩⟩
theorem rB (W:World) (base:Nat) (e:TypeId) (size:Nat):W.ownsRow base e size (.slice none 0 0) 0 []:=⟨by simp,.inl ⟨rfl,rfl⟩⟩
theorem own_base {w:World} {base:Nat} {e:TypeId} {size n:Nat} {v:Value} {xs:List Value} (h:w.ownsRow base e size v n xs) (k:Nat) (hk:v.ownBlock=some k):base≤k:=by
 rcases h.2 with ⟨rfl,_⟩ | ⟨g,cap,cur,rfl,hb,_⟩
 ·simp[Value.ownBlock] at hk
 have:g=k:=by simpa [Value.ownBlock] using hk
 omega
theorem aGv {w:World} {base:Nat} {e:TypeId} {size n:Nat} {v:Value} {xs:List Value} (h:w.ownsRow base e size v n xs) (k:Nat) (hk:v.ownBlock=some k):k < w.heap.size:=by
 rcases h.2 with ⟨rfl,_⟩ | ⟨g,cap,cur,rfl,hb,hh,_⟩
 ·simp[Value.ownBlock] at hk
 have:g=k:=by simpa [Value.ownBlock] using hk
 subst this;exact (Array.getElem?_eq_some_iff.1 hh).1
theorem aCw {w w1:World} {base:Nat} {e:TypeId} {size n:Nat} {v:Value} {xs:List Value} (h:w.ownsRow base e size v n xs) (hb:Below w.heap.size w w1):w1.ownsRow base e size v n xs :=
 h.kept (zV hb none) (by cases v.ownBlock <;> simp)
theorem aGw {w w1:World} {base:Nat} {e:TypeId} {size n:Nat} {v:Value} {xs:List Value} (h:w.ownsRow base e size v n xs) {row:Option Nat} (hg:w.grownBy w1 row) (hne:v.ownBlock=none∨v.ownBlock≠row):w1.ownsRow base e size v n xs:=h.kept hg hne
theorem own_type_ne {w:World} {b b' : Nat} {e e' : TypeId} {s s' n n' : Nat} {v v' : Value} {xs xs' : List Value} (h:w.ownsRow b e s v n xs) (h' : w.ownsRow b' e' s' v' n' xs') (hne:e≠e'):v.ownBlock=none∨v.ownBlock≠v'.ownBlock:=by
 rcases h.2 with ⟨rfl,_⟩ | ⟨g,cap,cur,rfl,_,hh,_⟩
 ·exact .inl rfl
 refine .inr fun hk=>?_;rcases h'.2 with ⟨rfl,_⟩ | ⟨g',cap',cur',rfl,_,hh',_⟩
 ·simp[Value.ownBlock] at hk
 have:g=g':=by simpa [Value.ownBlock] using hk
 subst this;rw[hh] at hh';injection hh' with hh'
 injection hh' with _ ht
 exact hne ht
theorem fL {w:World} {base n:Nat} {e:TypeId} {size:Nat} {v:Value} {xs:List Value} (h:w.ownsRow base e size v n xs):∃ A c,v = .slice A n c:=by
 rcases h.2 with ⟨rfl,rfl⟩ | ⟨g,cap,cur,rfl,_⟩
 ·exact ⟨none,0,rfl⟩
 exact ⟨_,cap,rfl⟩
theorem aFm {P:Program} {w:World} {base n:Nat} {e' src dst e:TypeId} {v:Value} {xs:List Int} (hs:P.underlying src=some (.slice e)) (he:P.underlying e=some (.int .u8)) (hd:P.underlying dst=some .string)
 (h:w.ownsRow base e' 1 v n (nums .u8 xs)):(convert src dst v).run P w = .ok (.string (strOfNums xs)) w:=by
 have hl:xs.length=n:=by have:=h.1;simp[nums] at this;exact this
 rcases h.2 with ⟨rfl,rfl⟩ | ⟨g,cap,cur,rfl,_⟩
 ·obtain rfl:xs=[]:=List.eq_nil_of_length_eq_zero hl;exact run_convert_bytes_nil w src e hs he 0 0 dst hd
 refine run_convert_bytes_arg w src e hs he g 0 n cap xs hl (fun i hi=>?_) dst hd;have hc:=h.cells (g:=g) rfl i (.int .u8 (xs.getD i 0)) (by simp[nums,List.getElem?_eq_getElem (show i < xs.length by omega),List.getD_eq_getElem?_getD]);have ha:(⟨g,0,none⟩:Addr).add i=⟨g,0+i,none⟩:=by unfold Addr.add;split <;> simp_all
 rwa[ha] at hc
def bytesOf (s:ByteArray):List Int:=s.data.toList.map fun b=>(b.toNat:Int)
theorem wM (s:ByteArray):s.data.toList.length=s.size:=by rw[Array.length_toList];rfl
theorem bytesOf_length (s:ByteArray):(bytesOf s).length=s.size:=by rw[bytesOf,List.length_map,wM]
theorem iX.take_ {w:World} {k:IntKind} {A:Option Addr} {n:Nat} {xs:List Int} (h:iX w k A n xs) (i:Nat) (hi:i≤n):iX w k A i (xs.take i):=by
 refine ⟨by rw[List.length_take,h.1];omega,by have:=h.2.1;omega,fun hp=>?_⟩;obtain ⟨ad,e,hc⟩:=h.2.2 (by omega);refine ⟨ad,e,fun j hj=>?_⟩;rw[hc j (by omega)]
 simp[List.getD_eq_getElem?_getD,hj]
def LeO {α:Type} (a b:Option α):Prop:=∀ r,a=some r→b=some r
theorem LeO.refl {α:Type} (a:Option α):LeO a a:=fun _ h=>h
theorem LeO.none {α:Type} (b:Option α):LeO Option.none b:=fun _ h=>by cases h
theorem LeO.trans {α:Type} {a b c:Option α} (h:LeO a b) (k:LeO b c):LeO a c:=fun r hr=>k r (h r hr)
theorem LeO.ite {α:Type} {c:Prop} [Decidable c] {a a' b b' : Option α} (h:LeO a a') (k:LeO b b'):LeO (if c then a else b) (if c then a' else b'):=by
 split
 ·exact h
 exact k
theorem LeO.bind {α β:Type} {a a' : Option α} {f f' : α→Option β} (h:LeO a a') (k:∀ x,LeO (f x) (f' x)):LeO (a.bind f) (a'.bind f'):=by
 intro r hr;obtain ⟨x,hx,hf⟩:=Option.bind_eq_some_iff.1 hr;exact Option.bind_eq_some_iff.2 ⟨x,h x hx,k x r hf⟩
theorem LeO.map {α β:Type} {a a' : Option α} (f:α→β) (h:LeO a a'):LeO (a.map f) (a'.map f):=by
 intro r hr;obtain ⟨x,hx,hf⟩:=Option.map_eq_some_iff.1 hr;exact Option.map_eq_some_iff.2 ⟨x,h x hx,hf⟩
def gW {α:Type} (R:α→List Value→Prop) (size:Nat) (ps:List α) (cs:List Value):Prop :=
 cs.length=ps.length * size∧∀ j p,ps[j]? = some p→R p ((cs.drop (j * size)).take size)
theorem gW.none {α:Type} (R:α→List Value→Prop) (size:Nat):gW R size [] []:=⟨by simp,fun j p h=>by simp at h⟩
theorem gW.snoc {α:Type} {R:α→List Value→Prop} {size:Nat} {ps:List α} {cs c:List Value} {p:α} (h:gW R size ps cs) (hp:R p c) (hc:c.length=size):gW R size (ps++[p]) (cs++c):=by
 refine ⟨by rw[List.length_append,h.1,hc,List.length_append,List.length_singleton,Nat.add_mul,Nat.one_mul],fun j q hq=>?_⟩;rcases Nat.lt_or_ge j ps.length with hj | hj
 ·rw[List.getElem?_append_left hj] at hq;have h1:j * size+size≤cs.length:=by rw[h.1,← Nat.succ_mul];exact Nat.mul_le_mul_right _ hj
  have h2:=h.2 j q hq;rw[List.drop_append_of_le_length (by omega),List.take_append_of_le_length (by rw[List.length_drop];omega)];exact h2
 have hj' : j=ps.length:=by
  have:=(List.getElem?_eq_some_iff.1 hq).1;rw[List.length_append,List.length_singleton] at this;omega
 subst hj';have hq' : p=q:=by simpa using hq
 subst hq';rw[← h.1,List.drop_left,← hc,List.take_length];exact hp
theorem gW.imp_ {α:Type} {R R' : α→List Value→Prop} {size:Nat} {ps:List α} {cs:List Value} (h:gW R size ps cs) (hR:∀ p c,R p c→R' p c):gW R' size ps cs:=⟨h.1,fun j p hj=>hR _ _ (h.2 j p hj)⟩
def nC {α:Type} (R:α→List Value→Prop) (size:Nat) (w:World) (A:Option Addr) (n:Nat) (ps:List α):Prop :=
 ps.length=n∧n≤9223372036854775807∧(0 < n→∃ ad,A=some ad∧∀ j p,ps[j]? = some p→∃ c,c.length=size∧R p c∧∀ i u,c[i]? = some u→w.cell? (ad.add (j * size+i))=some u)
theorem nC.get_ {α:Type} {R:α→List Value→Prop} {size:Nat} {w:World} {A:Option Addr} {n:Nat} {ps:List α} (h:nC R size w A n ps) (d:α) (i:Int) (h0:0≤i) (h1:i < n) :
 ∃ ad c,A=some ad∧c.length=size∧R (ps.getD i.toNat d) c∧∀ j u,c[j]? = some u→w.cell? (ad.add (i.toNat * size+j))=some u:=by
 obtain ⟨ad,e,hc⟩:=h.2.2 (by omega);have hl:i.toNat < ps.length:=by have:=h.1;omega
 obtain ⟨c,hs,hr,hcell⟩:=hc i.toNat _ (List.getElem?_eq_getElem hl);refine ⟨ad,c,e,hs,?_,hcell⟩;rw[List.getD_eq_getElem?_getD,List.getElem?_eq_getElem hl];exact hr
theorem nC.imp_ {α:Type} {R R' : α→List Value→Prop} {size:Nat} {w w1:World} {A:Option Addr} {n:Nat} {ps:List α} (h:nC R size w A n ps) (hb:Below w.heap.size w w1) (hR:∀ p c,R p c→R' p c):nC R' size w1 A n ps :=
 ⟨h.1,h.2.1,fun hn=>by
  obtain ⟨ad,e,hc⟩:=h.2.2 hn;refine ⟨ad,e,fun j p hj=>?_⟩;obtain ⟨c,hs,hr,hcell⟩:=hc j p hj
  exact ⟨c,hs,hR _ _ hr,fun i u hu=>qL hb (hcell i u hu)⟩⟩
theorem aBf {α:Type} {R:α→List Value→Prop} {w:World} {base n size:Nat} {e:TypeId} {v:Value} {ps:List α} {cs:List Value} (h:w.ownsRow base e size v n cs) (hR:gW R size ps cs) (hn:ps.length=n) :
 ∃ A c,v = .slice A n c∧nC R size w A n ps:=by
 rcases Nat.eq_zero_or_pos n with h0 | h0
 ·rcases h.2 with ⟨rfl,rfl⟩ | ⟨g,cap,cur,rfl,_⟩
  ·exact ⟨none,0,rfl,hn,by omega,fun hp=>absurd hp (by omega)⟩
  exact ⟨_,cap,rfl,hn,by omega,fun hp=>absurd hp (by omega)⟩
 obtain ⟨g,cap,rfl,_,_⟩:=h.form h0
 have hm:n≤9223372036854775807:=by
  rcases h.2 with ⟨_,h1⟩ | ⟨g',cap',cur,he,_,_,h1,h2,_⟩
  ·omega
  simp only[maxLen] at h2;omega
 refine ⟨_,cap,rfl,hn,hm,fun _=>⟨_,rfl,fun j p hj=>⟨(cs.drop (j * size)).take size,?_,hR.2 j p hj,fun i u hu=>?_⟩⟩⟩
 ·have hjl:=(List.getElem?_eq_some_iff.1 hj).1;have h1:j * size+size≤cs.length:=by rw[hR.1,← Nat.succ_mul];exact Nat.mul_le_mul_right _ hjl
  rw[List.length_take,List.length_drop];omega
 refine h.cells (g:=g) rfl _ u ?_;rw[List.getElem?_take] at hu;split at hu
 ·rw[List.getElem?_drop] at hu;exact hu
 cases hu
theorem aF3 (ad:Addr) (m j:Nat) (hj:0 < j):ad.add (m+j)=⟨(ad.add m).block,(ad.add m).off+j,none⟩:=by
 unfold Addr.add
 by_cases hm:m=0
 ·subst hm
  simp[Nat.ne_of_gt hj]
 simp[hm,Nat.add_assoc]
section
variable {P:Program} {ops:Array Oper} {rest:List Oper} {o:Oper} {a:Act} {Q:Exit→Act→World→Prop}
theorem qG {w0 W:World} (base:Nat) (hgd:o.guard=none) (s x:Operand) (t e:TypeId) (z:Value) (size bytes:Nat)
 (ho:o.op = .call { callee:=.builtin .append,args:=#[s,x],argTypes:=#[t,t] })
 (ht:P.underlying t=some (.slice e)) (hinfo:(P.info? e).map (fun i=>(i.zero,i.size,i.bytes))=some (some z,size,bytes)) (hz:z.cells.size=size) (hs0:0 < size) (hb0:0 < bytes)
 (v:Value) (n:Nat) (xs ys:List Value) (hs:a.eval s=v) (hx:a.eval x = .slice (some ⟨W.heap.size,0,none⟩) 1 1) (hys:ys.length=size) (h1:∀ u∈ys,u.oneCell'=true)
 (HO:W.ownsRow base e size v n xs) (HB:Below base w0 W) (hbase:base≤W.heap.size) (hl:(n+1) * bytes≤140737488355328)
 (h:∀ v1 w1,w1.ownsRow base e size v1 (n+1) (xs++ys)→Below base w0 w1→W.grownBy w1 v.ownBlock→(v1.ownBlock=v.ownBlock∨∃ b,v1.ownBlock=some b∧W.heap.size≤b)→wpList P ops Q rest (a.put o.dst v1) w1) :
 wpList P ops Q (o::rest) a (W.alloc (.cells ys.toArray e)):=by
 obtain ⟨i0,hi,hzz⟩:=Option.map_eq_some_iff.1 hinfo;simp only[Prod.mk.injEq] at hzz;obtain ⟨hz0,hz1,hz2⟩:=hzz;have hlen:n+1≤140737488355328:=Nat.le_trans (Nat.le_mul_of_pos_right _ hb0) hl
 refine wpList_append_own_at (W.alloc (.cells ys.toArray e)) hgd s x t ho base e i0 z size bytes ht hi hz0 hz1 hz2 hz hs0 v n xs hs (HO.alloc _) ⟨W.heap.size,0,none⟩ 1 1 ys hx (by rw[hys];simp)
  (by simpa using World.news_of_block (cs:=ys.toArray) (t:=e) (fr:=(0,0)) (heap_alloc_new W (.cells ys.toArray e))) h1 (by simp only[maxLen];omega) hl (by simp;omega) ?_
 intro v1 w1 hown hg _ hat;refine h v1 w1 hown ((HB.alloc hbase _).grown hg (by simp;omega) (own_base HO)) (World.grownBy.trans (World.grownBy_alloc W _ _) hg) ?_;rcases hat with hat | hat
 ·exact .inl hat
 exact .inr ⟨_,hat,by simp⟩
end
theorem aIn {w:World} {g:Nat} {t:TypeId} {cs:Array Value} (h:w.heap[g]? = some (.cells cs t (0,0))) (i:Nat) (u:Value):(w.setCell ⟨g,i,none⟩ u).heap[g]? = some (.cells (cs.setIfInBounds i u) t (0,0)):=by
 simp[World.setCell,Array.getElem?_modify,h]
theorem aEf {w:World} {g:Nat} {t:TypeId} {cs:Array Value} (h:w.heap[g]? = some (.cells cs t (0,0))) {p:Addr} (hp:g≠p.block) (u:Value):(w.setCell p u).heap[g]? = some (.cells cs t (0,0)):=(Below.heap_setCell w p u g hp).trans h
theorem uI {w:World} {g:Nat} {o:Obj} (h:w.heap[g]? = some o):g < w.heap.size:=(Array.getElem?_eq_some_iff.1 h).1
theorem dY {w:World} {g:Nat} {t:TypeId} {cs:Array Value} (h:w.heap[g]? = some (.cells cs t (0,0))) (i:Nat):w.cell? ⟨g,i,none⟩=cs[i]?:=cell_of_row w g i cs t (0,0) h
theorem eC {w:World} {g:Nat} {t:TypeId} {cs:Array Value} (h:w.heap[g]? = some (.cells cs t (0,0))) (i:Nat):w.frozen? ⟨g,i,none⟩=false:=by simp[World.frozen?,h]
def mQ (w w' : World) (g:Nat) (row:Option Nat):Prop:=w.heap.size≤w'.heap.size∧∀ i,i < w.heap.size→i≠g→some i≠row→w'.heap[i]? = w.heap[i]?
theorem mQ.refl (w:World) (g:Nat) (row:Option Nat):mQ w w g row:=⟨Nat.le_refl _,fun _ _ _ _=>rfl⟩
theorem mQ.of_below {w w1:World} (h:Below w.heap.size w w1) (g:Nat) (row:Option Nat):mQ w w1 g row:=⟨h.size,fun i hi _ _=>h.block i hi⟩
theorem mQ.trans {w w1 w2:World} {g:Nat} {row row1:Option Nat} (h:mQ w w1 g row) (k:mQ w1 w2 g row1) (hr:row1=row∨∃ b,row1=some b∧w.heap.size≤b):mQ w w2 g row :=
 ⟨Nat.le_trans h.1 k.1,fun i hi hg hn=>by
  refine (k.2 i (Nat.lt_of_lt_of_le hi h.1) hg ?_).trans (h.2 i hi hg hn);rcases hr with rfl | ⟨b,rfl,hb⟩
  ·exact hn
  intro e;injection e with e
  omega⟩
theorem mQ.blk {w w1:World} {g g' : Nat} {row:Option Nat} {o:Obj} (h:mQ w w1 g row) (hb:w.heap[g']? = some o) (hg:g'≠g) (hr:some g'≠row):w1.heap[g']? = some o:=(h.2 g' (uI hb) hg hr).trans hb
theorem mQ.own {w w1:World} {g:Nat} {row:Option Nat} {base:Nat} {e:TypeId} {size n:Nat} {v:Value} {xs:List Value} (h:mQ w w1 g row) (ho:w.ownsRow base e size v n xs) (hg:v.ownBlock≠some g) (hr:v.ownBlock=none∨v.ownBlock≠row):w1.ownsRow base e size v n xs:=by
 obtain ⟨h1,h2⟩:=ho;refine ⟨h1,?_⟩;rcases h2 with h2 | ⟨b,cap,cur,rfl,hb,hh,r⟩
 ·exact .inl h2
 refine .inr ⟨b,cap,cur,rfl,hb,h.blk hh ?_ ?_,r⟩
 ·intro e;exact hg (by rw[← e];rfl)
 rcases hr with hr | hr
 ·simp[Value.ownBlock] at hr
 exact hr
def Ev {α:Type} (g:Nat→Option α) (r:α):Prop:=∃ K,∀ k,K≤k→g k=some r
theorem Ev.now {α:Type} (r:α):Ev (fun _=>some r) r:=⟨0,fun _ _=>rfl⟩
theorem Ev.rounds {α:Type} {g:Nat→Option α} {r:α} (h:Ev g r):∃ k,g k=some r:=by
 obtain ⟨K,h⟩:=h;exact ⟨K,h K (Nat.le_refl _)⟩
theorem Ev.bind {α β:Type} {g:Nat→Option α} {f:Nat→α→Option β} {a:α} {r:β} (h:Ev g a) (k:Ev (fun n=>f n a) r):Ev (fun n=>(g n).bind (f n)) r:=by
 obtain ⟨K,h⟩:=h;obtain ⟨K',k⟩:=k;refine ⟨max K K',fun n hn=>?_⟩;have h1:=h n (by omega);have h2:=k n (by omega);simp only[h1,Option.bind_some];exact h2
theorem Ev.step {α:Type} {g f:Nat→Option α} {r:α} (h:∀ k,g (k+1)=f k) (k:Ev f r):Ev g r:=by
 obtain ⟨K,k⟩:=k;refine ⟨K+1,fun n hn=>?_⟩
 obtain ⟨m,rfl⟩:∃ m,n=m+1:=⟨n - 1,by omega⟩
 rw[h];exact k m (by omega)
theorem Ev.congr {α:Type} {g f:Nat→Option α} {r:α} (h:∀ k,g k=f k) (k:Ev f r):Ev g r:=by
 obtain ⟨K,k⟩:=k;exact ⟨K,fun n hn=>(h n).trans (k n hn)⟩
section
variable {P:Program} {ops:Array Oper} {o:Oper} {a:Act} {Q:Exit→Act→World→Prop} {K:Act→World→Prop}
theorem gE {w0 W:World} (base:Nat) (hw:Region.wanted o (yielded ops a.tmps)=true) (s x:Operand) (t e:TypeId) (z:Value) (size bytes:Nat)
 (ho:o.op = .call { callee:=.builtin .append,args:=#[s,x],argTypes:=#[t,t] })
 (ht:P.underlying t=some (.slice e)) (hinfo:(P.info? e).map (fun i=>(i.zero,i.size,i.bytes))=some (some z,size,bytes)) (hz:z.cells.size=size) (hs0:0 < size) (hb0:0 < bytes)
 (v:Value) (n:Nat) (xs ys:List Value) (hs:a.eval s=v) (hx:a.eval x = .slice (some ⟨W.heap.size,0,none⟩) 1 1) (hys:ys.length=size) (h1:∀ u∈ys,u.oneCell'=true)
 (HO:W.ownsRow base e size v n xs) (HB:Below base w0 W) (hbase:base≤W.heap.size) (hl:(n+1) * bytes≤140737488355328)
 (h:∀ v1 w1,w1.ownsRow base e size v1 (n+1) (xs++ys)→Below base w0 w1→W.grownBy w1 v.ownBlock→(v1.ownBlock=v.ownBlock∨∃ b,v1.ownBlock=some b∧W.heap.size≤b)→K (a.put o.dst v1) w1) :
 if Region.wanted o (yielded ops a.tmps)=true then Oper.wp P o a (W.alloc (.cells ys.toArray e)) K Q else K (a.put o.dst undef) (W.alloc (.cells ys.toArray e)):=by
 obtain ⟨i0,hi,hzz⟩:=Option.map_eq_some_iff.1 hinfo;simp only[Prod.mk.injEq] at hzz;obtain ⟨hz0,hz1,hz2⟩:=hzz;have hlen:n+1≤140737488355328:=Nat.le_trans (Nat.le_mul_of_pos_right _ hb0) hl;rw[if_pos hw]
 obtain ⟨v1,w1,hr,hown,hg,_,hat⟩:=run_append_own_at (P:=P) (W.alloc (.cells ys.toArray e)) base t o.type e i0 z size bytes ht hi hz0 hz1 hz2 hz hs0 v n xs (HO.alloc _) ⟨W.heap.size,0,none⟩ 1 1 ys (by rw[hys];simp)
  (by simpa using World.news_of_block (cs:=ys.toArray) (t:=e) (fr:=(0,0)) (heap_alloc_new W (.cells ys.toArray e))) h1 (by simp only[maxLen];omega) hl (by simp;omega)
 unfold Oper.wp execOp;simp only[ho,resolve,invoke,builtin,Sem.run_bind,Sem.run_pure,Result.andThen_ok,List.map_toArray,List.map_cons,List.map_nil,hs,hx,hr];refine h v1 w1 hown ((HB.alloc hbase _).grown hg (by simp;omega) (own_base HO)) (World.grownBy.trans (World.grownBy_alloc W _ _) hg) ?_;rcases hat with hat | hat
 ·exact .inl hat
 exact .inr ⟨_,hat,by simp⟩
end
theorem pJ {w:World} {base base' : Nat} {e:TypeId} {size n:Nat} {v:Value} {xs:List Value} (h:w.ownsRow base e size v n xs) (hb:base'≤base):w.ownsRow base' e size v n xs:=by
 obtain ⟨h1,h2⟩:=h;refine ⟨h1,?_⟩;rcases h2 with h2 | ⟨g,cap,cur,rfl,hg,r⟩
 ·exact .inl h2
 exact .inr ⟨g,cap,cur,rfl,Nat.le_trans hb hg,r⟩
section
variable {α:Type} {enc:α→Value} {d:α}
def iB (d:α) (xs:List α) (i:Int):α:=xs.getD i.toNat d
def jY (enc:α→Value) (d:α) (w:World) (A:Option Addr) (n:Nat) (xs:List α):Prop :=
 xs.length=n∧n≤9223372036854775807∧(0 < n→∃ ad,A=some ad∧∀ j,j < n→w.cell? (ad.add j)=some (enc (xs.getD j d)))
theorem jY.at_ {w:World} {A:Option Addr} {n:Nat} {xs:List α} (h:jY enc d w A n xs) (i:Int) (h0:0≤i) (h1:i < n):∃ ad,A=some ad∧w.cell? (ad.add i.toNat)=some (enc (iB d xs i)):=by
 obtain ⟨ad,e,hc⟩:=h.2.2 (by omega);exact ⟨ad,e,hc _ (by omega)⟩
theorem jY.below {w w1:World} {A:Option Addr} {n:Nat} {xs:List α} (h:jY enc d w A n xs) (hb:Below w.heap.size w w1):jY enc d w1 A n xs :=
 ⟨h.1,h.2.1,fun hn=>by
  obtain ⟨ad,e,hc⟩:=h.2.2 hn
  exact ⟨ad,e,fun j hj=>qL hb (hc j hj)⟩⟩
theorem jY.take_ {w:World} {A:Option Addr} {n:Nat} {xs:List α} (h:jY enc d w A n xs) (i:Nat) (hi:i≤n):jY enc d w A i (xs.take i):=by
 refine ⟨by rw[List.length_take,h.1];omega,by have:=h.2.1;omega,fun hp=>?_⟩;obtain ⟨ad,e,hc⟩:=h.2.2 (by omega);refine ⟨ad,e,fun j hj=>?_⟩;rw[hc j (by omega)]
 simp[List.getD_eq_getElem?_getD,hj]
end
theorem fY {w:World} {g:Nat} {o:Obj} (h:w.heap[g]? = some o) (o' : Obj):(w.alloc o').heap[g]? = some o:=(Below.heap_alloc w o' g (uI h)).trans h
theorem gC {w:World} {g:Nat} {o:Obj} (h:w.heap[g]? = some o):w.drew.heap[g]? = some o:=h
theorem fZ {w:World} {g:Nat} {o:Obj} (h:w.heap[g]? = some o) (n:Nat):(w.drewN n).heap[g]? = some o:=h
theorem hJ {w w1:World} {g:Nat} {o:Obj} (h:w.heap[g]? = some o) (hb:Below w.heap.size w w1):w1.heap[g]? = some o:=(hb.block g (uI h)).trans h
theorem aIm (w:World) (o:Obj):(w.alloc o).heap[w.heap.size]? = some o:=heap_alloc_new w o
theorem aJi {w:World} {base n m c size:Nat} {e:TypeId} {A:Option Addr} {xs:List Value} (h:w.ownsRow base e size (.slice A m c) n xs):m≤c:=by
 rcases h.2 with ⟨he,_⟩ | ⟨g,cap,cur,he,_,_,hnc,_⟩
 ·injection he with _ h2 h3
  omega
 injection he with _ h2 h3
 omega
def jR {α:Type} (R:α→List Value→Prop) (e:TypeId) (size:Nat) (w:World) (base:Nat) (v:Value) (ps:List α):Prop :=
 ∃ inner,w.ownsRow base e size v ps.length inner∧gW R size ps inner
section
variable {α:Type} {R R' : α→List Value→Prop} {e:TypeId} {size:Nat} {w w1:World} {base:Nat} {v:Value} {ps:List α}
theorem jR.none_ (R:α→List Value→Prop) (e:TypeId) (size:Nat) (w:World) (base:Nat):jR R e size w base (.slice none 0 0) []:=⟨[],rB _ _ _ _,gW.none _ _⟩
theorem jR.imp_ (h:jR R e size w base v ps) (hR:∀ p c,R p c→R' p c):jR R' e size w base v ps:=by
 obtain ⟨inner,ho,hr⟩:=h;exact ⟨inner,ho,hr.imp_ hR⟩
theorem jR.below (h:jR R e size w base v ps) (hb:Below w.heap.size w w1):jR R e size w1 base v ps:=by
 obtain ⟨inner,ho,hr⟩:=h;exact ⟨inner,aCw ho hb,hr⟩
theorem jR.other (h:jR R e size w base v ps) {row:Option Nat} (hg:w.grownBy w1 row) (hne:v.ownBlock=none∨v.ownBlock≠row):jR R e size w1 base v ps:=by
 obtain ⟨inner,ho,hr⟩:=h;exact ⟨inner,aGw ho hg hne,hr⟩
theorem jR.lower (h:jR R e size w base v ps) {base' : Nat} (hb:base'≤base):jR R e size w base' v ps:=by
 obtain ⟨inner,ho,hr⟩:=h;exact ⟨inner,pJ ho hb,hr⟩
theorem jR.reads (h:jR R e size w base v ps):∃ A c,v = .slice A ps.length c∧ps.length≤c∧nC R size w A ps.length ps:=by
 obtain ⟨inner,ho,hr⟩:=h;obtain ⟨A,c,rfl,hrow⟩:=aBf ho hr rfl;exact ⟨A,c,rfl,aJi ho,hrow⟩
theorem jR.lit (W:World) (base:Nat) {inner:List Value} (hr:gW R size ps inner) (hb:base≤W.heap.size) (hm:ps.length≤9223372036854775807) :
 jR R e size (W.alloc (.cells inner.toArray e)) base (.slice (some ⟨W.heap.size,0,none⟩) ps.length ps.length) ps:=by
 have h:=World.ownsRow_lit (base:=base) (e:=e) (size:=size) W inner.toArray ps.length hb (by simpa [maxLen] using hm) (by simpa using hr.1);exact ⟨inner,by simpa using h,hr⟩
end
section
variable {P:Program} {ops:Array Oper} {rest:List Oper} {o:Oper} {a:Act} {Q:Exit→Act→World→Prop} {α:Type} {R:α→List Value→Prop}
theorem jR.append {w0 W:World} (base:Nat) (hgd:o.guard=none) (s x:Operand) (t e:TypeId) (z:Value) (size bytes:Nat)
 (ho:o.op = .call { callee:=.builtin .append,args:=#[s,x],argTypes:=#[t,t] })
 (ht:P.underlying t=some (.slice e)) (hinfo:(P.info? e).map (fun i=>(i.zero,i.size,i.bytes))=some (some z,size,bytes)) (hz:z.cells.size=size) (hs0:0 < size) (hb0:0 < bytes)
 (v:Value) (ps:List α) (p:α) (cs:List Value) (hs:a.eval s=v) (hx:a.eval x = .slice (some ⟨W.heap.size,0,none⟩) 1 1) (hp:R p cs) (hcs:cs.length=size) (h1:∀ u∈cs,u.oneCell'=true)
 (HO:jR R e size W base v ps) (HB:Below base w0 W) (hbase:base≤W.heap.size) (hl:(ps.length+1) * bytes≤140737488355328)
 (h:∀ v1 w1,jR R e size w1 base v1 (ps++[p])→Below base w0 w1→W.grownBy w1 v.ownBlock→(v1.ownBlock=v.ownBlock∨∃ b,v1.ownBlock=some b∧W.heap.size≤b)→wpList P ops Q rest (a.put o.dst v1) w1) :
 wpList P ops Q (o::rest) a (W.alloc (.cells cs.toArray e)):=by
 obtain ⟨inner,hown,hr⟩:=HO;refine qG base hgd s x t e z size bytes ho ht hinfo hz hs0 hb0 v ps.length inner cs hs hx hcs h1 hown HB hbase hl ?_;intro v1 w1 hown1 hb1 hg1 hat1;exact h v1 w1 ⟨inner++cs,by rw[List.length_append,List.length_singleton];exact hown1,hr.snoc hp hcs⟩ hb1 hg1 hat1
end
section
variable {α:Type} {P:Program}
theorem mS (enc:α→Value) (d:α) (t e:TypeId) (kl:IntKind) {i:TypeInfo} (ht:P.underlying t=some (.slice e)) (hi:P.info? e=some i) (hsz:i.size=1) (A:Option Addr) (c:Nat) (xs:List α) (j:Int) (h0:0≤j) (hm:j≤xs.length) (hc:xs.length≤c) :
 (∀ W:World,(Instr.slice t (.slice A xs.length c) none (some (.int kl j)) none).run P W = .ok (.slice A (xs.take j.toNat).length c) W) ∧
  (∀ w:World,jY enc d w A xs.length xs→jY enc d w A (xs.take j.toNat).length (xs.take j.toNat))∧(xs.take j.toNat).length≤c:=by
 have hl:(xs.take j.toNat).length=j.toNat:=by rw[List.length_take];omega
 refine ⟨fun W=>?_,fun w h=>by rw[hl];exact h.take_ j.toNat (by omega),by rw[hl];omega⟩;have hel:P.elem t=e:=by simp[Program.elem,ht]
 have hu:P.underlying t=some (.slice (P.elem t)):=by rw[hel];exact ht
 have ha:(A.map fun x=>x.add 0)=A:=by cases A <;> simp[Addr.add]
 rw[run_slice_h W t A xs.length c hu kl j h0 (by omega),hel,hl]
 simp[sizeOf,typeInfo,hi,hsz,sliced,Result.andThen,ha]
end
section
variable {P:Program} {ops:Array Oper} {rest:List Oper} {o:Oper} {a:Act} {Q:Exit→Act→World→Prop}
theorem oX {w0 W:World} (base:Nat) (hgd:o.guard=none) (s x:Operand) (t u e:TypeId)
 (ho:o.op = .call { callee:=.builtin .append,args:=#[s,x],argTypes:=#[t,u] })
 (ht:P.underlying t=some (.slice e)) (hu:P.underlying u=some .string) (hinfo:(P.info? e).map (fun i=>(i.zero,i.size,i.bytes))=some (some (.int .u8 0),1,1))
 (v:Value) (xs:List Int) (y:ByteArray) (hs:a.eval s=v) (hx:a.eval x = .string y)
 (HO:W.ownsRow base e 1 v xs.length (nums .u8 xs)) (HB:Below base w0 W) (hbase:base≤W.heap.size) (hl:xs.length+y.size≤140737488355328)
 (h:∀ v1 w1,w1.ownsRow base e 1 v1 (xs++bytesOf y).length (nums .u8 (xs++bytesOf y))→Below base w0 w1→W.grownBy w1 v.ownBlock→wpList P ops Q rest (a.put o.dst v1) w1) :
 wpList P ops Q (o::rest) a W:=by
 obtain ⟨i0,hi,hzz⟩:=Option.map_eq_some_iff.1 hinfo;simp only[Prod.mk.injEq] at hzz;obtain ⟨hz0,hz1,hz2⟩:=hzz;refine Lib.wpList_append_own_string W hgd s x t u ho base e i0 ht hu hi hz0 hz1 hz2 v xs.length (nums .u8 xs) hs HO y hx (by simp only[maxLen];omega) hl hbase ?_;intro v1 w1 hown hg _;have hl2:(xs++bytesOf y).length=xs.length+y.size:=by rw[List.length_append,bytesOf_length]
 have hc:nums .u8 (xs++bytesOf y)=nums .u8 xs++Lib.strCells y:=by
  rw[nums_append];congr 1
  simp[nums,bytesOf,Lib.strCells]
 exact h v1 w1 (by rw[hl2,hc];exact hown) (HB.grown hg hbase (own_base HO)) hg
end
structure Kd (α:Type) where
 sz:Nat
 E:List Nat
 K:World→α→List Value→Prop
 M:World→Nat→(Nat→Prop)→α→List Value→Prop
 K_len:∀ {w x cs},K w x cs→cs.length=sz
 K_one:∀ {w x cs},K w x cs→∀ u∈cs,u.oneCell'=true
 K_below:∀ {w w1:World} {x cs},Below w.heap.size w w1→K w x cs→K w1 x cs
 K_of_M:∀ {w base ok x cs},M w base ok x cs→K w x cs
 M_mono:∀ {w base ok ok' x cs},(∀ k,ok k→ok' k)→M w base ok x cs→M w base ok' x cs
 M_bound:∀ {w:World} {base ok x cs},M w base ok x cs→M w base (fun k=>ok k∧base≤k∧k < w.heap.size∧∃ q,q∈E∧∃ cells,w.heap[k]? = some (.cells cells q (0,0))) x cs
 M_move:∀ {w w1:World} {base ok x cs},(∀ k,ok k→w1.heap[k]? = w.heap[k]?)→M w base ok x cs→M w1 base ok x cs
 M_lower:∀ {w base base' ok x cs},base'≤base→M w base ok x cs→M w base' ok x cs
theorem aHv {w w1:World} {base:Nat} {e:TypeId} {size n:Nat} {v:Value} {xs:List Value} (h:w.ownsRow base e size v n xs) (hm:∀ k,v.ownBlock=some k→w1.heap[k]? = w.heap[k]?):w1.ownsRow base e size v n xs:=by
 obtain ⟨h1,h2⟩:=h;refine ⟨h1,?_⟩;rcases h2 with h2 | ⟨g,cap,cur,rfl,hg,hh,r⟩
 ·exact .inl h2
 exact .inr ⟨g,cap,cur,rfl,hg,(hm g (by simp[Value.ownBlock])).trans hh,r⟩
theorem aAu {w:World} {base:Nat} {e:TypeId} {size n:Nat} {v:Value} {xs:List Value} (h:w.ownsRow base e size v n xs) (k:Nat) (hk:v.ownBlock=some k):∃ cells,w.heap[k]? = some (.cells cells e (0,0)):=by
 rcases h.2 with ⟨rfl,_⟩ | ⟨g,cap,cur,rfl,hg,hh,r⟩
 ·simp[Value.ownBlock] at hk
 have:g=k:=by simpa [Value.ownBlock] using hk
 subst this;exact ⟨cur,hh⟩
namespace Kd
def C {α:Type} (d:Kd α) (w:World) (A:Option Addr) (n:Nat) (xs:List α):Prop:=nC (d.K w) d.sz w A n xs
def R {α:Type} (d:Kd α) (e:Nat) (w:World) (base:Nat) (ok:Nat→Prop) (v:Value) (xs:List α):Prop :=
 (∀ k,v.ownBlock=some k→ok k)∧jR (d.M w base (fun k=>ok k∧some k≠v.ownBlock)) e d.sz w base v xs
section
variable {α:Type} {d:Kd α} {e:Nat} {w w1:World} {base:Nat} {ok ok' : Nat→Prop} {v:Value} {xs:List α}
theorem C_below {A:Option Addr} {n:Nat} (h:d.C w A n xs) (hb:Below w.heap.size w w1):d.C w1 A n xs:=nC.imp_ h hb (fun _ _ hp=>d.K_below hb hp)
theorem R_nil (d:Kd α) (e:Nat) (w:World) (base:Nat) (ok:Nat→Prop):d.R e w base ok (.slice none 0 0) []:=⟨fun k hk=>by simp[Value.ownBlock] at hk,jR.none_ _ _ _ _ _⟩
theorem R_mono (h:d.R e w base ok v xs) (hok:∀ k,ok k→ok' k):d.R e w base ok' v xs:=⟨fun k hk=>hok k (h.1 k hk),h.2.imp_ (fun _ _ hp=>d.M_mono (fun k hk=>⟨hok k hk.1,hk.2⟩) hp)⟩
theorem R_bound (h:d.R e w base ok v xs):d.R e w base (fun k=>ok k∧base≤k∧k < w.heap.size∧∃ q,q∈e::d.E∧∃ cells,w.heap[k]? = some (.cells cells q (0,0))) v xs:=by
 obtain ⟨h0,inner,ho,hr⟩:=h;refine ⟨fun k hk=>?_,inner,ho,hr.imp_ (fun _ _ hp=>d.M_mono (fun k hk=>?_) (d.M_bound hp))⟩
 ·obtain ⟨cells,hc⟩:=aAu ho k hk;exact ⟨h0 k hk,own_base ho k hk,aGv ho k hk,e,List.mem_cons_self,cells,hc⟩
 obtain ⟨⟨h1,h2⟩,h3,h4,q,hq,hc⟩:=hk;exact ⟨⟨h1,h3,h4,q,List.mem_cons_of_mem _ hq,hc⟩,h2⟩
theorem R_move (h:d.R e w base ok v xs) (hm:∀ k,ok k→w1.heap[k]? = w.heap[k]?):d.R e w1 base ok v xs:=by
 obtain ⟨h0,inner,ho,hr⟩:=h;exact ⟨h0,inner,aHv ho (fun k hk=>hm k (h0 k hk)),hr.imp_ (fun _ _ hp=>d.M_move (fun k hk=>hm k hk.1) hp)⟩
theorem R_lower {base' : Nat} (h:d.R e w base ok v xs) (hb:base'≤base):d.R e w base' ok v xs:=by
 obtain ⟨h0,inner,ho,hr⟩:=h;exact ⟨h0,inner,pJ ho hb,hr.imp_ (fun _ _ hp=>d.M_lower hb hp)⟩
theorem aJe (h:d.R e w base ok v xs) (hm:∀ k,ok k→k < w.heap.size→w1.heap[k]? = w.heap[k]?):d.R e w1 base ok v xs :=
 R_mono (R_move (R_bound h) (fun k hk=>hm k hk.1 hk.2.2.1)) (fun _ hk=>hk.1)
theorem aF2 {x:α} {cs:List Value} (h:d.M w base ok x cs) (hm:∀ k,ok k→k < w.heap.size→w1.heap[k]? = w.heap[k]?):d.M w1 base ok x cs :=
 d.M_mono (fun _ hk=>hk.1) (d.M_move (fun k hk=>hm k hk.1 hk.2.2.1) (d.M_bound h))
theorem R_below (h:d.R e w base ok v xs) (hb:Below w.heap.size w w1):d.R e w1 base ok v xs:=aJe h (fun k _ hk=>hb.block k hk)
theorem aIk {x:α} {cs:List Value} (h:d.M w base ok x cs) (hb:Below w.heap.size w w1):d.M w1 base ok x cs:=aF2 h (fun k _ hk=>hb.block k hk)
theorem R_reads (h:d.R e w base ok v xs):∃ A c,v = .slice A xs.length c∧xs.length≤c∧d.C w A xs.length xs:=by
 obtain ⟨A,c,he,hl,hr⟩:=jR.reads h.2;exact ⟨A,c,he,hl,hr.imp_ (Below.refl _ _) (fun _ _ hp=>d.K_of_M hp)⟩
theorem R_slice (h:d.R e w base ok v xs):∃ A c,v = .slice A xs.length c:=by
 obtain ⟨A,c,he,_⟩:=R_reads h;exact ⟨A,c,he⟩
theorem aEx (h:d.R e w base ok v xs):∃ inner,w.ownsRow base e d.sz v xs.length inner:=by
 obtain ⟨_,inner,ho,_⟩:=h;exact ⟨inner,ho⟩
end
def scalar {α:Type} (enc:α→Value) (h1:∀ x,(enc x).oneCell'=true):Kd α where
 sz:=1
 E:=[]
 K:=fun _ x cs=>cs=[enc x]
 M:=fun _ _ _ x cs=>cs=[enc x]
 K_len:=fun h=>by rw[h];rfl
 K_one:=fun h u hu=>by
  rw[h] at hu;rw[List.mem_singleton.1 hu];exact h1 _
 K_below:=fun _ h=>h
 K_of_M:=fun h=>h
 M_mono:=fun _ h=>h
 M_bound:=fun h=>h
 M_move:=fun _ h=>h
 M_lower:=fun _ h=>h
def int (k:IntKind):Kd Int:=scalar (Value.int k) (fun _=>rfl)
def bool:Kd Bool:=scalar Value.bool (fun _=>rfl)
def string:Kd ByteArray:=scalar Value.string (fun _=>rfl)
def slice {α:Type} (e:Nat) (d:Kd α):Kd (List α) where
 sz:=1
 E:=e::d.E
 K:=fun w xs cs=>∃ A c,cs=[.slice A xs.length c]∧xs.length≤c∧d.C w A xs.length xs
 M:=fun w base ok xs cs=>∃ v,cs=[v]∧d.R e w base ok v xs
 K_len:=by
  rintro w x cs ⟨A,c,rfl,_⟩;rfl
 K_one:=by
  rintro w x cs ⟨A,c,rfl,_⟩ u hu;rw[List.mem_singleton.1 hu];rfl
 K_below:=by
  rintro w w1 x cs hb ⟨A,c,rfl,hl,hr⟩;exact ⟨A,c,rfl,hl,C_below hr hb⟩
 K_of_M:=by
  rintro w base ok x cs ⟨v,rfl,h⟩;obtain ⟨A,c,rfl,hl,hr⟩:=R_reads h;exact ⟨A,c,rfl,hl,hr⟩
 M_mono:=by
  rintro w base ok ok' x cs hok ⟨v,rfl,h⟩;exact ⟨v,rfl,R_mono h hok⟩
 M_bound:=by
  rintro w base ok x cs ⟨v,rfl,h⟩;exact ⟨v,rfl,R_bound h⟩
 M_move:=by
  rintro w w1 base ok x cs hm ⟨v,rfl,h⟩;exact ⟨v,rfl,R_move h hm⟩
 M_lower:=by
  rintro w base base' ok x cs hb ⟨v,rfl,h⟩;exact ⟨v,rfl,R_lower h hb⟩
def pair {α β:Type} (a:Kd α) (b:Kd β):Kd (α×β) where
 sz:=a.sz+b.sz
 E:=a.E++b.E
 K:=fun w x cs=>∃ c0 c1,cs=c0++c1∧a.K w x.1 c0∧b.K w x.2 c1
 M:=fun w base ok x cs=>∃ c0 c1,cs=c0++c1∧a.M w base ok x.1 c0∧b.M w base ok x.2 c1
 K_len:=by
  rintro w x cs ⟨c0,c1,rfl,h0,h1⟩;rw[List.length_append,a.K_len h0,b.K_len h1]
 K_one:=by
  rintro w x cs ⟨c0,c1,rfl,h0,h1⟩ u hu;rcases List.mem_append.1 hu with hu | hu
  ·exact a.K_one h0 u hu
  exact b.K_one h1 u hu
 K_below:=by
  rintro w w1 x cs hb ⟨c0,c1,rfl,h0,h1⟩;exact ⟨c0,c1,rfl,a.K_below hb h0,b.K_below hb h1⟩
 K_of_M:=by
  rintro w base ok x cs ⟨c0,c1,rfl,h0,h1⟩;exact ⟨c0,c1,rfl,a.K_of_M h0,b.K_of_M h1⟩
 M_mono:=by
  rintro w base ok ok' x cs hok ⟨c0,c1,rfl,h0,h1⟩;exact ⟨c0,c1,rfl,a.M_mono hok h0,b.M_mono hok h1⟩
 M_bound:=by
  rintro w base ok x cs ⟨c0,c1,rfl,h0,h1⟩;refine ⟨c0,c1,rfl,a.M_mono ?_ (a.M_bound h0),b.M_mono ?_ (b.M_bound h1)⟩
  ·rintro k ⟨h2,h3,h4,q,hq,hc⟩;exact ⟨h2,h3,h4,q,List.mem_append_left _ hq,hc⟩
  rintro k ⟨h2,h3,h4,q,hq,hc⟩;exact ⟨h2,h3,h4,q,List.mem_append_right _ hq,hc⟩
 M_move:=by
  rintro w w1 base ok x cs hm ⟨c0,c1,rfl,h0,h1⟩;exact ⟨c0,c1,rfl,a.M_move hm h0,b.M_move hm h1⟩
 M_lower:=by
  rintro w base base' ok x cs hb ⟨c0,c1,rfl,h0,h1⟩;exact ⟨c0,c1,rfl,a.M_lower hb h0,b.M_lower hb h1⟩
def iso {α β:Type} (d:Kd α) (f:β→α):Kd β where
 sz:=d.sz
 E:=d.E
 K:=fun w x cs=>d.K w (f x) cs
 M:=fun w base ok x cs=>d.M w base ok (f x) cs
 K_len:=d.K_len
 K_one:=d.K_one
 K_below:=d.K_below
 K_of_M:=d.K_of_M
 M_mono:=d.M_mono
 M_bound:=d.M_bound
 M_move:=d.M_move
 M_lower:=d.M_lower
theorem C_get {α:Type} {d:Kd α} {w:World} {A:Option Addr} {n:Nat} {xs:List α} (h:d.C w A n xs) (z:α) (i:Int) (h0:0≤i) (h1:i < n) :
 ∃ ad c,A=some ad∧c.length=d.sz∧d.K w (xs.getD i.toNat z) c∧∀ j u,c[j]? = some u→w.cell? (ad.add (i.toNat * d.sz+j))=some u:=nC.get_ h z i h0 h1
theorem aEw {α:Type} {d:Kd α} {e base:Nat} {ok okp:Nat→Prop} {W w1:World} {v v1:Value} {xs:List α} {p:α} {inner cs:List Value} (h0:∀ k,v.ownBlock=some k→ok k) (hr:gW (d.M W base (fun k=>ok k∧some k≠v.ownBlock)) d.sz xs inner) (hp:d.M W base okp p cs) (hokp:∀ k,okp k→ok k∧some k≠v.ownBlock) (hfresh:∀ k,W.heap.size≤k→ok k)
 (hown:w1.ownsRow base e d.sz v1 (xs.length+1) (inner++cs)) (hg:W.grownBy w1 v.ownBlock) (hat:v1.ownBlock=v.ownBlock∨∃ b,v1.ownBlock=some b∧W.heap.size≤b):d.R e w1 base ok v1 (xs++[p]):=by
 have hne:∀ k,some k≠v.ownBlock→k < W.heap.size→some k≠v1.ownBlock:=by
  intro k hk hlt;rcases hat with hat | ⟨b,hb,hle⟩
  ·rw[hat];exact hk
  rw[hb];intro he;injection he with he
  omega
 have step:∀ {q:α} {c:List Value} {o:Nat→Prop},d.M W base o q c→(∀ k,o k→ok k∧some k≠v.ownBlock)→d.M w1 base (fun k=>ok k∧some k≠v1.ownBlock) q c:=by
  intro q c o hq ho;have h1:=d.M_move (w1:=w1) (fun k hk=>hg.block k hk.2.2.1 (ho k hk.1).2) (d.M_bound hq);exact d.M_mono (fun k hk=>⟨(ho k hk.1).1,hne k (ho k hk.1).2 hk.2.2.1⟩) h1
 refine ⟨fun k hk=>?_,inner++cs,by rw[List.length_append,List.length_singleton];exact hown,?_⟩
 ·rcases hat with hat | ⟨b,hb,hle⟩
  ·exact h0 k (hat▸hk)
  rw[hb] at hk;injection hk with hk
  exact hfresh k (by omega)
 exact (hr.imp_ (fun _ _ hq=>step hq (fun _ hk=>hk))).snoc (step hp hokp) (d.K_len (d.K_of_M hp))
section
variable {P:Program} {ops:Array Oper} {rest:List Oper} {o:Oper} {a:Act} {Q:Exit→Act→World→Prop} {α:Type}
theorem R_append (d:Kd α) {w0 W:World} (base:Nat) (hgd:o.guard=none) (s x:Operand) (t e:TypeId) (z:Value) (bytes:Nat)
 (ho:o.op = .call { callee:=.builtin .append,args:=#[s,x],argTypes:=#[t,t] })
 (ht:P.underlying t=some (.slice e)) (hinfo:(P.info? e).map (fun i=>(i.zero,i.size,i.bytes))=some (some z,d.sz,bytes)) (hz:z.cells.size=d.sz) (hs0:0 < d.sz) (hb0:0 < bytes)
 (v:Value) (xs:List α) (p:α) (cs:List Value) (ok okp:Nat→Prop) (hs:a.eval s=v) (hx:a.eval x = .slice (some ⟨W.heap.size,0,none⟩) 1 1) (hp:d.M W base okp p cs) (hokp:∀ k,okp k→ok k∧some k≠v.ownBlock) (hfresh:∀ k,W.heap.size≤k→ok k)
 (HO:d.R e W base ok v xs) (HB:Below base w0 W) (hbase:base≤W.heap.size) (hl:(xs.length+1) * bytes≤140737488355328)
 (h:∀ v1 w1,d.R e w1 base ok v1 (xs++[p])→Below base w0 w1→W.grownBy w1 v.ownBlock→(v1.ownBlock=v.ownBlock∨∃ b,v1.ownBlock=some b∧W.heap.size≤b)→wpList P ops Q rest (a.put o.dst v1) w1) :
 wpList P ops Q (o::rest) a (W.alloc (.cells cs.toArray e)):=by
 obtain ⟨h0,inner,hown,hr⟩:=HO;refine qG base hgd s x t e z d.sz bytes ho ht hinfo hz hs0 hb0 v xs.length inner cs hs hx (d.K_len (d.K_of_M hp)) (d.K_one (d.K_of_M hp)) hown HB hbase hl ?_;intro v1 w1 hown1 hb1 hg1 hat1;exact h v1 w1 (aEw h0 hr hp hokp hfresh hown1 hg1 hat1) hb1 hg1 hat1
end
theorem C_of_reads {α:Type} {enc:α→Value} {d:α} {h1:∀ x,(enc x).oneCell'=true} {w:World} {A:Option Addr} {n:Nat} {xs:List α} (h:jY enc d w A n xs):(scalar enc h1).C w A n xs:=by
 refine ⟨h.1,h.2.1,fun hn=>?_⟩;obtain ⟨ad,e,hc⟩:=h.2.2 hn;refine ⟨ad,e,fun j p hj=>⟨[enc p],rfl,rfl,fun i u hu=>?_⟩⟩;obtain ⟨hl,hp⟩:=List.getElem?_eq_some_iff.1 hj;have h2:=hc j (by have:=h.1;omega);rw[List.getD_eq_getElem?_getD,hj] at h2
 cases i with
 | zero =>
  have:enc p=u:=by simpa using hu
  subst this
  simpa [scalar] using h2
 | succ i=>simp at hu
theorem reads_of_C {α:Type} {enc:α→Value} {d:α} {h1:∀ x,(enc x).oneCell'=true} {w:World} {A:Option Addr} {n:Nat} {xs:List α} (h:(scalar enc h1).C w A n xs):jY enc d w A n xs:=by
 refine ⟨h.1,h.2.1,fun hn=>?_⟩;obtain ⟨ad,e,hc⟩:=h.2.2 hn;refine ⟨ad,e,fun j hj=>?_⟩;have hl:j < xs.length:=by have:=h.1;omega
 obtain ⟨c,_,hK,hcell⟩:=hc j _ (List.getElem?_eq_getElem hl);have hK' : c=[enc xs[j]]:=hK;subst hK';have:=hcell 0 _ rfl
 simpa [scalar,List.getD_eq_getElem?_getD,List.getElem?_eq_getElem hl] using this
end Kd
namespace Kd
theorem R_after {α:Type} {d:Kd α} {e base:Nat} {ok:Nat→Prop} {W w1:World} {u v v1:Value} {xs:List α} (h:d.R e W base (fun k=>ok k∧some k≠v.ownBlock) u xs) (hg:W.grownBy w1 v.ownBlock) (hat:v1.ownBlock=v.ownBlock∨∃ b,v1.ownBlock=some b∧W.heap.size≤b):d.R e w1 base (fun k=>ok k∧some k≠v1.ownBlock) u xs:=by
 refine R_mono (R_move (R_bound h) (fun k hk=>hg.block k hk.2.2.1 hk.1.2)) (fun k hk=>⟨hk.1.1,?_⟩);rcases hat with hat | ⟨b,hb,hle⟩
 ·rw[hat];exact hk.1.2
 rw[hb];intro he;injection he with he
 have:=hk.2.2.1;omega
end Kd
namespace Kd
section
variable {α β:Type} {d:Kd α} {d' : Kd β} {e e' : Nat} {w w1 W:World} {base b b' : Nat} {ok ok' okv oku:Nat→Prop} {v u:Value} {xs:List α} {ys:List β}
theorem R_alloc (h:d.R e w base ok v xs) (o:Obj):d.R e (w.alloc o) base ok v xs:=R_below h (fC (Below.refl _ _) o)
theorem R_drew (h:d.R e w base ok v xs):d.R e w.drew base ok v xs:=R_below h (yI (Below.refl _ _))
theorem R_drewN (h:d.R e w base ok v xs) (m:Nat):d.R e (w.drewN m) base ok v xs:=R_below h (eU (Below.refl _ _) m)
theorem C_alloc {A:Option Addr} {n:Nat} (h:d.C w A n xs) (o:Obj):d.C (w.alloc o) A n xs:=C_below h (fC (Below.refl _ _) o)
theorem C_drew {A:Option Addr} {n:Nat} (h:d.C w A n xs):d.C w.drew A n xs:=C_below h (yI (Below.refl _ _))
theorem C_drewN {A:Option Addr} {n:Nat} (h:d.C w A n xs) (m:Nat):d.C (w.drewN m) A n xs:=C_below h (eU (Below.refl _ _) m)
theorem aJo (d:Kd α) (w:World):d.C w none ([]:List α).length []:=⟨rfl,by simp,fun h=>absurd h (Nat.lt_irrefl 0)⟩
theorem R_reads' {A:Option Addr} {n c:Nat} (h:d.R e w base ok (.slice A n c) xs):n=xs.length∧n≤c∧d.C w A xs.length xs:=by
 obtain ⟨A',c',he,hl,hr⟩:=R_reads h;injection he with h1 h2 h3
 subst h1;exact ⟨h2,by omega,hr⟩
theorem R_lt (h:d.R e w base ok v xs):∀ k,v.ownBlock=some k→k < w.heap.size:=by
 obtain ⟨inner,ho⟩:=aEx h;exact aGv ho
theorem R_base (h:d.R e w base ok v xs):∀ k,v.ownBlock=some k→base≤k:=by
 obtain ⟨inner,ho⟩:=aEx h;exact own_base ho
end
section
variable {w W:World} {A:Option Addr} {n:Nat}
theorem at_int {k:IntKind} {xs:List Int} (h:(Kd.int k).C w A n xs) (i:Int) (h0:0≤i) (h1:i < n):∃ ad,A=some ad∧w.cell? (ad.add i.toNat)=some (.int k (rd xs i)) :=
 jY.at_ (reads_of_C (enc:=Value.int k) (d:=(0:Int)) (h1:=fun _=>rfl) h) i h0 h1
theorem at_string {xs:List ByteArray} (h:Kd.string.C w A n xs) (i:Int) (h0:0≤i) (h1:i < n):∃ ad,A=some ad∧w.cell? (ad.add i.toNat)=some (.string (iB ByteArray.empty xs i)) :=
 jY.at_ (reads_of_C (enc:=Value.string) (d:=ByteArray.empty) (h1:=fun _=>rfl) h) i h0 h1
variable {α:Type} {enc:α→Value} {h1:∀ x,(enc x).oneCell'=true} {e base g cap:Nat} {ok:Nat→Prop} {xs:List α}
end
section
variable {P:Program} {ops:Array Oper} {rest:List Oper} {o:Oper} {a:Act} {Q:Exit→Act→World→Prop}
theorem event_run {W w1:World} {v:Value} (hgd:o.guard=none) (hrun:(execOp a.eval o).run P W = .ok (.value v) w1) (h:wpList P ops Q rest (a.put o.dst v) w1):wpList P ops Q (o::rest) a W:=by
 refine wpList_plain hgd fun K hK=>?_;unfold Oper.wp;rw[hrun];exact hK _ _ h
variable {α:Type}
theorem R_lit (d:Kd α) {w0 W:World} (base e:Nat) (hgd:o.guard=none) {N:Tmp} (_hd:o.dst=some N) {xs:List α} {inner:List Value} {ok okp:Nat→Prop}
 (hrun:(execOp a.eval o).run P W = .ok (.value (.slice (some ⟨W.heap.size,0,none⟩) xs.length xs.length)) (W.alloc (.cells inner.toArray e)))
 (hrep:gW (d.M W base okp) d.sz xs inner) (hok:∀ k,okp k→ok k) (hfresh:ok W.heap.size) (HB:Below base w0 W) (hbase:base≤W.heap.size) (hm:xs.length≤9223372036854775807)
 (h:∀ v1 w1,d.R e w1 base ok v1 xs→Below base w0 w1→W.grownBy w1 none→(∃ b,v1.ownBlock=some b∧W.heap.size≤b)→wpList P ops Q rest (a.put o.dst v1) w1):wpList P ops Q (o::rest) a W:=by
 refine event_run hgd hrun (h _ _ ⟨fun k hk=>?_,inner,?_,?_⟩ (HB.alloc hbase _) (World.grownBy_alloc W _ none) ⟨W.heap.size,by simp[Value.ownBlock],Nat.le_refl _⟩)
 ·have:W.heap.size=k:=by simpa [Value.ownBlock] using hk
  subst this;exact hfresh
 ·have h2:=World.ownsRow_lit (base:=base) (e:=e) (size:=d.sz) W inner.toArray xs.length hbase (by simpa [maxLen] using hm) (by simpa using hrep.1)
  simpa using h2
 refine hrep.imp_ (fun p c hp=>d.M_mono (fun k hk=>⟨hok k hk.1,fun he=>?_⟩) (aIk (d.M_bound hp) (fC (Below.refl _ _) _)));have h3:k=W.heap.size:=by simpa [Value.ownBlock] using he
 have:=hk.2.2.1;omega
end
end Kd
def aJc (w:World) (base:Nat) (e:TypeId) (size:Nat) (v:Value) (n:Nat) (xs:List Value):Prop :=
 xs.length=n * size ∧
 ((n=0∧∃ A,v = .slice A 0 0∧∀ a,A=some a→base≤a.block∧∃ cur,w.heap[a.block]? = some (.cells cur e (0,0))) ∨
  ∃ g off cap cur,v = .slice (some ⟨g,off * size,none⟩) n cap∧base≤g∧w.heap[g]? = some (.cells cur e (0,0))∧n≤cap∧off+cap≤maxLen∧cur.size=(off+cap) * size∧(cur.toList.drop (off * size)).take (n * size)=xs)
section
variable {w w1:World} {base n size:Nat} {e:TypeId} {v:Value} {xs:List Value}
theorem aHw (h:w.ownsRow base e size v n xs):aJc w base e size v n xs:=by
 obtain ⟨h1,h2⟩:=h;refine ⟨h1,?_⟩;rcases h2 with ⟨rfl,h0⟩ | ⟨g,cap,cur,rfl,hb,hh,hnc,hcm,hcs,ht⟩
 ·exact .inl ⟨h0,none,rfl,fun a ha=>by cases ha⟩
 exact .inr ⟨g,0,cap,cur,by rw[Nat.zero_mul],hb,hh,hnc,by rw[Nat.zero_add];exact hcm,by rw[Nat.zero_add];exact hcs,by rw[Nat.zero_mul,List.drop_zero];exact ht⟩
theorem nJ {g:Nat}:∀ (vs:List Value) (o:Nat) {w:World} (k:Nat),k≠g→(w.setCells g o vs).heap[k]? = w.heap[k]?
 | [],_,_,_,_=>rfl
 | v::r,o,w,k,hk=>by
  rw[World.setCells,nJ r (o+1) k hk];exact Below.heap_setCell w ⟨g,o,none⟩ v k hk
end
namespace Kd
def Q {α:Type} (d:Kd α) (e:Nat) (w:World) (base:Nat) (ok:Nat→Prop) (v:Value) (xs:List α):Prop :=
 (∀ k,v.ownBlock=some k→ok k)∧∃ inner,aJc w base e d.sz v xs.length inner∧gW (d.M w base (fun k=>ok k∧some k≠v.ownBlock)) d.sz xs inner
section
variable {α:Type} {d:Kd α} {e:Nat} {w w1 W:World} {base:Nat} {ok ok' : Nat→Prop} {v:Value} {xs:List α}
theorem aJd (h:d.R e w base ok v xs):d.Q e w base ok v xs:=by
 obtain ⟨h0,inner,ho,hr⟩:=h;exact ⟨h0,inner,aHw ho,hr⟩
theorem Q_nil (d:Kd α) (e:Nat) (w:World) (base:Nat) (ok:Nat→Prop):d.Q e w base ok (.slice none 0 0) []:=aJd (R_nil d e w base ok)
end
end Kd
namespace Kd
section
variable {α:Type} {d:Kd α} {e e' : Nat} {w w1 W:World} {base:Nat} {ok:Nat→Prop} {u v:Value} {xs:List α}
theorem R_typed (h:d.R e w base ok v xs):∀ k,v.ownBlock=some k→∃ cells,w.heap[k]? = some (.cells cells e (0,0)):=by
 obtain ⟨inner,ho⟩:=aEx h;exact fun k hk=>aAu ho k hk
theorem R_over' (h:d.R e W base ok u xs) (hty:∀ k,v.ownBlock=some k→∃ cells,W.heap[k]? = some (.cells cells e' (0,0))) (ht:∀ q,q∈e::d.E→q≠e') (hg:W.grownBy w1 v.ownBlock):d.R e w1 base ok u xs:=by
 refine R_mono (R_move (R_bound h) (fun k hk=>hg.block k hk.2.2.1 (fun he=>?_))) (fun _ hk=>hk.1);obtain ⟨_,_,_,q,hq,cells,hc⟩:=hk;obtain ⟨cells',hc'⟩:=hty k he.symm;rw[hc] at hc';injection hc' with hc'
 injection hc' with _ hc'
 exact ht q hq hc'
theorem R_elder' (hu:d.R e W base ok u xs) (hbase:∀ k,v.ownBlock=some k→W.heap.size≤k) (hb:Below W.heap.size W w1):d.R e w1 base (fun k=>ok k∧some k≠v.ownBlock) u xs :=
 R_mono (R_move (R_bound hu) (fun k hk=>hb.block k hk.2.2.1)) (fun k hk=>⟨hk.1,fun he=>by have:=hbase k he.symm;have:=hk.2.2.1;omega⟩)
theorem R_new' (h:d.R e w1 W.heap.size ok v xs) (hlt:∀ k,u.ownBlock=some k→k < W.heap.size):d.R e w1 W.heap.size (fun k=>ok k∧some k≠u.ownBlock) v xs :=
 R_mono (R_bound h) (fun k hk=>⟨hk.1,fun he=>by have:=hlt k he.symm;have:=hk.2.1;omega⟩)
theorem fresh' (hlt:∀ k,u.ownBlock=some k→k < W.heap.size):∀ k,W.heap.size≤k→some k≠u.ownBlock:=fun k hk he=>by have:=hlt k he.symm;omega
end
end Kd
theorem add_add (a:Addr) (i j:Nat):(a.add i).add j=a.add (i+j):=by
 unfold Addr.add
 by_cases h1:i=0 <;> by_cases h2:j=0 <;> simp[h1,h2,Nat.add_assoc]
theorem zB {P:Program} {w:World} {src dst e:TypeId} {A:Option Addr} {n c:Nat} {xs:List Int} (hs:P.underlying src=some (.slice e)) (he:P.underlying e=some (.int .u8)) (hd:P.underlying dst=some .string)
 (h:iX w .u8 A n xs):(convert src dst (.slice A n c)).run P w = .ok (.string (strOfNums xs)) w:=by
 have hn:xs.length=n:=h.1;rcases A with _ | ad
 ·have h0:n=0:=by
   rcases Nat.eq_zero_or_pos n with h0 | h0
   ·exact h0
   obtain ⟨ad,h',_⟩:=h.2.2 h0;cases h'
  subst h0;obtain rfl:xs=[]:=List.eq_nil_of_length_eq_zero hn;exact run_convert_bytes_nil w src e hs he 0 c dst hd
 have hl:(loadCells ad n).run P w = .ok (xs.map (Value.int .u8)).toArray w:=by
  have:=run_loadCells_list (P:=P) w ad (xs.map (Value.int .u8)) (fun j v hj=>by
   have hjl:j < xs.length:=by
    rcases Nat.lt_or_ge j xs.length with h' | h'
    ·exact h'
    rw[List.getElem?_eq_none (by rw[List.length_map];exact h')] at hj;cases hj
   obtain ⟨ad',he',hc⟩:=h.2.2 (by omega);injection he' with he'
   subst he';rw[hc j (by omega)];rw[List.getElem?_map,List.getElem?_eq_getElem hjl] at hj
   simp at hj
   subst hj
   simp[List.getD_eq_getElem?_getD,List.getElem?_eq_getElem hjl])
  simpa [hn] using this
 rw[run_convert_bytes_string w src dst e _ n c hs he hd,run_bytesToString w ad n c xs hl,foldl_push_bytes]
 simp[strOfNums,ByteArray.empty,ByteArray.emptyWithCapacity]
 rfl
theorem eJ {w W:World} (h:Below w.heap.size w W):w.heap.size≤W.heap.size:=h.size
theorem eA {w W w2:World} (h:Below w.heap.size w W) (k:Below W.heap.size W w2):Below w.heap.size w w2:=pF h h.size k
theorem vE {W:World} {base n:Nat} {e:TypeId} {size:Nat} {v:Value} {xs:List Value} (h:W.ownsRow base e size v n xs) (m:Nat):(W.drewN m).ownsRow base e size v n xs:=h
theorem iX.nil (W:World) (k:IntKind):iX W k none ([]:List Int).length []:=⟨rfl,by simp,fun h=>absurd h (Nat.lt_irrefl 0)⟩
theorem iX.drewN {W:World} {k:IntKind} {A:Option Addr} {n:Nat} {xs:List Int} (h:iX W k A n xs) (m:Nat):iX (W.drewN m) k A n xs:=h
theorem iX.ofRow {k:IntKind} {w:World} {a:Option Addr} {len cap:Nat} {zs:List Int} (h:(a=none∧len=0∧cap=0∧zs=[])∨∃ x,a=some x∧len≤cap∧cap≤maxLen∧zs.length=cap∧(∀ i,i < zs.length→w.cell? (x.add i)=some (.int k (zs.getD i 0)))∧∀ n∈zs,(Lit.int k n).wf=true) :
 ∃ l:List Int,len=l.length∧iX w k a l.length l∧l.length≤maxLen∧∀ x∈l,(Lit.int k x).wf=true:=by
 rcases h with ⟨rfl,rfl,rfl,rfl⟩ | ⟨x,rfl,hl,hm,hz,hc,hw⟩
 ·exact ⟨[],rfl,iX.nil _ _,Nat.zero_le _,fun x hx=>by simp at hx⟩
 have e:(zs.take len).length=len:=by simp;omega
 have hm' : len≤maxLen:=Nat.le_trans hl hm;refine ⟨zs.take len,e.symm,⟨rfl,by rw[e];simpa [maxLen] using hm',fun _=>⟨x,rfl,fun j hj=>?_⟩⟩,by rw[e];exact hm',fun y hy=>hw y (List.mem_of_mem_take hy)⟩;rw[e] at hj;rw[hc j (by omega)]
 simp[List.getD,List.getElem?_take,hj]
theorem fT {w W:World} {g j:Nat} {v:Value} (h:Below w.heap.size w W) (hg:w.heap.size≤g):Below w.heap.size w (W.setCell ⟨g,j,none⟩ v):=h.setCell hg _
theorem add_block (a:Addr) (i:Nat):(a.add i).block=a.block:=by unfold Addr.add;split <;> rfl
theorem jY.nil {α:Type} (enc:α→Value) (d:α) (W:World):jY enc d W none ([]:List α).length []:=⟨rfl,by simp,fun h=>absurd h (Nat.lt_irrefl 0)⟩
theorem jY.drewN {α:Type} {enc:α→Value} {d:α} {W:World} {A:Option Addr} {n:Nat} {xs:List α} (h:jY enc d W A n xs) (m:Nat):jY enc d (W.drewN m) A n xs:=h
theorem cell_far {W:World} {p a:Addr} (h:a.block≠p.block) (u:Value):(W.setCell p u).cell? a=W.cell? a:=by
 have:=Below.heap_setCell W p u a.block h
 simp[World.cell?,this]
theorem vQ {w:World} {g:Nat} {t:TypeId} {cs cs' : Array Value} (h:w.heap[g]? = some (.cells cs t (0,0))) (i:Nat) (u:Value) (e:cs.setIfInBounds i u=cs'):(w.setCell ⟨g,i,none⟩ u).heap[g]? = some (.cells cs' t (0,0)):=e▸aIn h i u
theorem iX.ofRowC {k:IntKind} {w:World} {a:Option Addr} {len cap:Nat} {zs:List Int} (h:(a=none∧len=0∧cap=0∧zs=[])∨∃ x,a=some x∧len≤cap∧cap≤maxLen∧zs.length=cap∧(∀ i,i < zs.length→w.cell? (x.add i)=some (.int k (zs.getD i 0)))∧∀ n∈zs,(Lit.int k n).wf=true) :
 ∃ l:List Int,len=l.length∧iX w k a l.length l∧l.length≤maxLen∧(∀ x∈l,(Lit.int k x).wf=true)∧l.length≤cap:=by
 have hl:len≤cap:=by
  rcases h with ⟨_,rfl,rfl,_⟩ | ⟨_,_,h,_⟩
  ·exact Nat.le_refl _
  exact h
 obtain ⟨l,e,h1,h2,h3⟩:=iX.ofRow h;exact ⟨l,e,h1,h2,h3,e▸hl⟩
theorem fG {base:Nat} {w W:World} (h:Below base w W):Below base w W.drew:=h.drew
section
variable {P:Program} {ops:Array Oper} {rest:List Oper} {o:Oper} {a:Act} {Q:Exit→Act→World→Prop}
theorem gH {W:World} (hgd:o.guard=none) {N:Tmp} (_hd:o.dst=some N) {cs:Array Value} {t:TypeId}
 (hrun:(execOp a.eval o).run P W = .ok (.value (.pointer (some ⟨W.heap.size,0,none⟩))) (W.alloc (.cells cs t (0,0))))
 (h:∀ g,g=W.heap.size→∀ w1,w1.heap[g]? = some (.cells cs t (0,0))→Below W.heap.size W w1→wpList P ops Q rest (a.put o.dst (.pointer (some ⟨g,0,none⟩))) w1):wpList P ops Q (o::rest) a W :=
 Kd.event_run hgd hrun (h _ rfl _ (aIm W _) (fC (Below.refl _ _) _))
end
section
variable {P:Program} {ops:Array Oper} {rest:List Oper} {o:Oper} {a:Act} {Q:Exit→Act→World→Prop} {W:World}
theorem gO {N:Tmp} (_hN:o.dst=some N) (h:wpList P ops Q (o::rest) a W):wpList P ops Q (o::rest) a W:=h
end
end Go.ZW.PrintWords
namespace Go.Proofs.YtlkoeeccebmjmaaGreatDoor.Base
open Go.RowKit Go.ZW.PrintWords
theorem w64 {n:Int} (h:-9223372036854775808≤n) (h' : n≤9223372036854775807):wrap64 n=n:=IntWalk.wrap64_in n ⟨h,h'⟩
def L (s:ByteArray):List UInt8:=s.data.toList
theorem L_toList (s:ByteArray):s.toList=L s:=Lib.toList_data s
theorem eD (s:ByteArray):(L s).length=s.size:=wM s
theorem L_inj {a b:ByteArray} (h:L a=L b):a=b:=by
 cases a with | mk a=>cases b with | mk b=>simp only[L] at h;exact congrArg _ (Array.ext' h)
theorem jQ (l:List UInt8):L ⟨l.toArray⟩=l:=by simp[L]
theorem lY (a b:ByteArray):L (a++b)=L a++L b:=by
 simp[L]
theorem eN (s:ByteArray) (a b:Nat):L (s.extract a b)=((L s).drop a).take (b - a):=Lib.extract_data s a b
theorem size_append (a b:ByteArray):(a++b).size=a.size+b.size:=by
 rw[← eD,lY,List.length_append,eD,eD]
theorem sN (s:ByteArray) (i:Nat) (h:i < (L s).length):bt s (i:Int)=(((L s)[i]'h).toNat:Int):=by
 have h' : i < s.size:=by rw[← eD];exact h
 unfold bt;rw[dif_pos (by simpa using h')];rfl
theorem tS (c:UInt8) (n:Nat) (hn:n < 256):(c.toNat:Int)=(n:Int)↔c=UInt8.ofNat n:=by
 constructor
 ·intro h;have h' : c.toNat=n:=by omega
  rw[← h'];simp
 intro h;subst h
 simp[Nat.mod_eq_of_lt hn]
end Go.Proofs.YtlkoeeccebmjmaaGreatDoor.Base
namespace Go.Proofs.YtlkoeeccebmjmaaGreatDoor.Path
open Go.RowKit Go.ZW.PrintWords Go.Proofs.YtlkoeeccebmjmaaGreatDoor.Base
def Row (w:World) (b:Nat) (cs:List Value):Prop :=
 ∀ j (h:j < cs.length),w.cell? ⟨b,j,none⟩=some (cs[j]'h)∧w.frozen? ⟨b,j,none⟩=false
theorem Row.at {w:World} {b:Nat} {cs:List Value} (H:Row w b cs) (j:Nat) (v:Value) (h:cs[j]? = some v):w.cell? ⟨b,j,none⟩=some v:=by
 obtain ⟨hj,e⟩:=List.getElem?_eq_some_iff.1 h;rw[← e];exact (H j hj).1
theorem Row.free {w:World} {b:Nat} {cs:List Value} (H:Row w b cs) (j:Nat) (h:j < cs.length):w.frozen? ⟨b,j,none⟩=false:=(H j h).2
theorem Row.lt {w:World} {b:Nat} {cs:List Value} (H:Row w b cs) (h:0 < cs.length):b < w.heap.size:=World.block_lt_of_cell? w ⟨b,0,none⟩ (H 0 h).1
theorem Row.set {w:World} {b:Nat} {cs:List Value} (H:Row w b cs) (k:Nat) (v:Value) (hk:k < cs.length):Row (w.setCell ⟨b,k,none⟩ v) b (cs.set k v):=by
 intro j hj;have hj' : j < cs.length:=by simpa using hj
 rw[World.frozen?_setCell];refine ⟨?_,(H j hj').2⟩
 by_cases e:j=k
 ·subst e;rw[World.cell?_setCell_same _ _ _ (H j hj').1]
  simp
 rw[World.cell?_setCell_other _ _ _ _ (by intro h;injection h with _ h;exact e h.symm),(H j hj').1];rw[List.getElem_set_ne (fun h=>e h.symm)]
theorem Row.other {w:World} {b:Nat} {cs:List Value} (H:Row w b cs) {a:Addr} (ha:a.block≠b) (v:Value):Row (w.setCell a v) b cs:=by
 intro j hj;rw[World.frozen?_setCell,World.cell?_setCell_other _ _ _ _ (by intro h;subst h;exact ha rfl)];exact H j hj
theorem Row.step {w w' : World} {b:Nat} {cs:List Value} (H:Row w b cs) (h:w'.heap[b]? = w.heap[b]?):Row w' b cs:=by
 intro j hj;rw[World.cell?_of_block (w:=w) (a:=⟨b,j,none⟩) h,World.frozen?_of_block (w:=w) (a:=⟨b,j,none⟩) h];exact H j hj
theorem Row.grown {w w' : World} {b:Nat} {cs:List Value} (H:Row w b cs) {row:Option Nat} (hg:w.grownBy w' row) (hb:b < w.heap.size) (hr:some b≠row):Row w' b cs:=H.step (hg.block b hb hr)
theorem Row.below {w w' : World} {b:Nat} {cs:List Value} (H:Row w b cs) {B:Nat} (hb:Below B w w') (h:b < B):Row w' b cs:=H.step (hb.block b h)
theorem Row.alloc {w:World} {b:Nat} {cs:List Value} (H:Row w b cs) (hb:b < w.heap.size) (o:Obj):Row (w.alloc o) b cs:=H.step (Below.heap_alloc w o b hb)
theorem Row.new (w:World) (cs:List Value) (t:TypeId):Row (w.alloc (.cells cs.toArray t)) w.heap.size cs:=by
 have hh:(w.alloc (.cells cs.toArray t)).heap[w.heap.size]? = some (.cells cs.toArray t (0,0)):=heap_alloc_new w _;intro j hj;refine ⟨?_,?_⟩
 ·unfold World.cell?;simp only[hh]
  simp[hj]
 unfold World.frozen?;simp only[hh]
 simp
structure eE where
 s:ByteArray
 cLow:Int
 cHigh:Int
 sec:Int
 comp:ByteArray
 typ:Int
 known:List (Int×Int)
 unknown:List (Int×Int)
 lang:Int
 fmt:Int
 kind:Int
 lay:Int
 base:Int
 cust:Int
 plangs:List Int
 pfmt:Int
 pkind:Int
 play:Int
 nLow:Int
 nHigh:Int
 nEnd:Int
 dis:Bool
 trim:Bool
def pairs:List (Int×Int)→List Value
 | []=>[]
 | x::r=>.int .i64 x.1 :: .int .i64 x.2::pairs r
theorem rL:∀ l m:List (Int×Int),pairs (l++m)=pairs l++pairs m
 | [],m=>rfl
 | x::r,m=>by simp only[List.cons_append,pairs,rL r m]
theorem xR:∀ (l:List (Int×Int)) (i:Nat) (x:Int×Int),l[i]? = some x→(pairs l)[i * 2]? = some (.int .i64 x.1)∧(pairs l)[i * 2+1]? = some (.int .i64 x.2)
 | [],i,x,h=>by simp at h
 | y::r,0,x,h=>by simp at h;subst h;simp[pairs]
 | y::r,i+1,x,h=>by
  have:=xR r i x (by simpa using h);rw[show (i+1) * 2=i * 2+1+1 from by omega]
  simpa [pairs] using this
def cells (p:eE) (vk vu vl u:Value):List Value :=
 [.string p.s,.int .i64 p.cLow,.int .i64 p.cHigh,.int .i64 p.sec,.string p.comp,.int .i64 p.typ,vk,vu,
  .int .i64 p.lang,.int .i64 p.fmt,.int .i64 p.kind,.int .i64 p.lay,.int .i64 p.base,.int .i64 p.cust,vl,.slice none 0 0,.slice none 0 0,
  .int .i64 p.pfmt,.int .i64 p.pkind,.int .i64 p.play,.int .i64 p.nLow,.int .i64 p.nHigh,.int .i64 p.nEnd,.bool p.dis,.bool p.trim,u]
structure eF (w:World) (B b:Nat) (p:eE) (vk vu vl u:Value):Prop where
 base:B≤b
 row:Row w b (cells p vk vu vl u)
 ok:w.ownsRow B 78 2 vk p.known.length (pairs p.known)
 ou:w.ownsRow B 78 2 vu p.unknown.length (pairs p.unknown)
 ol:w.ownsRow B 3 1 vl p.plangs.length (nums .i64 p.plangs)
 nk:some b≠vk.ownBlock
 nu:some b≠vu.ownBlock
 nl:some b≠vl.ownBlock
 ku:vk.ownBlock=none∨vk.ownBlock≠vu.ownBlock
section
variable {w w' : World} {B b:Nat} {p:eE} {vk vu vl u:Value}
theorem eF.lt (H:eF w B b p vk vu vl u):b < w.heap.size:=H.row.lt bG
theorem eF.kept (H:eF w B b p vk vu vl u) (hb:∀ k,k < w.heap.size→B≤k→w'.heap[k]? = w.heap[k]?):eF w' B b p vk vu vl u:=by
 have own:∀ {e size v n xs},w.ownsRow B e size v n xs→w'.ownsRow B e size v n xs:=by
  intro e size v n xs h;refine ⟨h.1,?_⟩;rcases h.2 with hn | ⟨g,cap,cur,rfl,hB,hgg,rest⟩
  ·exact .inl hn
  exact .inr ⟨g,cap,cur,rfl,hB,(hb g (Array.getElem?_eq_some_iff.1 hgg).1 hB).trans hgg,rest⟩
 exact ⟨H.base,H.row.step (hb b H.lt H.base),own H.ok,own H.ou,own H.ol,H.nk,H.nu,H.nl,H.ku⟩
theorem eF.below (H:eF w B b p vk vu vl u) (hb:Below w.heap.size w w'):eF w' B b p vk vu vl u:=H.kept fun k hk _=>hb.block k hk
theorem eF.drewN (H:eF w B b p vk vu vl u) (n:Nat):eF (w.drewN n) B b p vk vu vl u:=H.kept fun _ _ _=>rfl
theorem eF.drew (H:eF w B b p vk vu vl u):eF w.drew B b p vk vu vl u:=H.kept fun _ _ _=>rfl
theorem eF.alloc (H:eF w B b p vk vu vl u) (o:Obj):eF (w.alloc o) B b p vk vu vl u:=H.kept fun k hk _=>Below.heap_alloc w o k hk
theorem eF.beside (H:eF w B b p vk vu vl u) {a:Addr} (ha:b≠a.block) (hk:some a.block≠vk.ownBlock) (hu:some a.block≠vu.ownBlock) (hl:some a.block≠vl.ownBlock) (v:Value):eF (w.setCell a v) B b p vk vu vl u :=
 ⟨H.base,H.row.other (fun e=>ha e.symm) v,ownsRow_setCell_other H.ok (fun e=>hk e.symm) v,ownsRow_setCell_other H.ou (fun e=>hu e.symm) v,ownsRow_setCell_other H.ol (fun e=>hl e.symm) v,H.nk,H.nu,H.nl,H.ku⟩
theorem eF.put (H:eF w B b p vk vu vl u) (k:Nat) (v:Value) (p' : eE) (u' : Value) (hc:(cells p vk vu vl u).set k v=cells p' vk vu vl u') (h1:p'.known=p.known) (h2:p'.unknown=p.unknown) (h3:p'.plangs=p.plangs) (hk:k < 26) :
 eF (w.setCell ⟨b,k,none⟩ v) B b p' vk vu vl u':=by
 have hr:=H.row.set k v (by simpa [cells] using hk);rw[hc] at hr;refine ⟨H.base,hr,?_,?_,?_,H.nk,H.nu,H.nl,H.ku⟩
 ·rw[h1];exact ownsRow_setCell_other H.ok (fun e=>H.nk e.symm) v
 ·rw[h2];exact ownsRow_setCell_other H.ou (fun e=>H.nu e.symm) v
 rw[h3];exact ownsRow_setCell_other H.ol (fun e=>H.nl e.symm) v
theorem pU {W W1:World} {e size n:Nat} {v v' : Value} {xs:List Value} {row:Option Nat} (h:W.ownsRow B e size v n xs) (hg:W.grownBy W1 row) (hne:v.ownBlock=none∨v.ownBlock≠row)
 (hat:v'.ownBlock=row∨∃ k,v'.ownBlock=some k∧W.heap.size≤k):W1.ownsRow B e size v n xs∧(v.ownBlock=none∨v.ownBlock≠v'.ownBlock):=by
 refine ⟨h.kept hg hne,?_⟩;rcases hat with hat | ⟨k,hk,hlt⟩
 ·rw[hat];exact hne
 cases hv:v.ownBlock with
 | none=>exact .inl rfl
 | some j =>
  refine .inr ?_;rw[hk];intro e;injection e with e
  have:=(h.lt j hv).2;omega
theorem eF.addKnown (H:eF w B b p vk vu vl u) (x:Int×Int) {v1:Value} (ho:w'.ownsRow B 78 2 v1 (p.known.length+1) (pairs p.known++[.int .i64 x.1,.int .i64 x.2])) (hg:w.grownBy w' vk.ownBlock)
 (hat:v1.ownBlock=vk.ownBlock∨∃ k,v1.ownBlock=some k∧w.heap.size≤k):eF (w'.setCell ⟨b,6,none⟩ v1) B b { p with known:=p.known++[x] } v1 vu vl u:=by
 have hlt:=H.lt
 have hb1:some b≠v1.ownBlock:=by
  rcases hat with h | ⟨k,h,hk⟩
  ·rw[h];exact H.nk
  rw[h];intro e;injection e with e;omega
 have hku:vu.ownBlock=none∨vu.ownBlock≠vk.ownBlock:=by
  rcases H.ku with h | h
  ·cases hu:vu.ownBlock with
   | none=>exact .inl rfl
   | some j=>exact .inr (by rw[h];intro e;cases e)
  exact .inr fun e=>h e.symm
 have hlk:vl.ownBlock=none∨vl.ownBlock≠vk.ownBlock:=own_type_ne H.ol H.ok bF;obtain ⟨hu1,hu2⟩:=pU H.ou hg hku hat;obtain ⟨hl1,hl2⟩:=pU H.ol hg hlk hat;refine ⟨H.base,(H.row.grown hg hlt H.nk).set 6 v1 bG,?_,ownsRow_setCell_other hu1 (fun e=>H.nu e.symm) _,ownsRow_setCell_other hl1 (fun e=>H.nl e.symm) _,hb1,H.nu,H.nl,?_⟩
 ·have:=ownsRow_setCell_other ho (a:=⟨b,6,none⟩) (fun e=>hb1 e.symm) v1
  simpa [rL,pairs] using this
 rcases hu2 with h | h
 ·cases hv:v1.ownBlock with
  | none=>exact .inl rfl
  | some j=>exact .inr (by rw[h];intro e;cases e)
 exact .inr fun e=>h e.symm
theorem eF.addUnknown (H:eF w B b p vk vu vl u) (x:Int×Int) {v1:Value} (ho:w'.ownsRow B 78 2 v1 (p.unknown.length+1) (pairs p.unknown++[.int .i64 x.1,.int .i64 x.2])) (hg:w.grownBy w' vu.ownBlock)
 (hat:v1.ownBlock=vu.ownBlock∨∃ k,v1.ownBlock=some k∧w.heap.size≤k):eF (w'.setCell ⟨b,7,none⟩ v1) B b { p with unknown:=p.unknown++[x] } vk v1 vl u:=by
 have hlt:=H.lt
 have hb1:some b≠v1.ownBlock:=by
  rcases hat with h | ⟨k,h,hk⟩
  ·rw[h];exact H.nu
  rw[h];intro e;injection e with e;omega
 have hlk:vl.ownBlock=none∨vl.ownBlock≠vu.ownBlock:=own_type_ne H.ol H.ou bF;obtain ⟨hk1,hk2⟩:=pU H.ok hg H.ku hat;obtain ⟨hl1,hl2⟩:=pU H.ol hg hlk hat;refine ⟨H.base,(H.row.grown hg hlt H.nu).set 7 v1 bG,ownsRow_setCell_other hk1 (fun e=>H.nk e.symm) _,?_,ownsRow_setCell_other hl1 (fun e=>H.nl e.symm) _,H.nk,hb1,H.nl,hk2⟩;have:=ownsRow_setCell_other ho (a:=⟨b,7,none⟩) (fun e=>hb1 e.symm) v1
 simpa [rL,pairs] using this
theorem eF.addLang (H:eF w B b p vk vu vl u) (x:Int) {v1:Value} (ho:w'.ownsRow B 3 1 v1 (p.plangs.length+1) (nums .i64 p.plangs++[.int .i64 x])) (hg:w.grownBy w' vl.ownBlock)
 (hat:v1.ownBlock=vl.ownBlock∨∃ k,v1.ownBlock=some k∧w.heap.size≤k):eF (w'.setCell ⟨b,14,none⟩ v1) B b { p with plangs:=p.plangs++[x] } vk vu v1 u:=by
 have hlt:=H.lt
 have hb1:some b≠v1.ownBlock:=by
  rcases hat with h | ⟨k,h,hk⟩
  ·rw[h];exact H.nl
  rw[h];intro e;injection e with e;omega
 obtain ⟨hk1,_⟩:=pU H.ok hg (own_type_ne H.ok H.ol bF) hat;obtain ⟨hu1,_⟩:=pU H.ou hg (own_type_ne H.ou H.ol bF) hat;refine ⟨H.base,(H.row.grown hg hlt H.nl).set 14 v1 bG,ownsRow_setCell_other hk1 (fun e=>H.nk e.symm) _,ownsRow_setCell_other hu1 (fun e=>H.nu e.symm) _,?_,H.nk,H.nu,hb1,H.ku⟩;have:=ownsRow_setCell_other ho (a:=⟨b,14,none⟩) (fun e=>hb1 e.symm) v1
 simpa [nums] using this
end
end Go.Proofs.YtlkoeeccebmjmaaGreatDoor.Path
