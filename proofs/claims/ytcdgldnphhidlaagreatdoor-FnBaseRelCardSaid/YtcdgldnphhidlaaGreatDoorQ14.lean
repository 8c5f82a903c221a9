/- Texts that the law leans on: Norm, Ids, Acc5, Told, ToldWalk, Asc, Total, Total2, Total3, PathKS, Kd, Keep, Keep2. Condition: as told at each. -/
import Derived.Deep.MidRow
import Derived.Lib.LazyBuf
import Derived.Test.YtcdgldnphhidlaaGreatDoorQa
import Derived.Test.YtcdgldnphhidlaaGreatDoorQ13
set_option linter.unusedVariables false
set_option linter.unusedSimpArgs false
set_option maxRecDepth 100000
set_option maxHeartbeats 16000000
namespace Go.Proofs.YtcdgldnphhidlaaGreatDoor.Norm
open Go.RowKit Go.ZW.PrintWords Go.Proofs.YtcdgldnphhidlaaGreatDoor.Base Go.Proofs.YtcdgldnphhidlaaGreatDoor.Lower Go.Proofs.YtcdgldnphhidlaaGreatDoor.Index
theorem pB (a b:ByteArray):bytesOf (a++b)=bytesOf a++bytesOf b:=by simp[bytesOf]
theorem aFu (a:ByteArray):strOfNums (bytesOf a)=a:=by
 apply L_inj;have e:L (strOfNums (bytesOf a))=(bytesOf a).map fun n=>UInt8.ofNat n.toNat:=strOfNums_data _;rw[e,bytesOf,List.map_map]
 conv=>rhs;rw[← List.map_id (L a)]
 refine List.map_congr_left fun b _=>?_
 simp
theorem aDj (l:List UInt8) (h:∀ x∈l,x≠32):l.map lJ=l:=by
 conv=>rhs;rw[← List.map_id l]
 refine List.map_congr_left fun b hb=>?_;unfold lJ;rw[if_neg (h b hb)];rfl
theorem info5:(Tryz.prog.info? 5).map (fun i=>(i.zero,i.size,i.bytes))=some (some (.int .u8 0),1,1):=by kernel_rfl
def strLen:Value→Nat
 | .string r=>r.size
 | _=>0
theorem aCi (s:ByteArray) (w:World) (hs:s.size≤140737488351232) :
 Calls Tryz.prog 120 #[.string s,.string ⟨#[32]⟩,.string ⟨#[45]⟩] w fun e w'=>e = .returned (.string (hyp s))∧Below w.heap.size w w':=by
 have hinf:=info5;have HINF:=cB hinf;clear hinf;go_enter Tryz.func120,Tryz.ntmps120;go_wp2_with fail
 go_loopw [0,7] (fun sv ov wr=>∃ (rest done:ByteArray),sv = .string rest∧Aside0 (wr.ownsRow w.heap.size 5 1 ov (bytesOf done).length (nums .u8 (bytesOf done)))∧Aside0 (L done++(L rest).map lJ=(L s).map lJ)∧done.size+rest.size≤140737488351232∧Aside0 (Below w.heap.size w wr))
  (fun sv _ _=>strLen sv)
 case atStart=>exact ⟨s,ByteArray.empty,rfl,⟨sL _ _ _ _⟩,⟨by simp[L]⟩,by simp;exact hs,⟨Below.refl _ _⟩⟩
 case round =>
  obtain ⟨rest,done,rfl,HO,HT,hsz,HB⟩:=hrel;have hl:=eG rest;have hld:(bytesOf done).length=done.size:=bytesOf_length done;have hb:=HB.out.size;rcases idx_one 32 (L rest) with ⟨h1,h2⟩ | ⟨n,h1,h2,h3,h4⟩
  ·have e:hyp s=done++rest:=by
    apply L_inj;rw[aF5,← HT.out,nQ,aDj _ h2]
   have HE:=cB e;have hz:=fun w=>aAt rest ⟨#[32]⟩ (-1) w bA bF bF (by show aA9 (idx [32] (L rest)) = -1;rw[h1];rfl);have HLD:=cB hld;clear e h1 h2 hld hl;go_wp2_with fail
   (with_reducible refine (hz _).mono ?_)
   rintro e w' ⟨rfl,⟨nd,rfl⟩⟩
   go_wp2_with (at_builtin;refine pW (w0:=w) w.heap.size rfl _ _ 64 9 5 rfl Tryz.underlying64 Tryz.underlying9 HINF.out _ (bytesOf done) rest rfl rfl (xF HO.out _) ?hb ?hs ?hz ?_)
   case hb=>exact qE HB.out hb (fA.below ⟨⟨_,rfl⟩⟩)
   case hs=>simpa using hb
   case hz=>rw[HLD.out];omega
   intro v1 w1 ho1 hb1 hg1;have hstr:=aG0 (P:=Tryz.prog) (src:=64) (dst:=9) Tryz.underlying64 Tryz.underlying5 Tryz.underlying9 ho1;have HO1:=cB ho1;have HB1:=cB hb1;clear ho1 hb1 hg1;obtain ⟨A1,c1,rfl⟩:=fL HO1.out;go_wp2_with fail
   go_ret;exact ⟨by rw[HE.out,← aFu (done++rest),pB];rfl,HB1.out⟩
  have hn:n < rest.size:=by omega
  have hz:=fun w=>aAt rest ⟨#[32]⟩ n w bA bF bF (by show aA9 (idx [32] (L rest))=n;rw[h1];rfl);have es1:(rest.extract 0 n).size=n:=by rw[← eG,eQ];simp;omega
  have es2:(rest.extract (n+1) rest.size).size=rest.size - (n+1):=by rw[← eG,eQ];simp;omega
  have eL:L ((done++rest.extract 0 n)++(⟨#[45]⟩:ByteArray))++(L (rest.extract (n+1) rest.size)).map lJ=(L s).map lJ:=by
   rw[← HT.out,nQ,nQ,eQ,eQ];simp only[List.drop_zero,Nat.sub_zero];rw[List.take_of_length_le (l:=(L rest).drop (n+1)) (by simp;omega)]
   conv=>rhs;rw[h3]
   rw[List.map_append,aDj _ h4,List.map_cons];simp only[List.append_assoc];rfl
  have HE:=cB eL;have HS1:=cB es1;have HS2:=cB es2;have HLD:=cB hld;clear h1 h2 h3 h4 hld hl eL es1 es2;go_wp2_with fail
  (with_reducible refine (hz _).mono ?_)
  rintro e w' ⟨rfl,⟨nd,rfl⟩⟩
  go_wp2_with (at_builtin;refine pW (w0:=w) w.heap.size rfl _ _ 64 9 5 rfl Tryz.underlying64 Tryz.underlying9 HINF.out _ (bytesOf done) (rest.extract 0 n) rfl rfl (xF HO.out _) ?hb ?hs ?hz ?_)
  case hb=>exact qE HB.out hb (fA.below ⟨⟨_,rfl⟩⟩)
  case hs=>simpa using hb
  case hz=>rw[HLD.out,HS1.out];omega
  intro v1 w1 ho1 hb1 hg1;have hsz1:w.heap.size≤w1.heap.size:=hb1.size
  obtain ⟨xs1,hx1⟩:∃ xs1,bytesOf done++bytesOf (rest.extract 0 n)=xs1:=⟨_,rfl⟩
  try rw[← List.length_append] at ho1
  rw[hx1] at ho1;have HX1:=cB hx1;clear hx1;have HO1:=cB ho1;have HB1:=cB hb1;clear ho1 hb1 hg1
  go_wp2_with (at_builtin;refine pW (w0:=w) w.heap.size rfl _ _ 64 9 5 rfl Tryz.underlying64 Tryz.underlying9 HINF.out _ xs1 ⟨#[45]⟩ rfl rfl HO1.out HB1.out ?hs2 ?hz2 ?_)
  case hs2=>exact hsz1
  case hz2=>rw[← HX1.out,← pB,bytesOf_length,size_append,HS1.out];show _+1≤_;omega
  intro v2 w2 ho2 hb2 hg2;have HO2:=cB ho2;have HB2:=cB hb2;clear ho2 hb2 hg2;obtain ⟨A2,c2,rfl⟩:=fL HO2.out;go_wp2_with fail
  go_roundw
  case rel =>
   refine ⟨rest.extract (n+1) rest.size,(done++rest.extract 0 n)++(⟨#[45]⟩:ByteArray),rfl,⟨?_⟩,HE,?_,HB2⟩
   ·rw[pB,pB,HX1.out];simpa using HO2.out
   rw[size_append,size_append,HS1.out,HS2.out];show _+1+_≤_;omega
  case measure=>simp[strLen];omega
theorem vH (s:ByteArray) (w:World) (hs:s.size≤140737488351232) (ha:∀ c∈L s,c.toNat≤127) :
 Calls Tryz.prog 68 #[.string s] w fun e w'=>e = .returned (.string (norm s))∧Below w.heap.size w w':=by
 have e:(⟨(Lib.toLowerA s.data.toList).toArray⟩:ByteArray)=low s:=by
  unfold low Lib.toLowerA;congr 2;refine List.map_congr_left fun c _=>?_;unfold Lib.lowerB Lib.isUpperB gZ
  simp[UInt8.le_iff_toNat_le]
 have h1:=fun w=>Tryz.strings_ToLower_ascii s w bA (fun j b hb=>by have:=ha b (List.mem_of_getElem? hb);omega);rw[e] at h1;have hn:norm s=hyp (low s):=rfl;have HN:=cB hn;have hsz:(low s).size≤140737488351232:=by rw[oU];exact hs
 clear hn e;go_enter Tryz.func68,Tryz.ntmps68;go_wp2_with fail
 (with_reducible refine (h1 _).mono ?_)
 rintro e w1 ⟨rfl,HB1⟩;have HB1:=cB HB1;go_wp2_with fail
 (with_reducible refine (aCi (low s) _ hsz).mono ?_)
 rintro e w2 ⟨rfl,HB2⟩;have HB2:=cB HB2;go_wp2_with fail
 go_ret;exact ⟨by rw[HN.out];rfl,qE HB1.out HB1.out.size HB2.out⟩
end Go.Proofs.YtcdgldnphhidlaaGreatDoor.Norm
namespace Go.Proofs.YtcdgldnphhidlaaGreatDoor.Path
open Go.RowKit Go.ZW.PrintWords Go.Proofs.YtcdgldnphhidlaaGreatDoor.Base
section
variable {w:World} {B b:Nat} {p:eH} {vk vu vl u:Value}
theorem info9:(Tryz.prog.info? 9).map (fun i=>(i.zero,i.size,i.bytes))=some (some (.string ⟨#[]⟩),1,16):=by kernel_rfl
def kB (p:eH):List ByteArray:=p.known.map fun x=>sub p.s x.1 x.2
def lK (p:eH):List ByteArray:=p.unknown.map fun x=>sub p.s x.1 x.2
end
section
variable {w:World} {B b:Nat} {p:eH} {vk vu vl u:Value}
def jW (p:eH):List ByteArray:=p.plangs.map fun i=>fD p i
def pF (p:eH):ByteArray:=match p.known with | []=>frm p.s p.cHigh | x::_=>sub p.s p.cHigh (x.1 - 1)
def sI (p:eH):ByteArray:=match p.known with | []=>nrm p.trim p.s | x::_=>nrm p.trim (sub p.s 0 (x.1 - 1))
end
open Go.RowKit Go.Proofs.YtcdgldnphhidlaaGreatDoor.Base
structure gK where
 component:ByteArray
 container:ByteArray
 containerDir:ByteArray
 section_:ByteArray
 name:ByteArray
 nameNoExt:ByteArray
 baseName:ByteArray
 nameNoId:ByteArray
 dir:ByteArray
 path:ByteArray
 pathNoLang:ByteArray
 pathNoId:ByteArray
 pathBefore:ByteArray
 base:ByteArray
 idBase:ByteArray
 ext:ByteArray
 fmt:ByteArray
 kind:ByteArray
 layout:ByteArray
 lang:ByteArray
 custom:ByteArray
 langs:List ByteArray
 ids:List ByteArray
 unk:List ByteArray
 disabled:Bool
 isContent:Bool
 isBundle:Bool
 isBranch:Bool
 isLeaf:Bool
 isData:Bool
 typ:Int
def pY (t:gK) (v1 v2 v3:Value):List Value :=
 [.string t.component,.string t.container,.string t.containerDir,.string t.section_,.string t.name,.string t.nameNoExt,.string t.baseName,.string t.nameNoId,.string t.dir,.string t.path,.string t.pathNoLang,.string t.pathNoId,.string t.pathBefore,.string t.base,.string t.idBase,.string t.ext,.string t.fmt,.string t.kind,.string t.layout,.string t.lang,.string t.custom,v1,v2,v3,.bool t.disabled,.bool t.isContent,.bool t.isBundle,.bool t.isBranch,.bool t.isLeaf,.bool t.isData,.int .i64 t.typ]
def iH (t:gK) (v1 v2 v3:Value):Value:=.agg #[.string t.component,.string t.container,.string t.containerDir,.string t.section_,.string t.name,.string t.nameNoExt,.string t.baseName,.string t.nameNoId,.string t.dir,.string t.path,.string t.pathNoLang,.string t.pathNoId,.string t.pathBefore,.string t.base,.string t.idBase,.string t.ext,.string t.fmt,.string t.kind,.string t.layout,.string t.lang,.string t.custom,v1,v2,v3,.bool t.disabled,.bool t.isContent,.bool t.isBundle,.bool t.isBranch,.bool t.isLeaf,.bool t.isData,.int .i64 t.typ]
def eZ:List Value:=[.string ⟨#[]⟩,.string ⟨#[]⟩,.string ⟨#[]⟩,.string ⟨#[]⟩,.string ⟨#[]⟩,.string ⟨#[]⟩,.string ⟨#[]⟩,.string ⟨#[]⟩,.string ⟨#[]⟩,.string ⟨#[]⟩,.string ⟨#[]⟩,.string ⟨#[]⟩,.string ⟨#[]⟩,.string ⟨#[]⟩,.string ⟨#[]⟩,.string ⟨#[]⟩,.string ⟨#[]⟩,.string ⟨#[]⟩,.string ⟨#[]⟩,.string ⟨#[]⟩,.string ⟨#[]⟩,.slice none 0 0,.slice none 0 0,.slice none 0 0,.bool false,.bool false,.bool false,.bool false,.bool false,.bool false,.int .i64 0]
section
variable {w:World} {B b:Nat} {p:eH} {vk vu vl u:Value}
def rI (p:eH):ByteArray:=if 3≤p.typ∧p.typ≤5 then nK p else nY p
def aDw (p:eH):ByteArray:=if p.pfmt = -1 then fD p p.fmt else fD p p.pfmt
def aAi (p:eH):ByteArray:=if p.pkind = -1 then fD p p.kind else fD p p.pkind
def uH (p:eH):ByteArray:=if p.play = -1 then fD p p.lay else fD p p.play
def vD (p:eH):Bool:=decide (1≤p.typ∧p.typ≤5)
def wY (p:eH):Bool:=decide (3≤p.typ∧p.typ≤5)
def wX (p:eH):Bool:=p.typ==4
def aBc (p:eH):Bool:=p.typ==3
def aBb (p:eH):Bool:=p.typ==5
def gL (p:eH):gK where
 component:=p.comp
 container:=nK p
 containerDir:=nC p
 section_:=qS p
 name:=xY p
 nameNoExt:=pF p
 baseName:=rI p
 nameNoId:=nY p
 dir:=zH p
 path:=nrm p.trim p.s
 pathNoLang:=qA p
 pathNoId:=jV p false false
 pathBefore:=sI p
 base:=vB p
 idBase:=sJ p
 ext:=fD p 0
 fmt:=aDw p
 kind:=aAi p
 layout:=uH p
 lang:=nL p
 custom:=qQ p
 langs:=jW p
 ids:=kB p
 unk:=lK p
 disabled:=p.dis
 isContent:=vD p
 isBundle:=wY p
 isBranch:=wX p
 isLeaf:=aBc p
 isData:=aBb p
 typ:=p.typ
theorem oX {P:Program} {fn:Func} {tmps:Array Value} {a:Nat} {t:TypeId} {v:Value} {w:World} {x:Addr} (hf:fn.results = #[.cell a t]) (ha:tmps.getD a undef = .pointer (some x)) (hl:(loadVar t x).run P w = .ok v w) :
 (results fn tmps).run P w = .ok v w:=by
 unfold results;rw[hf];have ha' : tmps[a]?.getD undef = .pointer (some x):=by simpa using ha
 simp[ha',hl,asAddr]
theorem Row.there {w:World} {b:Nat} {cs:List Value} (H:Row w b cs):w.there b 0 cs.length:=fun j hj=>by
 rw[Nat.zero_add];exact ⟨by rw[(H j hj).1];rfl,(H j hj).2⟩
theorem yX {P:Program} {o:Oper} {a:Act} {w:World} {K:Act→World→Prop} {Q:Exit→Act→World→Prop} (t:TypeId) (parts:Array (Nat×Operand)) (cells:Array Value) (ho:o.op = .build t parts)
 (hc:P.built t (parts.map fun (i,x)=>(i,a.eval x)).toList=some cells) (h:K (a.put o.dst (.agg cells)) w):o.wp P a w K Q :=
 wp_build t parts ho (by rw[hc];rfl) (by rw[hc];exact h)
end
def nV (t:gK) (v1 v2 v3:Value):Array Value:=(pY t v1 v2 v3).toArray
theorem nZ (t:gK) (A1 A2 A3:Option Addr) (n1 n2 n3 c1 c2 c3:Nat):(nV t (.slice A1 n1 c1) (.slice A2 n2 c2) (.slice A3 n3 c3)).all (·.oneCell')=true:=by kernel_rfl
def TZ:Array Value:=#[.string ⟨#[]⟩,.string ⟨#[]⟩,.string ⟨#[]⟩,.string ⟨#[]⟩,.string ⟨#[]⟩,.string ⟨#[]⟩,.string ⟨#[]⟩,.string ⟨#[]⟩,.string ⟨#[]⟩,.string ⟨#[]⟩,.string ⟨#[]⟩,.string ⟨#[]⟩,.string ⟨#[]⟩,.string ⟨#[]⟩,.string ⟨#[]⟩,.string ⟨#[]⟩,.string ⟨#[]⟩,.string ⟨#[]⟩,.string ⟨#[]⟩,.string ⟨#[]⟩,.string ⟨#[]⟩,.slice none 0 0,.slice none 0 0,.slice none 0 0,.bool false,.bool false,.bool false,.bool false,.bool false,.bool false,.int .i64 0]
end Go.Proofs.YtcdgldnphhidlaaGreatDoor.Path
namespace Go.Proofs.YtcdgldnphhidlaaGreatDoor.Ext
open Go.RowKit Go.ZW.PrintWords Go.Proofs.YtcdgldnphhidlaaGreatDoor.Base Go.Proofs.YtcdgldnphhidlaaGreatDoor.PCore
def ascii (l:List UInt8):Bool:=l.all fun c=>decide (c.toNat≤127)
theorem zX (c:UInt8) (r:List UInt8):ascii (c::r)=(decide (c.toNat≤127) && ascii r):=rfl
theorem aEw (s:ByteArray) (hs:s.size≤140737488355328) (d:Nat):∀ i:Nat,s.size - i=d→i≤s.size→Ev (fun k=>fT.l0 k s i) (ascii ((L s).drop i)):=by
 have hl:=eG s
 induction d with
 | zero =>
  intro i h1 h2;have e:(L s).drop i=[]:=List.drop_of_length_le bA;rw[e];refine Ev.step (f:=fun _=>some true) (fun k=>?_) (Ev.now _);simp only[fT.l0];rw[if_neg bA]
 | succ d ih =>
  intro i h1 h2;have hi:i < (L s).length:=by omega
  have hb:=sP s i hi;have e:(L s).drop i=(L s)[i]::(L s).drop (i+1):=List.drop_eq_getElem_cons hi;rw[e]
  by_cases h:(L s)[i].toNat≤127
  ·have e2:ascii ((L s)[i]::(L s).drop (i+1))=ascii ((L s).drop (i+1)):=by rw[zX,decide_eq_true h,Bool.true_and]
   rw[e2];refine Ev.step (f:=fun k=>fT.l0 k s ((i+1:Nat):Int)) (fun k=>?_) (ih (i+1) bA bA);simp only[fT.l0];rw[if_pos bA,if_pos bA,hb,if_neg bA,w64 bA bA];rfl
  have e2:ascii ((L s)[i]::(L s).drop (i+1))=false:=by rw[zX,decide_eq_false h,Bool.false_and]
  rw[e2];refine Ev.step (f:=fun _=>some false) (fun k=>?_) (Ev.now _);simp only[fT.l0];rw[if_pos bA,if_pos bA,hb,if_pos bA]
theorem aC9 (s:ByteArray) (hs:s.size≤140737488355328):Ev (fun k=>fT.f k s) (ascii (L s)):=by
 have h:=aEw s hs s.size 0 bA bA;exact h
end Go.Proofs.YtcdgldnphhidlaaGreatDoor.Ext
namespace Go.Proofs.YtcdgldnphhidlaaGreatDoor.Total
open Go.RowKit Go.ZW.PrintWords Go.Proofs.YtcdgldnphhidlaaGreatDoor.Base Go.Proofs.YtcdgldnphhidlaaGreatDoor.PCore Go.Proofs.YtcdgldnphhidlaaGreatDoor.Ext
def pJ {α:Type} (g:Nat→Option α):Prop:=∃ r,Ev g r
theorem pJ.now {α:Type} (r:α):pJ (fun _=>some r):=⟨r,Ev.now r⟩
theorem pJ.succ {α:Type} {g:Nat→Option α} (h:pJ (fun k=>g (k+1))):pJ g:=by
 obtain ⟨r,h⟩:=h;exact ⟨r,Ev.step (fun _=>rfl) h⟩
theorem pJ.ite {α:Type} {c:Prop} [Decidable c] {a b:Nat→Option α} (h1:c→pJ a) (h2:¬ c→pJ b):pJ (fun k=>if c then a k else b k):=by
 by_cases h:c
 ·simpa only [if_pos h] using h1 h
 simpa only [if_neg h] using h2 h
theorem pJ.bind {α β:Type} {g:Nat→Option α} {f:Nat→α→Option β} (h:pJ g) (k:∀ a,Ev g a→pJ (fun n=>f n a)):pJ (fun n=>(g n).bind (f n)):=by
 obtain ⟨a,ha⟩:=h;obtain ⟨r,hr⟩:=k a ha;exact ⟨r,Ev.bind ha hr⟩
theorem pJ.bindC {α β:Type} {x:Option α} {f:Nat→α→Option β} {a:α} (h:x=some a) (k:pJ (fun n=>f n a)):pJ (fun n=>x.bind (f n)):=by
 subst h;exact k
theorem Ev.fun_ {α:Type} {g:Nat→Option α} {a b:α} (h:Ev g a) (h' : Ev g b):a=b:=by
 obtain ⟨K,h⟩:=h;obtain ⟨K',h'⟩:=h';have e1:=h (K+K') bA;have e2:=h' (K+K') bA;rw[e1] at e2;exact Option.some.inj e2
theorem oW {α:Type} (d:α) (l:List α) (i:Nat) (h:i < l.length):iB d l (i:Int)=l[i]:=by
 unfold iB
 simp[h]
theorem oV (l:List S46) (i:Nat) (h:i < l.length):gV l (i:Int)=l[i]:=by
 unfold gV
 simp[h]
def MM:Nat:=2147483647
def fits2 (l:List ByteArray):Bool:=decide (l.length≤MM) && l.all fun s=>decide (s.size≤MM)
def fits3 (l:List S46):Bool:=decide (l.length≤MM) && l.all fun s=>decide (s.f0.size≤MM) && decide (s.f1.size≤MM)
theorem aEx (l:List ByteArray) (hl:l.length≤MM):∀ (n j:Nat),l.length - j=n→j≤l.length→Ev (fun k=>fF.l0 k l (l.length:Int) (j:Int)) ((l.drop j).all fun s=>decide (s.size≤MM)):=by
 unfold MM at *;intro n
 induction n with
 | zero =>
  intro j h1 h2;rw[List.drop_of_length_le bA];refine Ev.step (f:=fun _=>some true) (fun k=>?_) (Ev.now _);simp only[fF.l0];rw[if_neg bA]
 | succ n ih =>
  intro j h1 h2;have hj:j < l.length:=by omega
  rw[List.drop_eq_getElem_cons hj,List.all_cons]
  by_cases c:l[j].size≤2147483647
  ·rw[decide_eq_true c,Bool.true_and];refine Ev.step (fun k=>?_) (ih (j+1) bA bA);simp only[fF.l0];rw[if_pos bA,if_pos bA,if_pos bA,oW _ _ _ hj,if_neg bA,w64 bA bA];rfl
  rw[decide_eq_false c,Bool.false_and];refine Ev.step (f:=fun _=>some false) (fun k=>?_) (Ev.now _);simp only[fF.l0];rw[if_pos bA,if_pos bA,if_pos bA,oW _ _ _ hj,if_pos bA]
theorem zA (l:List ByteArray):Ev (fun k=>fF.f k l) (fits2 l):=by
 unfold fF.f fits2
 by_cases c:l.length≤MM
 ·have:=aEx l c l.length 0 bA bA;rw[decide_eq_true c,Bool.true_and];refine Ev.congr (fun k=>?_) this;unfold MM at c;rw[if_neg bA];rfl
 rw[decide_eq_false c,Bool.false_and];refine Ev.congr (fun k=>?_) (Ev.now _);unfold MM at c;rw[if_pos bA]
theorem aEy (l:List S46) (hl:l.length≤MM):∀ (n j:Nat),l.length - j=n→j≤l.length→Ev (fun k=>fU.l0 k l (l.length:Int) (j:Int)) ((l.drop j).all fun s=>decide (s.f0.size≤MM) && decide (s.f1.size≤MM)):=by
 unfold MM at *;intro n
 induction n with
 | zero =>
  intro j h1 h2;rw[List.drop_of_length_le bA];refine Ev.step (f:=fun _=>some true) (fun k=>?_) (Ev.now _);simp only[fU.l0];rw[if_neg bA]
 | succ n ih =>
  intro j h1 h2;have hj:j < l.length:=by omega
  rw[List.drop_eq_getElem_cons hj,List.all_cons]
  have e4:mI.f l[j].f0 l[j].f1=some (decide (l[j].f0.size≤2147483647) && decide (l[j].f1.size≤2147483647)):=by
   unfold mI.f
   by_cases c1:l[j].f0.size≤2147483647
   ·by_cases c2:l[j].f1.size≤2147483647
    ·rw[if_neg bA,if_neg bA,decide_eq_true c1,decide_eq_true c2];rfl
    rw[if_neg bA,if_pos bA,decide_eq_true c1,decide_eq_false c2];rfl
   rw[if_pos bA,decide_eq_false c1];rfl
  cases c:(decide (l[j].f0.size≤2147483647) && decide (l[j].f1.size≤2147483647)) with
  | true =>
   rw[Bool.true_and];refine Ev.step (fun k=>?_) (ih (j+1) bA bA);simp only[fU.l0];rw[if_pos bA,if_pos bA,if_pos bA,oV _ _ hj,e4,c,w64 bA bA];rfl
  | false =>
   rw[Bool.false_and];refine Ev.step (f:=fun _=>some false) (fun k=>?_) (Ev.now _);simp only[fU.l0];rw[if_pos bA,if_pos bA,if_pos bA,oV _ _ hj,e4,c];rfl
theorem aIu (l:List S46):Ev (fun k=>fU.f k l) (fits3 l):=by
 unfold fU.f fits3
 by_cases c:l.length≤MM
 ·have:=aEy l c l.length 0 bA bA;rw[decide_eq_true c,Bool.true_and];refine Ev.congr (fun k=>?_) this;unfold MM at c;rw[if_neg bA];rfl
 rw[decide_eq_false c,Bool.false_and];refine Ev.congr (fun k=>?_) (Ev.now _);unfold MM at c;rw[if_pos bA]
def fits1 (a b:List ByteArray) (c:List S46) (d:List ByteArray):Bool:=fits2 a && (fits2 b && (fits3 c && fits2 d))
theorem ev_fits1 (a b:List ByteArray) (c:List S46) (d:List ByteArray):Ev (fun k=>lH.f k a b c d) (fits1 a b c d):=by
 unfold lH.f fits1;refine Ev.bind (zA a) ?_;cases fits2 a
 ·exact Ev.now _
 simp only[if_true,Bool.true_and];refine Ev.bind (zA b) ?_;cases fits2 b
 ·exact Ev.now _
 simp only[if_true,Bool.true_and];refine Ev.bind (aIu c) ?_;cases fits3 c
 ·exact Ev.now _
 simp only[if_true,Bool.true_and];refine Ev.bind (zA d) ?_;cases fits2 d
 ·exact Ev.now _
 exact Ev.now _
def wt (l:List ByteArray):Nat:=(l.map ByteArray.size).sum
def wt3 (l:List S46):Nat:=(l.map fun s=>1+s.f0.size+s.f1.size).sum
theorem aHu (l:List ByteArray) (hl:fits2 l=true):∀ (n j a:Nat),l.length - j=n→j≤l.length→a≤MM+j * MM→Ev (fun k=>gO.l0 k (a:Int) l (l.length:Int) (j:Int)) (decide (a+wt (l.drop j)≤2000)):=by
 unfold fits2 at hl;simp only[Bool.and_eq_true,decide_eq_true_eq,List.all_eq_true] at hl;obtain ⟨hl1,hl2⟩:=hl;unfold MM at *;intro n
 induction n with
 | zero =>
  intro j a h1 h2 h3;rw[List.drop_of_length_le bA];refine Ev.step (f:=fun _=>some (decide ((a:Int)≤2000))) (fun k=>?_) ?_
  ·simp only[gO.l0];rw[if_neg bA]
  have:decide ((a:Int)≤2000)=decide (a+wt []≤2000):=by unfold wt;simp;omega
  rw[this];exact Ev.now _
 | succ n ih =>
  intro j a h1 h2 h3;have hj:j < l.length:=by omega
  have hz:=hl2 l[j] (List.getElem_mem hj);rw[List.drop_eq_getElem_cons hj];have e:a+wt (l[j]::l.drop (j+1))=(a+l[j].size)+wt (l.drop (j+1)):=by simp only[wt,List.map_cons,List.sum_cons];omega
  rw[e];have hm:(j+1) * 2147483647=j * 2147483647+2147483647:=by omega
  have hjj:j * 2147483647≤2147483647 * 2147483647:=by omega
  refine Ev.step (fun k=>?_) (ih (j+1) (a+l[j].size) bA bA bA);simp only[gO.l0];rw[if_pos bA,if_pos bA,if_pos bA,oW _ _ _ hj,w64 (n:=(j:Int)+1) bA bA,w64 bA bA];rfl
def fewB (l:List ByteArray):Bool:=decide (l.length+wt l≤2000)
theorem uF (l:List ByteArray) (hl:fits2 l=true):Ev (fun k=>gO.f k l) (fewB l):=by
 have h9:=hl;unfold fits2 at h9;simp only[Bool.and_eq_true,decide_eq_true_eq] at h9;exact aHu l hl l.length 0 l.length bA bA bA
def xJ (a b:List ByteArray) (c:List S46) (d:List ByteArray) (x y:ByteArray):Bool:=decide (x.size+y.size+wt3 c≤2000) && (fewB a && (fewB b && fewB d))
theorem aE0 (a b:List ByteArray) (c:List S46) (d:List ByteArray) (h:fits1 a b c d=true):∀ (n j x:Nat),c.length - j=n→j≤c.length→x+wt3 (c.drop j)≤9223372036854775807 →
 Ev (fun k=>gG.l0 k (x:Int) c (c.length:Int) (j:Int) a b c d) (decide (x+wt3 (c.drop j)≤2000) && (fewB a && (fewB b && fewB d))):=by
 unfold fits1 at h;simp only[Bool.and_eq_true] at h;obtain ⟨ha,hb,hc,hd⟩:=h;have hc9:=hc;unfold fits3 at hc9;simp only[Bool.and_eq_true,decide_eq_true_eq,List.all_eq_true] at hc9;obtain ⟨hl1,hl2⟩:=hc9;intro n
 induction n with
 | zero =>
  intro j x h1 h2 h3;rw[List.drop_of_length_le bA];have e:decide (x+wt3 []≤2000)=decide ((x:Int)≤2000):=by unfold wt3;simp;omega
  rw[e];refine Ev.step (f:=fun k=>if (x:Int)≤2000 then ((gO.f k a).bind fun t105=>(if t105=true then ((gO.f k b).bind fun t106=>(if t106=true then ((gO.f k d).bind fun t107=>(some t107)) else (some false))) else (some false))) else (some false)) (fun k=>?_) ?_
  ·simp only[gG.l0];rw[if_neg bA]
  by_cases cx:(x:Int)≤2000
  ·simp only[if_pos cx,decide_eq_true cx,Bool.true_and];refine Ev.bind (uF a ha) ?_;cases fewB a
   ·exact Ev.now _
   simp only[if_true,Bool.true_and];refine Ev.bind (uF b hb) ?_;cases fewB b
   ·exact Ev.now _
   simp only[if_true,Bool.true_and];exact Ev.bind (uF d hd) (Ev.now _)
  simp only[if_neg cx,decide_eq_false cx,Bool.false_and];exact Ev.now _
 | succ n ih =>
  intro j x h1 h2 h3;have hj:j < c.length:=by omega
  have hz:=hl2 c[j] (List.getElem_mem hj);unfold MM at *;rw[List.drop_eq_getElem_cons hj] at h3 ⊢;have e:x+wt3 (c[j]::c.drop (j+1))=(x+(1+c[j].f0.size+c[j].f1.size))+wt3 (c.drop (j+1)):=by simp only[wt3,List.map_cons,List.sum_cons];omega
  rw[e] at h3 ⊢;refine Ev.step (fun k=>?_) (ih (j+1) (x+(1+c[j].f0.size+c[j].f1.size)) bA bA bA);simp only[gG.l0];rw[if_pos bA,if_pos bA,if_pos bA,oV _ _ hj,w64 (n:=(j:Int)+1) bA bA,w64 (n:=1+(c[j].f0.size:Int)) bA bA,w64 (n:=1+(c[j].f0.size:Int)+(c[j].f1.size:Int)) bA bA,w64 bA bA];have e1:(x:Int)+(1+(c[j].f0.size:Int)+(c[j].f1.size:Int))=((x+(1+c[j].f0.size+c[j].f1.size):Nat):Int):=by omega
  rw[e1];rfl
theorem aJr (c:List S46) (h:fits3 c=true):wt3 c≤c.length * (2 * MM+1):=by
 unfold fits3 at h;simp only[Bool.and_eq_true,decide_eq_true_eq,List.all_eq_true] at h;have h2:=h.2;clear h
 induction c with
 | nil=>simp[wt3]
 | cons a r ih =>
  have:=ih (fun x hx=>h2 x (List.mem_cons_of_mem _ hx));have ha:=h2 a List.mem_cons_self;simp only[wt3,List.map_cons,List.sum_cons,List.length_cons] at *;rw[Nat.add_mul];omega
theorem wN (a b:List ByteArray) (c:List S46) (d:List ByteArray) (x y:ByteArray) (h:fits1 a b c d=true) (hxy:x.size+y.size+wt3 c≤9223372036854775807):Ev (fun k=>gG.f k a b c d x y) (xJ a b c d x y):=by
 have e:=aE0 a b c d h c.length 0 (x.size+y.size) bA bA (by rw[List.drop_zero];exact hxy);refine Ev.congr (fun k=>?_) e;unfold gG.f;rw[w64 bA bA];rfl
theorem aIx (a b:List ByteArray) (c:List S46) (d:List ByteArray) (x y:ByteArray) (h:fits1 a b c d=true) (hxy:x.size+y.size≤3 * MM):Ev (fun k=>gG.f k a b c d x y) (xJ a b c d x y):=by
 refine wN a b c d x y h ?_;unfold fits1 at h;simp only[Bool.and_eq_true] at h;have h1:=aJr c h.2.2.1;have h2:=h.2.2.1;unfold fits3 at h2;simp only[Bool.and_eq_true,decide_eq_true_eq] at h2;have h3:c.length * (2 * MM+1)≤MM * (2 * MM+1):=Nat.mul_le_mul_right _ h2.1;have h4:MM * (2 * MM+1)+3 * MM≤9223372036854775807:=by decide
 omega
def PEv {α:Type} (P:α→Prop) (g:Nat→Option α):Prop:=∃ r,Ev g r∧P r
section
variable {α β:Type} {P:α→Prop} {Q:β→Prop}
theorem PEv.now {r:α} (h:P r):PEv P (fun _=>some r):=⟨r,Ev.now r,h⟩
theorem PEv.succ {g:Nat→Option α} (h:PEv P (fun k=>g (k+1))):PEv P g:=by
 obtain ⟨r,h,hp⟩:=h;exact ⟨r,Ev.step (fun _=>rfl) h,hp⟩
theorem PEv.ite {c:Prop} [Decidable c] {a b:Nat→Option α} (h1:c→PEv P a) (h2:¬ c→PEv P b):PEv P (fun k=>if c then a k else b k):=by
 by_cases h:c
 ·simpa only [if_pos h] using h1 h
 simpa only [if_neg h] using h2 h
theorem PEv.bind {g:Nat→Option α} {f:Nat→α→Option β} (h:PEv P g) (k:∀ a,P a→PEv Q (fun n=>f n a)):PEv Q (fun n=>(g n).bind (f n)):=by
 obtain ⟨a,ha,hp⟩:=h;obtain ⟨r,hr,hq⟩:=k a hp;exact ⟨r,Ev.bind ha hr,hq⟩
theorem PEv.bindC {x:Option α} {f:Nat→α→Option β} {a:α} (h:x=some a) (k:PEv Q (fun n=>f n a)):PEv Q (fun n=>x.bind (f n)):=by
 subst h;exact k
theorem PEv.mono {P' : α→Prop} {g:Nat→Option α} (h:PEv P g) (hp:∀ r,P r→P' r):PEv P' g:=by
 obtain ⟨r,h,h2⟩:=h;exact ⟨r,h,hp r h2⟩
end
def Any {α:Type} (_:α):Prop:=True
theorem any {α:Type} (a:α):Any a:=trivial
theorem aDf (l:List ByteArray) (s:ByteArray) (hl:l.length≤4000000000):PEv Any (fun k=>fI.f k l s):=by
 have h:∀ (n:Nat) (i:Int),0≤i→(l.length:Int) - i≤n→PEv Any (fun k=>fI.l0 k l s i):=by
  intro n
  induction n with
  | zero =>
   intro i h1 h2;refine PEv.succ ?_;simp only[fI.l0];exact PEv.ite (fun h=>by exfalso;omega) (fun _=>PEv.now (any _))
  | succ n ih =>
   intro i h1 h2;refine PEv.succ ?_;simp only[fI.l0];refine PEv.ite (fun h=>?_) (fun _=>PEv.now (any _));refine PEv.ite (fun _=>?_) (fun h=>by exfalso;omega);refine PEv.ite (fun _=>PEv.now (any _)) (fun _=>?_);rw[w64 bA bA];exact ih (i+1) bA bA
 exact h l.length 0 bA bA
def qP (n:Int) (r:List Int):Prop:=(∀ x∈r,0≤x∧x < n)∧r.Pairwise (· < ·)
theorem qP.snoc {n i:Int} {r:List Int} (h:qP i r) (hi:0≤i) (hn:i+1≤n):qP n (r++[i]):=by
 refine ⟨fun x hx=>?_,?_⟩
 ·rcases List.mem_append.1 hx with hx | hx
  ·have:=h.1 x hx;omega
  rw[List.mem_singleton] at hx;omega
 rw[List.pairwise_append];refine ⟨h.2,dX,fun a ha b hb=>?_⟩;rw[List.mem_singleton] at hb;have:=h.1 a ha;omega
theorem qP.up {n m:Int} {r:List Int} (h:qP n r) (hm:n≤m):qP m r:=⟨fun x hx=>by have:=h.1 x hx;omega,h.2⟩
theorem aDg (s:ByteArray) (hs:s.size≤1000000):PEv (fun r=>qP s.size r∧r.length≤s.size) (fun k=>eI.f k s):=by
 have h:∀ (n:Nat) (i:Int) (acc:List Int),0≤i→i≤s.size→(s.size:Int) - i≤n→qP i acc→(acc.length:Int)≤i→PEv (fun r=>qP s.size r∧r.length≤s.size) (fun k=>eI.l0 k s acc i):=by
  intro n
  induction n with
  | zero =>
   intro i acc h1 h3 h2 hc hl;refine PEv.succ ?_;simp only[eI.l0];exact PEv.ite (fun h=>by exfalso;omega) (fun _=>PEv.now ⟨hc.up bA,aM⟩)
  | succ n ih =>
   intro i acc h1 h3 h2 hc hl;refine PEv.succ ?_;simp only[eI.l0];refine PEv.ite (fun hi=>?_) (fun _=>PEv.now ⟨hc.up bA,aM⟩);refine PEv.ite (fun _=>?_) (fun h=>by exfalso;omega);rw[w64 (n:=i+1) bA bA];refine PEv.ite (fun _=>?_) (fun _=>ih (i+1) acc bA bA bA (hc.up bA) bA);refine PEv.ite (fun _=>?_) (fun h=>by exfalso;omega);have hc2:qP (i+1) (acc++[i]):=hc.snoc h1 (Int.le_refl _);have hl2:((acc++[i]).length:Int)≤i+1:=by simp;omega
   obtain ⟨y,hy⟩:∃ y,acc++[i]=y:=⟨_,rfl⟩
   rw[hy] at hc2 hl2 ⊢
   have hl1:∀ (m:Nat) (p:Int),i+1 < p→p≤s.size+1→(s.size:Int) - p≤m→PEv (fun r=>qP s.size r∧r.length≤s.size) (fun k=>eI.l1 k s y i p):=by
    intro m
    induction m with
    | zero =>
     intro p g1 g3 g2;refine PEv.succ ?_;simp only[eI.l1];refine PEv.ite (fun h=>by exfalso;omega) (fun _=>?_);rw[w64 bA bA];exact ih (i+1) y bA bA bA hc2 hl2
    | succ m ihm =>
     intro p g1 g3 g2;refine PEv.succ ?_;simp only[eI.l1];rw[w64 (n:=p+1) bA bA,w64 (n:=i+1) bA bA];refine PEv.ite (fun h=>?_) (fun _=>ih (i+1) y bA bA bA hc2 hl2);refine PEv.ite (fun _=>?_) (fun h=>by exfalso;omega);refine PEv.ite (fun _=>?_) (fun _=>ihm (p+1) bA bA bA);refine PEv.ite (fun _=>ih (p+1) y bA bA bA (hc2.up bA) bA) (fun _=>?_);refine PEv.ite (fun _=>?_) (fun h=>by exfalso;omega);refine PEv.ite (fun _=>?_) (fun h=>by exfalso;omega);exact PEv.ite (fun _=>ih (p+1) y bA bA bA (hc2.up bA) bA) (fun _=>ihm (p+1) bA bA bA)
   have hj:∀ x:Bool,PEv (fun r=>qP s.size r∧r.length≤s.size) (fun k=>eI.j1 k s y i x):=by
    intro x;refine PEv.succ ?_;simp only[eI.j1];rw[w64 (n:=i+1) bA bA,w64 (n:=i+2) bA bA];exact PEv.ite (fun _=>ih (i+1) y bA bA bA hc2 hl2) (fun _=>hl1 s.size (i+2) bA bA bA)
   refine PEv.bindC rfl ?_;refine PEv.ite (fun _=>hj _) (fun _=>?_);refine PEv.ite (fun _=>?_) (fun h=>by exfalso;omega);exact PEv.ite (fun _=>hj _) (fun h=>by exfalso;omega)
 exact h s.size 0 [] bA bA bA ⟨dX,dX⟩ bI
theorem aLd {n:Int} {r:List Int} (h:qP n r) (i:Int) (h0:0≤i) (h1:i+1 < r.length):rd r i+1≤rd r (i+1):=by
 obtain ⟨m,rfl⟩:=Int.eq_ofNat_of_zero_le h0;have hm:m+1 < r.length:=by omega
 have:=List.pairwise_iff_getElem.1 h.2 m (m+1) bA hm bA;have e1:rd r (m:Int)=r[m]:=by unfold rd;simp[show m < r.length by omega]
 have e2:rd r ((m:Int)+1)=r[m+1]:=by
  have e3:((m:Int)+1)=((m+1:Nat):Int):=by omega
  rw[e3];unfold rd;simp[hm]
 rw[e1,e2];omega
theorem yT (s:ByteArray) (own:Bool) (hs:s.size≤900000):(Path.pathOf s own).size≤1000000:=by
 unfold Path.pathOf;rw[← eG,jP];have:=Path.mText_length (L (if own then s else Lower.norm s))
 have h2:(L (if own then s else Lower.norm s)).length≤900000:=by
  rw[eG];cases own
  ·show (Lower.norm s).size≤_;rw[Lower.norm_size];exact hs
  exact hs
 omega
open Go.RowKit Go.ZW.PrintWords Go.Proofs.YtcdgldnphhidlaaGreatDoor.Base Go.Proofs.YtcdgldnphhidlaaGreatDoor.PCore Go.Proofs.YtcdgldnphhidlaaGreatDoor.Ext Go.Proofs.YtcdgldnphhidlaaGreatDoor.Lower
open Go.Proofs.YtcdgldnphhidlaaGreatDoor.Path (qW lU mO ints eR pathOf behind gQ)
def nU (n:List UInt8) (i:Nat):Nat:=if n[i+1]? = some 95 then (match qW n (i+2) with | some e=>e+1 | none=>i+1) else i+1
def kX (n:List UInt8):Nat→Nat→List Nat
 | 0,_=>[]
 | g+1,i=>if n.length≤i then [] else if n[i]? = some 46 then i::kX n g (nU n i) else kX n g (i+1)
def eS (n:List UInt8):List Nat:=kX n n.length 0
def iP (w:List UInt8):Bool:=decide (3≤w.length) && (w[0]? == some 95 && w[w.length - 1]? == some 95)
def inner (w:List UInt8):List UInt8:=(w.drop 1).take (w.length - 2)
def aKi:List UInt8:=[108,97,121,111,117,116,95]
def uL (n:List UInt8):Nat→List Nat→List (List UInt8)
 | a,[]=>[n.drop a]
 | a,c::cs=>(n.drop a).take (c - a)::uL n (c+1) cs
def okW (w:List UInt8):Prop:=iP w=true→(inner w).map gZ≠aKi
structure oQ (lay:Bool) (n:List UInt8):Prop where
 last:∀ c,(eS n).getLast? = some c→iP (n.drop (c+1))=false∧c+1≠n.length
 first:(eS n).head?≠some 0
 words:lay=true→eS n≠[]→∀ w∈uL n 0 (eS n),okW w
structure lR (x:ByteArray):Prop where
 pos:0 < x.size
 most:x.size≤20
 each:∀ i:Int,0≤i→i < x.size→(97≤bt x i∧bt x i≤122)∨(48≤bt x i∧bt x i≤57)∨bt x i=45
structure uO (a b:List ByteArray) (c:List S46) (d:List ByteArray):Prop where
 langs:∀ x∈a,lR x
 dis:∀ x∈b,lR x
 fmts:∀ x∈c,lR x.f0∧lR x.f1
 cont:∀ x∈d,lR x
 apart:∀ x∈b,x∉a
 la:a.length≤12
 lb:b.length≤12
 lc:c.length≤12
 ld:d.length≤12
structure aF8 (a b:List ByteArray) (c:List S46) (d:List ByteArray) (x y:ByteArray):Prop where
 site:uO a b c d
 slashes:∀ i:Nat,¬ ((L y)[i]? = some 47∧(L y)[i+1]? = some 47)
 ascY:ascii (L y)=true
 ascX:ascii (L x)=true
 most:y.size≤400
 low:oQ (eR x) ((L (pathOf y false)).drop (behind (L (pathOf y false))))
 own:oQ (eR x) ((L (pathOf y true)).drop (behind (L (pathOf y true))))
theorem PEv.and {α:Type} {P Q:α→Prop} {g:Nat→Option α} (h1:PEv P g) (h2:PEv Q g):PEv (fun r=>P r∧Q r) g:=by
 obtain ⟨r,h,hp⟩:=h1;obtain ⟨r',h',hq⟩:=h2;obtain rfl:=Ev.fun_ h h';exact ⟨r,h,hp,hq⟩
theorem aJh (l:List ByteArray) (s:ByteArray) (hl:l.length≤4000000000):PEv (fun r=>r=true↔s∈l) (fun k=>fI.f k l s):=by
 have h:∀ (n i:Nat),i≤l.length→l.length - i≤n→PEv (fun r=>r=true↔s∈l.drop i) (fun k=>fI.l0 k l s (i:Int)):=by
  intro n
  induction n with
  | zero =>
   intro i h1 h2;refine PEv.succ ?_;simp only[fI.l0];refine PEv.ite (fun h=>by exfalso;omega) (fun _=>PEv.now ?_);rw[List.drop_of_length_le bA]
   simp
  | succ n ih =>
   intro i h1 h2;refine PEv.succ ?_;simp only[fI.l0];refine PEv.ite (fun h=>?_) (fun h=>PEv.now ?_)
   ·have hi:i < l.length:=by omega
    refine PEv.ite (fun _=>?_) (fun h=>by exfalso;omega);rw[oW _ _ _ hi,List.drop_eq_getElem_cons hi];refine PEv.ite (fun e=>PEv.now ?_) (fun e=>?_)
    ·have:l[i]=s:=by rw[L_toList,L_toList] at e;exact L_inj e
     simp[this]
    have hne:s≠l[i]:=fun x=>e (by rw[x]);rw[w64 bA bA];refine PEv.mono (ih (i+1) bA bA) (fun r hr=>?_);rw[hr,List.mem_cons];exact ⟨.inr,fun h=>h.resolve_left hne⟩
   rw[List.drop_of_length_le bA]
   simp
 exact h l.length 0 bA bA
theorem uC (s:ByteArray) (hs:s.size≤4000000000):PEv (fun r=>r=true→lR s) (fun k=>eP.f k s):=by
 have h:∀ (n:Nat) (i:Int),0≤i→(s.size:Int) - i≤n→PEv (fun r=>r=true→(0 < s.size∧s.size≤20)∧∀ j:Int,i≤j→j < s.size→(97≤bt s j∧bt s j≤122)∨(48≤bt s j∧bt s j≤57)∨bt s j=45) (fun k=>eP.l0 k s i):=by
  have fin:∀ i:Int,(s.size:Int)≤i→PEv (fun r=>r=true→(0 < s.size∧s.size≤20)∧∀ j:Int,i≤j→j < s.size→(97≤bt s j∧bt s j≤122)∨(48≤bt s j∧bt s j≤57)∨bt s j=45) (fun _=>if s.toList=([]:List UInt8) then (some false) else (some (decide ((s.size:Int)≤20)))):=by
   intro i hi;refine PEv.ite (fun _=>PEv.now (fun h=>by cases h)) (fun hne=>PEv.now (fun h=>?_));have h20:=of_decide_eq_true h;refine ⟨⟨?_,aM⟩,fun j h1 h2=>by exfalso;omega⟩;rcases Nat.eq_zero_or_pos s.size with h0 | h0
   ·exact absurd (by rw[L_toList];exact List.eq_nil_of_length_eq_zero (by rw[eG];exact h0)) hne
   exact h0
  intro n
  induction n with
  | zero =>
   intro i h1 h2;refine PEv.succ ?_;simp only[eP.l0];exact PEv.ite (fun h=>by exfalso;omega) (fun _=>fin i bA)
  | succ n ih =>
   intro i h1 h2;refine PEv.succ ?_;simp only[eP.l0];refine PEv.ite (fun h=>?_) (fun _=>fin i bA);refine PEv.ite (fun _=>?_) (fun h=>by exfalso;omega);rw[w64 bA bA]
   have hr:((97≤bt s i∧bt s i≤122)∨(48≤bt s i∧bt s i≤57)∨bt s i=45)→PEv (fun r=>r=true→(0 < s.size∧s.size≤20)∧∀ j:Int,i≤j→j < s.size→(97≤bt s j∧bt s j≤122)∨(48≤bt s j∧bt s j≤57)∨bt s j=45) (fun k=>eP.l0 k s (i+1)):=by
    intro hc;refine PEv.mono (ih (i+1) bA bA) (fun r hr e=>⟨(hr e).1,fun j g1 g2=>?_⟩)
    by_cases c:j=i
    ·rw[c];exact hc
    exact (hr e).2 j bA g2
   have no:PEv (fun r=>r=true→(0 < s.size∧s.size≤20)∧∀ j:Int,i≤j→j < s.size→(97≤bt s j∧bt s j≤122)∨(48≤bt s j∧bt s j≤57)∨bt s j=45) (fun _=>some false):=PEv.now (fun h=>by cases h);refine PEv.ite (fun _=>?_) (fun _=>?_)
   ·exact PEv.ite (fun _=>PEv.ite (fun c=>hr (.inr (.inr c))) (fun _=>no)) (fun _=>PEv.ite (fun _=>PEv.ite (fun c=>hr (.inr (.inr c))) (fun _=>no)) (fun _=>hr (.inr (.inl ⟨aM,aM⟩))))
   refine PEv.ite (fun _=>?_) (fun _=>hr (.inl ⟨aM,aM⟩));exact PEv.ite (fun _=>PEv.ite (fun c=>hr (.inr (.inr c))) (fun _=>no)) (fun _=>PEv.ite (fun _=>PEv.ite (fun c=>hr (.inr (.inr c))) (fun _=>no)) (fun _=>hr (.inr (.inl ⟨aM,aM⟩))))
 refine PEv.mono (h s.size 0 bA bA) (fun r hr e=>?_);obtain ⟨⟨h1,h2⟩,h3⟩:=hr e;exact ⟨h1,h2,h3⟩
theorem tB (l:List ByteArray) (hl:l.length≤4000000000) (hz:∀ x∈l,x.size≤4000000000):PEv (fun r=>r=true→l.length≤12∧∀ x∈l,lR x) (fun k=>eO.f k l):=by
 have h:∀ (n i:Nat),i≤l.length→l.length - i≤n→PEv (fun r=>r=true→l.length≤12∧∀ x∈l.drop i,lR x) (fun k=>eO.l0 k l (i:Int)):=by
  intro n
  induction n with
  | zero =>
   intro i h1 h2;refine PEv.succ ?_;simp only[eO.l0];refine PEv.ite (fun h=>by exfalso;omega) (fun _=>PEv.now (fun h=>?_));have:=of_decide_eq_true h;rw[List.drop_of_length_le bA];exact ⟨aM,dX⟩
  | succ n ih =>
   intro i h1 h2;refine PEv.succ ?_;simp only[eO.l0];refine PEv.ite (fun h=>?_) (fun h=>PEv.now (fun e=>?_))
   ·have hi:i < l.length:=by omega
    refine PEv.ite (fun _=>?_) (fun h=>by exfalso;omega);rw[oW _ _ _ hi,List.drop_eq_getElem_cons hi];refine PEv.bind (uC _ (hz _ (List.getElem_mem hi))) (fun a ha=>?_);refine PEv.ite (fun e=>?_) (fun _=>PEv.now (fun h=>by cases h));refine PEv.ite (fun _=>?_) (fun h=>by exfalso;omega);refine PEv.bind (aDf _ _ (by simp;omega)) (fun a _=>?_);refine PEv.ite (fun _=>PEv.now (fun h=>by cases h)) (fun _=>?_);rw[w64 bA bA];refine PEv.mono (ih (i+1) bA bA) (fun r hr e2=>⟨(hr e2).1,fun x hx=>?_⟩);rcases List.mem_cons.1 hx with rfl | hx
    ·exact ha e
    exact (hr e2).2 x hx
   have:=of_decide_eq_true e;rw[List.drop_of_length_le bA];exact ⟨aM,dX⟩
 exact h l.length 0 bA bA
theorem xO (a b:List ByteArray) (c:List S46) (d:List ByteArray) (ha:a.length≤4000000000) (hb:b.length≤4000000000) (hc:c.length≤4000000000) (hd:d.length≤4000000000) (za:∀ x∈a,x.size≤4000000000) (zb:∀ x∈b,x.size≤4000000000) (zc:∀ x∈c,x.f0.size≤4000000000∧x.f1.size≤4000000000) (zd:∀ x∈d,x.size≤4000000000):PEv (fun r=>r=true→uO a b c d) (fun k=>eM.f k a b c d):=by
 have h1:∀ (n i:Nat),i≤c.length→c.length - i≤n→PEv (fun r=>r=true→∀ x∈c.drop i,lR x.f0∧lR x.f1) (fun k=>eM.l1 k (i:Int) a b c d):=by
  intro n
  induction n with
  | zero =>
   intro i h1 h2;refine PEv.succ ?_;simp only[eM.l1];refine PEv.ite (fun h=>by exfalso;omega) (fun _=>PEv.now (fun _=>?_));rw[List.drop_of_length_le bA]
   simp
  | succ n ih =>
   intro i h1 h2;refine PEv.succ ?_;simp only[eM.l1];refine PEv.ite (fun h=>?_) (fun _=>PEv.now (fun _=>?_))
   ·have hi:i < c.length:=by omega
    refine PEv.ite (fun _=>?_) (fun h=>by exfalso;omega);rw[oV _ _ hi,List.drop_eq_getElem_cons hi];refine PEv.bind (uC _ (zc _ (List.getElem_mem hi)).1) (fun x hx=>?_);refine PEv.ite (fun e1=>?_) (fun _=>PEv.now (fun h=>by cases h));refine PEv.bind (uC _ (zc _ (List.getElem_mem hi)).2) (fun y hy=>?_);refine PEv.ite (fun e2=>?_) (fun _=>PEv.now (fun h=>by cases h));rw[w64 bA bA];refine PEv.mono (ih (i+1) bA bA) (fun r hr e x hx=>?_);rcases List.mem_cons.1 hx with rfl | hx
    ·exact ⟨by first | exact ‹_→lR c[i].f0› e1 | assumption,hy e2⟩
    exact hr e x hx
   rw[List.drop_of_length_le bA]
   simp
 have h0:∀ (n i:Nat),i≤b.length→b.length - i≤n→PEv (fun r=>r=true→(∀ x∈c,lR x.f0∧lR x.f1)∧∀ x∈b.drop i,x∉a) (fun k=>eM.l0 k (i:Int) a b c d):=by
  have fin:∀ i:Nat,b.length≤i→PEv (fun r=>r=true→(∀ x∈c,lR x.f0∧lR x.f1)∧∀ x∈b.drop i,x∉a) (fun k=>eM.l1 k 0 a b c d):=by
   intro i hi;refine PEv.mono (h1 c.length 0 bA bA) (fun r hr e=>⟨hr e,?_⟩);rw[List.drop_of_length_le hi]
   simp
  intro n
  induction n with
  | zero =>
   intro i g1 g2;refine PEv.succ ?_;simp only[eM.l0];exact PEv.ite (fun h=>by exfalso;omega) (fun _=>fin i bA)
  | succ n ih =>
   intro i g1 g2;refine PEv.succ ?_;simp only[eM.l0];refine PEv.ite (fun h=>?_) (fun _=>fin i bA);have hi:i < b.length:=by omega
   refine PEv.ite (fun _=>?_) (fun h=>by exfalso;omega);rw[oW _ _ _ hi,List.drop_eq_getElem_cons hi];refine PEv.bind (aJh _ _ bA) (fun x hx=>?_);refine PEv.ite (fun _=>PEv.now (fun h=>by cases h)) (fun hf=>?_);rw[w64 bA bA];refine PEv.mono (ih (i+1) bA bA) (fun r hr e=>⟨(hr e).1,fun y hy=>?_⟩);rcases List.mem_cons.1 hy with rfl | hy
   ·exact fun hm=>hf (hx.2 hm)
   exact (hr e).2 y hy
 have hj:∀ x:Bool,PEv (fun r=>r=true→x=false∧(∀ x∈c,lR x.f0∧lR x.f1)∧∀ x∈b,x∉a) (fun k=>eM.j0 k x a b c d):=by
  intro x;refine PEv.succ ?_;simp only[eM.j0];refine PEv.ite (fun _=>PEv.now (fun h=>by cases h)) (fun hx=>?_);exact PEv.mono (h0 b.length 0 bA bA) (fun r hr e=>⟨by simpa using hx,hr e⟩)
 have no:PEv (fun r=>r=true→uO a b c d) (fun k=>eM.j0 k true a b c d):=PEv.mono (hj true) (fun r hr e=>by cases (hr e).1);unfold eM.f;refine PEv.bind (tB a ha za) (fun _ p1=>PEv.ite (fun e1=>?_) (fun _=>no));refine PEv.bind (tB b hb zb) (fun _ p2=>PEv.ite (fun e2=>?_) (fun _=>no));refine PEv.bind (tB d hd zd) (fun _ p3=>PEv.ite (fun e3=>?_) (fun _=>no));refine PEv.mono (hj _) (fun r hr e=>?_);obtain ⟨q1,q2,q3⟩:=hr e;have q4:=of_decide_eq_false q1;exact ⟨(p1 e1).2,(p2 e2).2,q2,(p3 e3).2,q3,(p1 e1).1,(p2 e2).1,aM,(p3 e3).1⟩
theorem aJi (s:ByteArray) (hs:s.size≤1000000):PEv (fun r=>r=false→∀ i:Nat,¬ ((L s)[i]? = some 47∧(L s)[i+1]? = some 47)) (fun k=>fN.f k s (⟨#[47,47]⟩:ByteArray)):=by
 have hl:=eG s;have hz:((⟨#[47,47]⟩:ByteArray).size:Int)=2:=rfl
 have h:∀ (n i:Nat),i≤1000001→s.size+1 - i≤n→PEv (fun r=>r=false→∀ j:Nat,i≤j→¬ ((L s)[j]? = some 47∧(L s)[j+1]? = some 47)) (fun k=>fN.l0 k s (⟨#[47,47]⟩:ByteArray) (i:Int)):=by
  have fin:∀ i:Nat,s.size < i+2→PEv (fun r=>r=false→∀ j:Nat,i≤j→¬ ((L s)[j]? = some 47∧(L s)[j+1]? = some 47)) (fun _=>some false):=by
   intro i hi;refine PEv.now (fun _ j hj h=>?_);have:=(List.getElem?_eq_some_iff.1 h.2).1;omega
  intro n
  induction n with
  | zero =>
   intro i h3 h2;refine PEv.succ ?_;simp only[fN.l0,hz];rw[w64 (n:=(i:Int)+2) bA bA];exact PEv.ite (fun h=>by exfalso;omega) (fun _=>fin i bA)
  | succ n ih =>
   intro i h3 h2;refine PEv.succ ?_;simp only[fN.l0,hz];rw[w64 (n:=(i:Int)+2) bA bA];refine PEv.ite (fun h=>?_) (fun _=>fin i bA);refine PEv.ite (fun _=>?_) (fun h=>by exfalso;omega);refine PEv.ite (fun _=>?_) (fun h=>by exfalso;omega);refine PEv.ite (fun _=>PEv.now (fun h=>by cases h)) (fun hne=>?_);rw[w64 bA bA];refine PEv.mono (ih (i+1) bA bA) (fun r hr e j hj hp=>?_)
   by_cases c:j=i
   ·subst c;refine hne ?_;obtain ⟨a1,a2⟩:=List.getElem?_eq_some_iff.1 hp.1;obtain ⟨b1,b2⟩:=List.getElem?_eq_some_iff.1 hp.2;rw[L_toList,L_toList,eQ,show ((j:Int)+2).toNat - (j:Int).toNat=2 by omega,Int.toNat_natCast,List.drop_eq_getElem_cons a1,List.drop_eq_getElem_cons b1,a2,b2];rfl
   exact hr e j bA hp
 exact PEv.mono (h (s.size+1) 0 bA bA) (fun r hr e j=>hr e j (Nat.zero_le _))
theorem xP (s:ByteArray) (hs:s.size≤1000000) (h47:∀ j:Nat,(L s)[j]?≠some 47):PEv (fun r=>r=ints (eS (L s))) (fun k=>eI.f k s):=by
 have hl:=eG s
 have h:∀ (m i:Nat) (acc:List Int),i≤s.size→s.size - i≤m→acc.length≤i→PEv (fun r=>r=acc++ints (kX (L s) m i)) (fun k=>eI.l0 k s acc (i:Int)):=by
  intro m
  induction m with
  | zero =>
   intro i acc h1 h2 h3;refine PEv.succ ?_;simp only[eI.l0];exact PEv.ite (fun h=>by exfalso;omega) (fun _=>PEv.now (by simp[kX,ints]))
  | succ m ih =>
   intro i acc h1 h2 h3;refine PEv.succ ?_;simp only[eI.l0];refine PEv.ite (fun hi=>?_) (fun hi=>?_);rotate_left
   ·have:kX (L s) (m+1) i=[]:=by unfold kX;rw[if_pos bA]
    rw[this];exact PEv.now (by simp[ints])
   have hb:=mO s i bA 46 46 rfl;refine PEv.ite (fun _=>?_) (fun h=>by exfalso;omega);rw[w64 (n:=(i:Int)+1) bA bA];have ei:(i:Int)+1=((i+1:Nat):Int):=by omega
   refine PEv.ite (fun h46=>?_) (fun h46=>?_);rotate_left
   ·have:kX (L s) (m+1) i=kX (L s) m (i+1):=by rw[kX,if_neg bA,if_neg (fun x=>h46 (hb.2 x))]
    rw[this,ei];exact ih (i+1) acc bA bA bA
   refine PEv.ite (fun _=>?_) (fun h=>by exfalso;omega);have hc:kX (L s) (m+1) i=i::kX (L s) m (nU (L s) i):=by rw[kX,if_neg bA,if_pos (hb.1 h46)]
   have hd:acc++ints (i::kX (L s) m (nU (L s) i))=(acc++[(i:Int)])++ints (kX (L s) m (nU (L s) i)):=by simp[ints]
   have hl2:(acc++[(i:Int)]).length≤i+1:=by simp;omega
   rw[hc,hd]
   obtain ⟨y,hy⟩:∃ y,acc++[(i:Int)]=y:=⟨_,rfl⟩
   rw[hy] at hl2 ⊢
   have hl1:∀ (q p:Nat),s.size - p=q→p≤s.size+1→i+1 < p→PEv (fun r=>r=y++ints (kX (L s) m (match lU (L s) q p with | some e=>e+1 | none=>i+1))) (fun k=>eI.l1 k s y (i:Int) (p:Int)):=by
    intro q
    induction q with
    | zero =>
     intro p g1 g3 g2;refine PEv.succ ?_;simp only[eI.l1];refine PEv.ite (fun h=>by exfalso;omega) (fun _=>?_);rw[w64 (n:=(i:Int)+1) bA bA,ei];exact ih (i+1) y bA bA hl2
    | succ q ihq =>
     intro p g1 g3 g2;have hp:p < s.size:=by omega
     have hb1:=mO s p hp 95 95 rfl;have ep:(p:Int)+1=((p+1:Nat):Int):=by omega
     refine PEv.succ ?_;simp only[eI.l1];rw[w64 (n:=(p:Int)+1) bA bA,w64 (n:=(i:Int)+1) bA bA];refine PEv.ite (fun _=>?_) (fun h=>by exfalso;omega);refine PEv.ite (fun _=>?_) (fun h=>by exfalso;omega)
     have yes:((L s)[p]? = some 95∧((L s).length≤p+1∨(L s)[p+1]? = some 46))→lU (L s) (q+1) p=some p:=by
      intro h;rw[lU,if_neg (h47 p),if_pos h]
     have no:¬ ((L s)[p]? = some 95∧((L s).length≤p+1∨(L s)[p+1]? = some 46))→lU (L s) (q+1) p=lU (L s) q (p+1):=by
      intro h;rw[lU,if_neg (h47 p),if_neg h]
     refine PEv.ite (fun h95=>?_) (fun h95=>?_);rotate_left
     ·rw[no (fun h=>h95 (hb1.2 h.1)),ep];exact ihq (p+1) bA bA bA
     refine PEv.ite (fun he=>?_) (fun he=>?_)
     ·rw[yes ⟨hb1.1 h95,.inl bA⟩,ep];exact ih (p+1) y bA bA bA
     have hb2:=mO s (p+1) bA 46 46 rfl;refine PEv.ite (fun _=>?_) (fun h=>by exfalso;omega);refine PEv.ite (fun _=>?_) (fun h=>by exfalso;omega);rw[ep];refine PEv.ite (fun h46=>?_) (fun h46=>?_)
     ·rw[yes ⟨hb1.1 h95,.inr (hb2.1 h46)⟩];exact ih (p+1) y bA bA bA
     rw[no (fun h=>by rcases h.2 with h | h <;> first | omega | exact h46 (hb2.2 h))];exact ihq (p+1) bA bA bA
   have hj:∀ x:Bool,(x=true↔(L s)[i+1]?≠some 95)→PEv (fun r=>r=y++ints (kX (L s) m (nU (L s) i))) (fun k=>eI.j1 k s y (i:Int) x):=by
    intro x hx;refine PEv.succ ?_;simp only[eI.j1];rw[w64 (n:=(i:Int)+1) bA bA,w64 (n:=(i:Int)+2) bA bA];refine PEv.ite (fun e=>?_) (fun e=>?_)
    ·have:nU (L s) i=i+1:=by unfold nU;rw[if_neg (hx.1 e)]
     rw[this,ei];exact ih (i+1) y bA bA hl2
    have h95:(L s)[i+1]? = some 95:=Classical.byContradiction fun c=>e (hx.2 c);have hlt:=(List.getElem?_eq_some_iff.1 h95).1;have:nU (L s) i=(match lU (L s) (s.size - (i+2)) (i+2) with | some e=>e+1 | none=>i+1):=by unfold nU qW;rw[if_pos h95,hl]
    rw[this,show (i:Int)+2=((i+2:Nat):Int) by omega];exact hl1 (s.size - (i+2)) (i+2) rfl bA bA
   refine PEv.bindC rfl ?_;refine PEv.ite (fun he=>hj _ ?_) (fun he=>?_)
   ·simp only[true_iff];rw[List.getElem?_eq_none bA]
    simp
   refine PEv.ite (fun _=>?_) (fun h=>by exfalso;omega);refine PEv.ite (fun _=>hj _ ?_) (fun h=>by exfalso;omega);have hb2:=mO s (i+1) bA 95 95 rfl;rw[ei,bne_iff_ne];exact not_congr hb2
 have:=h s.size 0 [] bA bA bI;unfold eI.f eS;rw[hl];exact this
theorem vK (s:ByteArray) (hs:s.size≤1000000):∃ x,kE.f s=some (x,iP (L s))∧(iP (L s)=true→L x=inner (L s))∧x.size≤s.size:=by
 have hl:=eG s;have h0:(⟨#[]⟩:ByteArray).size≤s.size:=Nat.zero_le _;unfold kE.f
 by_cases c1:(s.size:Int) < 3
 ·have:iP (L s)=false:=by unfold iP;rw[decide_eq_false bA];rfl
  rw[if_pos c1,this];exact ⟨_,rfl,(fun h=>by cases h),h0⟩
 rw[if_neg c1,if_pos bA];have hb:=mO s 0 bA 95 95 rfl;have e1:((s.size:Int) - 1)=((s.size - 1:Nat):Int):=by omega
 by_cases c2:bt s 0=95
 ·rw[if_pos c2,w64 bA bA,if_pos bA,if_pos bA];have hb2:=mO s (s.size - 1) bA 95 95 rfl;rw[e1]
  by_cases c3:bt s ((s.size - 1:Nat):Int)=95
  ·have:iP (L s)=true:=by unfold iP;rw[decide_eq_true bA,hb.1 c2,hl,hb2.1 c3];rfl
   rw[if_pos c3,if_pos bA,if_pos bA,this];refine ⟨_,rfl,fun _=>?_,?_⟩
   ·unfold inner;rw[eQ,hl,Int.toNat_natCast,show s.size - 1 - 1=s.size - 2 by omega]
   rw[← eG,eQ,← eG]
   simp
   omega
  have:iP (L s)=false:=by
   unfold iP;rw[hl];have:((L s)[s.size - 1]? == some 95)=false:=by simpa using fun x=>c3 (hb2.2 x)
   rw[this]
   simp
  rw[if_neg c3,this];exact ⟨_,rfl,(fun h=>by cases h),h0⟩
 have:iP (L s)=false:=by
  unfold iP;have:((L s)[0]? == some 95)=false:=by simpa using fun x=>c2 (hb.2 x)
  rw[this]
  simp
 rw[if_neg c2,this];exact ⟨_,rfl,(fun h=>by cases h),h0⟩
theorem aId (s t:ByteArray):∃ r,iU.f s t=some r∧(L s=L t→r=true):=by
 unfold iU.f
 by_cases c:(s.size:Int)≥(t.size:Int)
 ·rw[if_pos c,if_pos bA,if_pos bA];refine ⟨_,rfl,fun e=>?_⟩;have:s.size=t.size:=by rw[← eG,← eG,e]
  rw[L_toList,L_toList,eQ,← e,beq_iff_eq,Int.toNat_natCast,List.drop_zero,Nat.sub_zero,← this,← eG,List.take_length]
 rw[if_neg c];refine ⟨_,rfl,fun e=>?_⟩;have:s.size=t.size:=by rw[← eG,← eG,e]
 omega
def pH (n:List UInt8) (C:List Nat) (i a:Nat):List (List UInt8):=if i≤C.length then uL n a (C.drop i) else []
theorem qV (C:List Nat) (i:Nat) (h:i < C.length):rd (ints C) (i:Int)=((C[i]'h:Nat):Int):=by
 unfold rd ints
 simp[h]
theorem vW (comp s:ByteArray) (hs:s.size≤1000000) (h47:∀ j:Nat,(L s)[j]?≠some 47):PEv (fun r=>r=true→oQ (eR comp) (L s)) (fun k=>eE.f k comp s):=by
 have hls:=eG s
 have hx:∀ a b,(s.extract a b).size≤1000000:=by
  intro a b;rw[← eG,eQ]
  simp
  omega
 unfold eE.f;refine PEv.bind (PEv.and (aDg s hs) (xP s hs h47)) (fun r hr=>?_);obtain ⟨⟨hr,hrl⟩,rfl⟩:=hr
 obtain ⟨C,hC⟩:∃ C,eS (L s)=C:=⟨_,rfl⟩
 rw[hC] at hr hrl ⊢;have hCl:(ints C).length=C.length:=by simp[ints]
 rw[hCl] at hrl
 have hin:∀ (i:Nat) (h:i < C.length),C[i]'h < s.size:=by
  intro i h;have:=hr.1 ((C[i]'h:Nat):Int) (by unfold ints;exact List.mem_map.2 ⟨_,List.getElem_mem h,rfl⟩);omega
 have hup:∀ (i:Nat) (h:i+1 < C.length),C[i]' bA+1≤C[i+1]'h:=by
  intro i h;have h9:=aLd hr (i:Int) bA (by rw[hCl];omega);rw[qV C i bA,show (i:Int)+1=((i+1:Nat):Int) by omega,qV C (i+1) h] at h9;omega
 refine PEv.ite (fun h0=>PEv.now (fun _=>?_)) (fun hne=>?_)
 ·have:C=[]:=by
   rw[hCl] at h0;exact List.eq_nil_of_length_eq_zero bA
  subst this;exact ⟨fun c hc=>by rw[hC] at hc;simp at hc,by rw[hC];simp,fun _ h=>absurd hC h⟩
 rw[hCl] at hne ⊢;have hpos:0 < C.length:=by omega
 rw[w64 (n:=(C.length:Int) - 1) bA bA];refine PEv.ite (fun _=>?_) (fun h=>by exfalso;omega);refine PEv.ite (fun _=>?_) (fun h=>by exfalso;omega)
 have elast:rd (ints C) ((C.length:Int) - 1)=((C[C.length - 1]' bA:Nat):Int):=by
  rw[show (C.length:Int) - 1=((C.length - 1:Nat):Int) by omega,qV]
 have hlin:=hin (C.length - 1) bA;rw[elast]
 obtain ⟨cl,hcl⟩:∃ cl,C[C.length - 1]' bA=cl:=⟨_,rfl⟩
 rw[hcl] at hlin ⊢;rw[w64 (n:=(cl:Int)+1) bA bA];refine PEv.ite (fun _=>?_) (fun h=>by exfalso;omega);refine PEv.ite (fun _=>?_) (fun h=>by exfalso;omega)
 -- the loop
 have hl0:∀ (n:Nat) (i fr:Nat) (x8:List ByteArray),C.length+1 - i≤n→i≤C.length+1→(∀ h:i < C.length,fr≤C[i]'h)→(i=C.length→fr≤s.size)→x8.length≤3 * i→PEv (fun r=>r=true→eR comp=true→∀ w∈pH (L s) C i fr,okW w) (fun k=>eE.l0 k comp s (ints C) x8 (fr:Int) (i:Int)):=by
  intro n
  induction n with
  | zero =>
   intro i fr x8 h2 h3 h5 h6 h7;refine PEv.succ ?_;simp only[eE.l0];rw[hCl];refine PEv.ite (fun h=>by exfalso;omega) (fun _=>?_);refine PEv.succ ?_;simp only[eE.j2,Bool.false_eq_true,if_false];refine PEv.now (fun _ _ w hw=>?_);unfold pH at hw;rw[if_neg bA] at hw;cases hw
  | succ n ih =>
   intro i fr x8 h2 h3 h5 h6 h7
   have hj2:∀ x:Bool,x=eR comp→i≤C.length→PEv (fun r=>r=true→eR comp=true→∀ w∈pH (L s) C i fr,okW w) (fun k=>eE.j2 k comp s (ints C) x8 (fr:Int) (i:Int) x):=by
    intro x hxl hi;refine PEv.succ ?_;simp only[eE.j2];rw[hCl];refine PEv.ite (fun _=>?_) (fun hf=>PEv.now (fun _ hl=>by rw[← hxl] at hl;exact absurd hl hf))
    have hj3:∀ e:Nat,fr≤e→e≤s.size→(∀ h:i+1 < C.length,e+1≤C[i+1]'h)→(i+1=C.length→e+1≤s.size)→PEv (fun r=>r=true→eR comp=true→okW (((L s).drop fr).take (e - fr))∧∀ w∈pH (L s) C (i+1) (e+1),okW w) (fun k=>eE.j3 k comp s (ints C) x8 (fr:Int) (i:Int) (e:Int)):=by
     intro e g1 g2 g3 g4;refine PEv.succ ?_;simp only[eE.j3];refine PEv.ite (fun _=>?_) (fun h=>by exfalso;omega);refine PEv.ite (fun _=>?_) (fun h=>by exfalso;omega);refine PEv.ite (fun _=>?_) (fun h=>by exfalso;omega);refine PEv.ite (fun _=>PEv.now (fun h=>by cases h)) (fun _=>?_);have hwd:L (s.extract (fr:Int).toNat (e:Int).toNat)=((L s).drop fr).take (e - fr):=by rw[eQ,Int.toNat_natCast,Int.toNat_natCast]
     obtain ⟨wx,hw1,hw3,hw2⟩:=vK (s.extract (fr:Int).toNat (e:Int).toNat) (hx _ _);rw[hwd] at hw1 hw3
     obtain ⟨W,hW⟩:∃ W,((L s).drop fr).take (e - fr)=W:=⟨_,rfl⟩
     rw[hW] at hw1 hw3 ⊢;refine PEv.bindC hw1 ?_;refine PEv.bindC rfl ?_;have hwz:wx.size≤1000000:=Nat.le_trans hw2 (hx _ _);have hy2:iB ByteArray.empty [(⟨#[111,117,116,112,117,116,102,111,114,109,97,116,95]⟩:ByteArray),(⟨#[107,105,110,100,95]⟩:ByteArray),(⟨#[108,97,121,111,117,116,95]⟩:ByteArray)] 2=⟨#[108,97,121,111,117,116,95]⟩:=rfl
     obtain ⟨y,hy⟩:∃ y:List ByteArray,[(⟨#[111,117,116,112,117,116,102,111,114,109,97,116,95]⟩:ByteArray),(⟨#[107,105,110,100,95]⟩:ByteArray),(⟨#[108,97,121,111,117,116,95]⟩:ByteArray)]=y:=⟨_,rfl⟩
     have hy3:y.length=3:=by rw[← hy];rfl
     simp only[hy];rw[hy] at hy2;clear hy
     have hl1:∀ (m:Nat) (q:Nat) (z8:List ByteArray),3 - q≤m→q≤3→z8.length≤3 * i+q→PEv (fun r=>r=true→eR comp=true→(q≤2→okW W)∧∀ w∈pH (L s) C (i+1) (e+1),okW w) (fun k=>eE.l1 k comp s (ints C) z8 (i:Int) (e:Int) wx (iP W) y (y.length:Int) (q:Int)):=by
      have fin:∀ (q:Nat) (z8:List ByteArray),3≤q→z8.length≤3 * i+3→PEv (fun r=>r=true→eR comp=true→(q≤2→okW W)∧∀ w∈pH (L s) C (i+1) (e+1),okW w) (fun k=>eE.l0 k comp s (ints C) z8 (wrap64 ((e:Int)+1)) (wrap64 ((i:Int)+1))):=by
       intro q z8 hq hz;rw[w64 bA bA,w64 bA bA];exact PEv.mono (ih (i+1) (e+1) z8 bA bA (fun h=>g3 h) (fun h=>g4 h) bA) (fun r hr e1 e2=>⟨fun h=>by omega,hr e1 e2⟩)
      intro m
      induction m with
      | zero =>
       intro q z8 k2 k4 k3;refine PEv.succ ?_;simp only[eE.l1];exact PEv.ite (fun h=>by exfalso;omega) (fun _=>fin q z8 bA bA)
      | succ m ihm =>
       intro q z8 k2 k4 k3;refine PEv.succ ?_;simp only[eE.l1];refine PEv.ite (fun hq=>?_) (fun _=>fin q z8 bA bA);refine PEv.ite (fun _=>?_) (fun h=>by exfalso;omega);refine PEv.ite (fun _=>?_) (fun h=>by exfalso;omega)
       have step:∀ z:List ByteArray,z.length≤3 * i+(q+1)→(q=2→okW W)→PEv (fun r=>r=true→eR comp=true→(q≤2→okW W)∧∀ w∈pH (L s) C (i+1) (e+1),okW w) (fun k=>eE.l1 k comp s (ints C) z (i:Int) (e:Int) wx (iP W) y (y.length:Int) ((q:Int)+1)):=by
        intro z hz hok;refine PEv.mono (ihm (q+1) z bA bA hz) (fun r hr e1 e2=>⟨fun h=>?_,(hr e1 e2).2⟩)
        by_cases c:q=2
        ·exact hok c
        exact (hr e1 e2).1 bA
       have hj5:∀ x:Bool,(q=2→x=false→okW W)→PEv (fun r=>r=true→eR comp=true→(q≤2→okW W)∧∀ w∈pH (L s) C (i+1) (e+1),okW w) (fun k=>eE.j5 k comp s (ints C) z8 (i:Int) (e:Int) wx (iP W) (iB ByteArray.empty y (q:Int)) y (y.length:Int) (q:Int) x):=by
        intro x hxf;refine PEv.succ ?_;simp only[eE.j5];rw[w64 (n:=(q:Int)+1) bA bA];refine PEv.ite (fun _=>?_) (fun hf=>step z8 bA (fun h=>hxf h (by simpa using hf)));refine PEv.bind (aDf _ _ bA) (fun _ _=>?_);refine PEv.ite (fun _=>PEv.now (fun h=>by cases h)) (fun _=>?_);refine PEv.ite (fun _=>PEv.now (fun h=>by cases h)) (fun hsz=>?_);refine PEv.ite (fun _=>?_) (fun h=>by exfalso;omega);refine step _ (by simp;omega) (fun h2 hw hi=>hsz ?_);subst h2;rw[show ((2:Nat):Int)=2 from rfl,hy2];have:=congrArg List.length hi;rw[← hw3 hw,List.length_map,eG] at this;rw[this];rfl
       refine PEv.ite (fun _=>?_) (fun hf=>hj5 _ (fun _ _ h=>absurd h hf));refine PEv.bindC (show iT.f wx=some (Go.Proofs.YtcdgldnphhidlaaGreatDoor.Lower.low wx) by unfold iT.f;rw[if_pos bA]) ?_;obtain ⟨b,hb,hbt⟩:=aId (Go.Proofs.YtcdgldnphhidlaaGreatDoor.Lower.low wx) (iB ByteArray.empty y (q:Int));refine PEv.bindC hb (hj5 _ (fun h2 hbf hw hi=>?_));subst h2;rw[hbt (by rw[show ((2:Nat):Int)=2 from rfl,hy2,oO,hw3 hw,hi];rfl)] at hbf;cases hbf
     exact PEv.mono (hl1 3 0 x8 bA bA bA) (fun r hr e1 e2=>⟨(hr e1 e2).1 bA,(hr e1 e2).2⟩)
    refine PEv.ite (fun hlt=>?_) (fun hge=>?_)
    ·have hlt' : i < C.length:=by omega
     refine PEv.ite (fun _=>?_) (fun h=>by exfalso;omega);rw[qV C i hlt'];refine PEv.mono (hj3 _ (h5 hlt') (Nat.le_of_lt (hin i hlt')) (fun h=>hup i h) (fun _=>hin i hlt')) (fun r hr e1 e2 w hw=>?_);unfold pH at hw;rw[if_pos hi,List.drop_eq_getElem_cons hlt',uL] at hw;rcases List.mem_cons.1 hw with rfl | hw
     ·exact (hr e1 e2).1
     refine (hr e1 e2).2 w ?_;unfold pH;rw[if_pos bA];exact hw
    have hi2:i=C.length:=by omega
    refine PEv.mono (hj3 _ (h6 hi2) (Nat.le_refl _) (fun h=>by exfalso;omega) (fun h=>by exfalso;omega)) (fun r hr e1 e2 w hw=>?_);unfold pH at hw;rw[if_pos hi,List.drop_of_length_le bA,uL,List.mem_singleton] at hw;subst hw;have:=(hr e1 e2).1;rwa[List.take_of_length_le (by rw[List.length_drop];omega)] at this
   refine PEv.succ ?_;simp only[eE.l0];rw[hCl];refine PEv.ite (fun h=>hj2 _ rfl bA) (fun _=>?_);refine PEv.succ ?_;simp only[eE.j2,Bool.false_eq_true,if_false];refine PEv.now (fun _ _ w hw=>?_);unfold pH at hw;rw[if_neg bA] at hw;cases hw
 have hj0:∀ x:Bool,(x=false→iP ((L s).drop (cl+1))=false∧C[0]'hpos≠0∧cl+1≠s.size)→PEv (fun r=>r=true→oQ (eR comp) (L s)) (fun k=>eE.j0 k comp s (ints C) x):=by
  intro x hxf;refine PEv.succ ?_;simp only[eE.j0];refine PEv.ite (fun _=>PEv.now (fun h=>by cases h)) (fun hf=>?_);obtain ⟨k1,k2,k3⟩:=hxf (by simpa using hf);refine PEv.mono (hl0 (C.length+1) 0 0 [] bA bA (fun _=>Nat.zero_le _) (fun _=>Nat.zero_le _) bI) (fun r hr e=>⟨fun c hc=>?_,?_,fun hl _ w hw=>?_⟩)
  ·rw[hC,List.getLast?_eq_getElem?,List.getElem?_eq_getElem bA] at hc;injection hc with hc
   rw[hcl] at hc;subst hc;exact ⟨k1,by rw[hls];exact k3⟩
  ·rw[hC,List.head?_eq_getElem?,List.getElem?_eq_getElem hpos];intro h;injection h with h
   exact k2 h
  refine hr e hl w ?_;unfold pH;rw[if_pos (Nat.zero_le _),List.drop_zero,← hC];exact hw
 obtain ⟨wx,hw1,_,_⟩:=vK (s.extract ((cl:Int)+1).toNat s.size) (hx _ _)
 have hwd:L (s.extract ((cl:Int)+1).toNat s.size)=(L s).drop (cl+1):=by
  rw[eQ,show ((cl:Int)+1).toNat=cl+1 by omega];exact List.take_of_length_le (by rw[List.length_drop];omega)
 rw[hwd] at hw1;refine PEv.bindC hw1 ?_;refine PEv.ite (fun _=>hj0 _ (fun h=>by cases h)) (fun hwf=>?_);refine PEv.ite (fun _=>?_) (fun h=>by exfalso;omega);have e0:=qV C 0 hpos;rw[show ((0:Nat):Int)=0 from rfl] at e0;rw[e0];refine PEv.ite (fun _=>hj0 _ (fun h=>by cases h)) (fun h0=>hj0 _ (fun h=>⟨by simpa using hwf,aM,?_⟩))
 have h9:¬ ((cl:Int)+1=(s.size:Int)):=by
  intro e;rw[e] at h
  simp at h
 omega
theorem pQ (s:ByteArray) (hs:s.size≤1000000) (hex:∃ j:Nat,(L s)[j]? = some 47):PEv (fun r=>L r=(L s).drop (behind (L s))∧r.size≤1000000∧∀ j:Nat,(L r)[j]?≠some 47) (fun k=>gW.f k s):=by
 have hl:=eG s;obtain ⟨j0,_,hb,hj0,hj1⟩:=Go.Proofs.YtcdgldnphhidlaaGreatDoor.Path.last_slash s hex;have hjl:j0 < s.size:=by rw[← hl];exact (List.getElem?_eq_some_iff.1 hj0).1
 have h:∀ (n i:Nat),j0≤i→i < s.size→i - j0≤n→PEv (fun r=>r=(j0:Int)) (fun k=>eU.l0 k s (i:Int)):=by
  intro n
  induction n with
  | zero =>
   intro i h1 h2 h3;have:i=j0:=by omega
   subst this;refine PEv.succ ?_;simp only[eU.l0];refine PEv.ite (fun _=>?_) (fun h=>by exfalso;omega);refine PEv.ite (fun _=>?_) (fun h=>by exfalso;omega);refine PEv.ite (fun _=>?_) (fun h=>by exfalso;omega);exact PEv.ite (fun _=>PEv.now rfl) (fun h=>absurd ((mO s i h2 47 47 rfl).2 hj0) h)
  | succ n ih =>
   intro i h1 h2 h3;refine PEv.succ ?_;simp only[eU.l0];refine PEv.ite (fun _=>?_) (fun h=>by exfalso;omega);refine PEv.ite (fun _=>?_) (fun h=>by exfalso;omega);refine PEv.ite (fun _=>?_) (fun h=>by exfalso;omega);refine PEv.ite (fun h=>PEv.now ?_) (fun h=>?_)
   ·by_cases c:i=j0
    ·rw[c]
    exact absurd ((mO s i h2 47 47 rfl).1 h) (hj1 i bA)
   have:i≠j0:=by intro c;subst c;exact h ((mO s i h2 47 47 rfl).2 hj0)
   rw[w64 bA bA,show (i:Int) - 1=((i - 1:Nat):Int) by omega];exact ih (i - 1) bA bA bA
 have h0:PEv (fun r=>r=(j0:Int)) (fun k=>eU.f k s (s.size:Int)):=by
  unfold eU.f;rw[w64 bA bA,show (s.size:Int) - 1=((s.size - 1:Nat):Int) by omega];exact h s.size (s.size - 1) bA bA bA
 unfold gW.f;refine PEv.bind h0 (fun r hr=>?_);subst hr;rw[w64 bA bA];refine PEv.ite (fun _=>?_) (fun h=>by exfalso;omega);refine PEv.ite (fun _=>?_) (fun h=>by exfalso;omega);refine PEv.now ?_
 have e:L (s.extract ((j0:Int)+1).toNat s.size)=(L s).drop (behind (L s)):=by
  rw[eQ,hb,show ((j0:Int)+1).toNat=j0+1 by omega];exact List.take_of_length_le (by rw[List.length_drop];omega)
 refine ⟨e,?_,fun j=>?_⟩
 ·rw[← eG,e,List.length_drop];omega
 rw[e,hb,List.getElem?_drop];exact hj1 _ bA
theorem xD (s:ByteArray) (own:Bool):∃ j:Nat,(L (pathOf s own))[j]? = some 47:=by
 refine ⟨0,?_⟩;unfold pathOf;rw[jP,← List.head?_eq_getElem?];exact Go.Proofs.YtcdgldnphhidlaaGreatDoor.Path.mText_head _
theorem xN (a b:List ByteArray) (c:List S46) (d:List ByteArray) (x y:ByteArray) (ha:a.length≤1000000) (hb:b.length≤1000000) (hc:c.length≤1000000) (hd:d.length≤1000000) (za:∀ x∈a,x.size≤4000000000) (zb:∀ x∈b,x.size≤4000000000) (zc:∀ x∈c,x.f0.size≤4000000000∧x.f1.size≤4000000000) (zd:∀ x∈d,x.size≤4000000000) (hx:x.size≤900000) (hy:y.size≤900000) :
 PEv (fun r=>r=true→aF8 a b c d x y) (fun k=>iS.f k a b c d x y):=by
 unfold iS.f;have no:PEv (fun r=>r=true→aF8 a b c d x y) (fun _=>some false):=PEv.now (fun h=>by cases h);refine PEv.bind (xO a b c d bA bA bA bA za zb zc zd) (fun r0 h0=>?_);refine PEv.ite (fun e0=>?_) (fun _=>no);refine PEv.bind (aJi y bA) (fun r4 h4=>?_);refine PEv.ite (fun _=>no) (fun e4=>?_);refine PEv.bind (P:=fun r=>r=ascii (L y)) ⟨_,aC9 y bA,rfl⟩ (fun r1 h1=>?_);refine PEv.ite (fun e1=>?_) (fun _=>no);refine PEv.bind (P:=fun r=>r=ascii (L x)) ⟨_,aC9 x bA,rfl⟩ (fun r2 h2=>?_);refine PEv.ite (fun e2=>?_) (fun _=>no);refine PEv.ite (fun e3=>?_) (fun _=>no);refine PEv.bindC (show kS.f y false=some (pathOf y false) by unfold kS.f;rw[if_pos bA]) ?_
 refine PEv.bind (pQ _ (yT y false hy) (xD y false)) (fun p1 hp1=>?_);refine PEv.bind (vW x p1 hp1.2.1 hp1.2.2) (fun r5 h5=>?_);refine PEv.ite (fun e5=>?_) (fun _=>no);refine PEv.bindC (show kS.f y true=some (pathOf y true) by unfold kS.f;rw[if_pos bA]) ?_;refine PEv.bind (pQ _ (yT y true hy) (xD y true)) (fun p2 hp2=>?_);refine PEv.bind (vW x p2 hp2.2.1 hp2.2.2) (fun r6 h6=>PEv.now (fun e6=>?_));exact ⟨h0 e0,h4 (by simpa using e4),h1▸e1,h2▸e2,aM,hp1.1▸h5 e5,hp2.1▸h6 e6⟩
end Go.Proofs.YtcdgldnphhidlaaGreatDoor.Total
namespace Go.Proofs.YtcdgldnphhidlaaGreatDoor.Path
open Go.RowKit Go.Proofs.YtcdgldnphhidlaaGreatDoor.Base Go.Proofs.YtcdgldnphhidlaaGreatDoor.Total Go.Proofs.YtcdgldnphhidlaaGreatDoor.PCore
def mkF (x:ByteArray×ByteArray):S46:=⟨x.1,x.2⟩
def lF (st:eW) (comp s:ByteArray):Prop:=aF8 st.langs st.dis (st.fmts.map mkF) st.cont comp s
open Go.RowKit Go.WideMaps Go.ZW.PrintWords Go.Proofs.YtcdgldnphhidlaaGreatDoor.Base Go.Proofs.YtcdgldnphhidlaaGreatDoor.Lower Go.Proofs.YtcdgldnphhidlaaGreatDoor.Total Go.Proofs.YtcdgldnphhidlaaGreatDoor.PCore
theorem eV.kd {w:World} {v:Value} {l:List ByteArray} (H:eV w 0 v l) (hl:l.length≤9223372036854775807):∃ A c,v = .slice A l.length c∧l.length≤c∧Kd.C Kd.string w A l.length l:=by
 obtain ⟨A,c,e,hc,h⟩:=H;refine ⟨A,c,e,hc,rfl,hl,fun hn=>?_⟩;obtain ⟨g,o,ea,_,hh⟩:=h hn;refine ⟨⟨g,o,none⟩,ea,fun j p hp=>⟨[.string p],rfl,rfl,fun i u hu=>?_⟩⟩
 have hj:=(List.getElem?_eq_some_iff.1 hp)
 obtain ⟨hj1,hj2⟩:=hj
 have hi:i=0:=by
  cases i with
  | zero=>rfl
  | succ i=>simp at hu
 subst hi;simp only[List.getElem?_cons_zero,Option.some.injEq] at hu;subst hu;have ad:(⟨g,o,none⟩:Addr).add (j * 1+0)=⟨g,o+j,none⟩:=by unfold Addr.add;split <;> simp_all
 show w.cell? ((⟨g,o,none⟩:Addr).add (j * 1+0))=_;rw[ad,hh j hj1,hj2]
theorem nG.kd {w:World} {v:Value} {l:List (ByteArray×ByteArray)} (H:nG w 0 v l) (hl:l.length≤9223372036854775807):∃ A c,v = .slice A (l.map mkF).length c∧(l.map mkF).length≤c∧Kd.C k46 w A (l.map mkF).length (l.map mkF):=by
 obtain ⟨A,c,e,hc,h⟩:=H;refine ⟨A,c,by rw[List.length_map];exact e,by rw[List.length_map];exact hc,rfl,by rw[List.length_map];exact hl,fun hn=>?_⟩;rw[List.length_map] at hn;obtain ⟨g,o,ea,_,hh⟩:=h hn;refine ⟨⟨g,o,none⟩,ea,fun j p hp=>⟨[.string p.f0,.string p.f1],rfl,aKt _ _,fun i u hu=>?_⟩⟩;rw[List.getElem?_map,Option.map_eq_some_iff] at hp;obtain ⟨x,hx,rfl⟩:=hp;obtain ⟨hj1,hj2⟩:=List.getElem?_eq_some_iff.1 hx;obtain ⟨c1,c2⟩:=hh j hj1;rw[hj2] at c1 c2;have ad:∀ i,(⟨g,o,none⟩:Addr).add (j * 2+i)=⟨g,o+(j * 2+i),none⟩:=by intro i;unfold Addr.add;split <;> simp_all
 show w.cell? ((⟨g,o,none⟩:Addr).add (j * 2+i))=_;rw[ad]
 match i,hu with
 | 0,hu=>simp only[List.getElem?_cons_zero,Option.some.injEq] at hu;subst hu;exact c1
 | 1,hu=>simp only[List.getElem?_cons_succ,List.getElem?_cons_zero,Option.some.injEq] at hu;subst hu;exact c2
 | (i+2),hu=>simp at hu
open Go.RowKit Go.ZW.PrintWords Go.Proofs.YtcdgldnphhidlaaGreatDoor.Base
theorem aDv {E:Env} {lay:Bool} {p q:eH} {pre v:ByteArray} {x:Int×Int} (h:jI E lay p pre x v=some q):Same p q:=by
 unfold jI at h
 repeat' split at h
 all_goals first | (cases h;exact ⟨rfl,rfl,rfl,rfl,rfl,rfl,rfl,rfl,rfl⟩) | cases h
theorem yR (E:Env) (p:eH) (comp:ByteArray) (lo ld:Nat) (nd:Int) (last:Bool):Same p (jJ E p comp lo ld nd last).1:=by
 unfold jJ;simp only;split
 ·unfold nM;simp only;split
  ·exact ⟨rfl,rfl,rfl,rfl,rfl,rfl,rfl,rfl,rfl⟩
  split
  ·rename_i q hq
   exact aDv hq
  exact ⟨rfl,rfl,rfl,rfl,rfl,rfl,rfl,rfl,rfl⟩
 split
 ·exact ⟨rfl,rfl,rfl,rfl,rfl,rfl,rfl,rfl,rfl⟩
 unfold jS
 repeat' split
 all_goals exact ⟨rfl,rfl,rfl,rfl,rfl,rfl,rfl,rfl,rfl⟩
theorem rJ (E:Env) (p:eH) (comp:ByteArray) (i ld:Nat) (nd:Int) (last:Bool):Same p (mId E p comp i ld nd last):=by
 unfold mId;split
 ·exact Same.refl p
 obtain ⟨e,he,_⟩:=rD (jJ E p comp (i+1) ld nd last) i ld last;rw[he];have h:=yR E p comp (i+1) ld nd last;exact ⟨h.s,h.cLow,h.cHigh,h.sec,h.comp,h.typ,h.nLow,h.nHigh,h.trim⟩
structure mE (T:ByteArray) (t:Int) (p:eH):Prop where
 s:p.s=T
 typ:p.typ=t
 hi:p.cHigh = -1∨∃ j:Nat,p.cHigh=(j:Int)+1∧T.data.toList[j]? = some 47
 lo:p.cLow = -1∨∃ j:Nat,p.cLow=(j:Int)+1∧T.data.toList[j]? = some 47
theorem mE.same {s:ByteArray} {t:Int} {p q:eH} (h:mE s t p) (g:Same p q):mE s t q :=
 ⟨g.s.trans h.s,g.typ.trans h.typ,by rw[g.cHigh];exact h.hi,by rw[g.cLow];exact h.lo⟩
theorem mE.step {E:Env} {s comp:ByteArray} {t:Int} {sk:List Nat} {nd:Int} {i:Nat} {d:DoV} (h:mE s t d.p):mE s t (iW E comp sk nd i d).p:=by
 unfold iW;rw[h.s];split
 ·split
  ·exact h
  exact h.same (rJ _ _ _ _ _ _ _)
 split
 ·rename_i hc
  have key:∀ q:eH,mE s t q→mE s t { q with cHigh:=(i:Int)+1 }:=fun q hq=>⟨hq.s,hq.typ,.inr ⟨i,rfl,hc⟩,hq.lo⟩
  have key2:∀ q:eH,mE s t q→mE s t { q with cLow:=(i:Int)+1 }:=fun q hq=>⟨hq.s,hq.typ,hq.hi,.inr ⟨i,rfl,hc⟩⟩
  have key3:∀ q:eH,mE s t q→mE s t { q with sec:=(i:Int) }:=fun q hq=>⟨hq.s,hq.typ,hq.hi,hq.lo⟩
  have hq:mE s t (if 0 < d.ld then mId E d.p comp i d.ld nd true else d.p):=by
   split
   ·exact h.same (rJ _ _ _ _ _ _ _)
   exact h
  have h1:mE s t (if d.p.cHigh = -1 then { (if 0 < d.ld then mId E d.p comp i d.ld nd true else d.p) with cHigh:=(i:Int)+1 } else if d.p.cLow = -1 then { d.p with cLow:=(i:Int)+1 } else d.p):=by
   split
   ·exact key _ hq
   split
   ·exact key2 _ h
   exact h
  simp only;split
  ·exact key3 _ h1
  exact h1
 exact h
theorem mE.loop {E:Env} {s comp:ByteArray} {t:Int} {sk:List Nat} {nd:Int}:∀ (i:Nat) (d:DoV),mE s t d.p→mE s t (jG E comp sk nd i d).p
 | 0,_,h=>h
 | i+1,d,h=>by unfold jG;exact mE.loop i _ h.step
theorem aFa (E:Env) (comp s:ByteArray):∃ (T:ByteArray) (d:DoV),T=⟨(gQ s.data.toList).toArray⟩∧L T=gQ (L s)∧gB E comp s=uA E comp d∧In2 T comp 0 d∧mE T (if fC T.data.toList fV then 7 else 0) d.p∧d=rN E comp (jA { fR with comp:=comp } T):=by
 obtain ⟨T,hT⟩:∃ T:ByteArray,⟨(gQ s.data.toList).toArray⟩=T:=⟨_,rfl⟩
 have hl:L T=gQ (L s):=by rw[← hT];exact jP _
 have h0:T.data.toList[0]? = some 47:=by show (L T)[0]? = _;rw[hl,← List.head?_eq_getElem?];exact mText_head _
 have hI:In1 T comp T.size ⟨jA { fR with comp:=comp } T,0,0⟩:=In1.start rfl rfl rfl rfl rfl rfl rfl rfl rfl rfl rfl rfl rfl;have h2:=(InD.loop (E:=E) (sk:=mB T.data.toList) (nd:=rC T.data.toList) h0 T.size _ (Nat.le_refl _) (.inl hI)).last h0
 have hk:mE T (if fC T.data.toList fV then 7 else 0) (jA { fR with comp:=comp } T):=⟨rfl,rfl,.inl rfl,.inl rfl⟩
 refine ⟨T,_,hT.symm,hl,?_,h2,mE.loop (E:=E) (comp:=comp) (sk:=mB T.data.toList) (nd:=rC T.data.toList) T.size ⟨jA { fR with comp:=comp } T,0,0⟩ hk,rfl⟩;unfold gB mDo;rw[hT];rfl
theorem aK4 (s:ByteArray) (a:Nat):L (frm s (a:Int))=(L s).drop a:=by
 show L (s.extract (a:Int).toNat s.size)=_;rw[eQ,Int.toNat_natCast];exact List.take_of_length_le (by rw[List.length_drop,eG];omega)
end Go.Proofs.YtcdgldnphhidlaaGreatDoor.Path
