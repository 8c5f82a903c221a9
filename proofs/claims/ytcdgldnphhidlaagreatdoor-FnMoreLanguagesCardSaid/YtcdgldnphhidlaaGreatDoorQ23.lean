/- Texts that the law leans on: Holds, Pt, Facts, Same. Condition: as told at each. -/
import Derived.Test.YtcdgldnphhidlaaGreatDoorQa
import Derived.Test.YtcdgldnphhidlaaGreatDoorQ22
set_option linter.unusedVariables false
set_option linter.unusedSimpArgs false
set_option maxRecDepth 100000
set_option maxHeartbeats 16000000
namespace Go.Proofs.YtcdgldnphhidlaaGreatDoor.Ext
open Go.RowKit Go.ZW.PrintWords Go.Proofs.YtcdgldnphhidlaaGreatDoor.Base Go.Proofs.YtcdgldnphhidlaaGreatDoor.PCore
def inside (t:List UInt8):List UInt8→Bool
 | []=>t.isEmpty
 | c::r=>t.isPrefixOf (c::r) || inside t r
theorem sT (t:List UInt8):∀ l:List UInt8,l.length < t.length→inside t l=false
 | [],h=>by cases t with | nil=>simp at h | cons=>rfl
 | c::r,h=>by
  have h1:t.isPrefixOf (c::r)=false:=by
   rw[Bool.eq_false_iff];intro hp;have:=(List.isPrefixOf_iff_prefix.1 hp).length_le;omega
  simp only[inside,h1,Bool.false_or];exact sT t r (by simp at h;omega)
theorem pP (t l:List UInt8):t.isPrefixOf l=decide (l.take t.length=t):=by
 rw[Bool.eq_iff_iff,List.isPrefixOf_iff_prefix,decide_eq_true_iff];constructor
 ·rintro ⟨u,rfl⟩;simp
 intro h;rw[← h];exact List.take_prefix _ _
theorem uX (s:ByteArray) (i n:Nat):(s.extract i (i+n)).toList=((L s).drop i).take n:=by
 rw[L_toList,eQ];congr 1;omega
theorem aEz (s t:ByteArray) (hs:s.size≤140737488355328) (ht:t.size≤140737488355328) (ht0:0 < t.size) (d:Nat):∀ i:Nat,s.size - i=d→i≤s.size→Ev (fun k=>gF.l0 k s t i) (inside (L t) ((L s).drop i)):=by
 have hl:=eG s;have hlt:=eG t
 induction d with
 | zero =>
  intro i h1 h2;rw[sT (L t) _ (by simp;omega)];refine Ev.step (f:=fun _=>some false) (fun k=>?_) (Ev.now _);simp only[gF.l0];rw[if_neg bT]
 | succ d ih =>
  intro i h1 h2
  by_cases hfit:i+t.size≤s.size
  ·have hi:i < (L s).length:=by omega
   have e:(L s).drop i=(L s)[i]::(L s).drop (i+1):=List.drop_eq_getElem_cons hi;have hx:(s.extract i (i+t.size)).toList=((L s).drop i).take (L t).length:=by rw[uX,hlt]
   by_cases h:((L s).drop i).take (L t).length=L t
   ·have e2:inside (L t) ((L s).drop i)=true:=by
     have:(L t).isPrefixOf ((L s)[i]::(L s).drop (i+1))=true:=by rw[pP,← e];simpa using h
     rw[e];simp only[inside,this,Bool.true_or]
    rw[e2];refine Ev.step (f:=fun _=>some true) (fun k=>?_) (Ev.now _);simp only[gF.l0];rw[w64 (n:=(i:Int)+t.size) bA bA,if_pos bA,if_pos bA,if_pos bA];rw[show ((i:Int)+(t.size:Int)).toNat=i+t.size from by omega,show ((i:Nat):Int).toNat=i from by omega,hx,if_pos (by rw[h,L_toList])]
   have e2:inside (L t) ((L s).drop i)=inside (L t) ((L s).drop (i+1)):=by
    have:(L t).isPrefixOf ((L s)[i]::(L s).drop (i+1))=false:=by rw[pP,← e];simpa using h
    rw[e];simp only[inside,this,Bool.false_or]
   rw[e2];refine Ev.step (f:=fun k=>gF.l0 k s t ((i+1:Nat):Int)) (fun k=>?_) (ih (i+1) bA bA);simp only[gF.l0];rw[w64 (n:=(i:Int)+t.size) bA bA,if_pos bA,if_pos bA,if_pos bA];rw[show ((i:Int)+(t.size:Int)).toNat=i+t.size from by omega,show ((i:Nat):Int).toNat=i from by omega,hx,if_neg (by rw[L_toList];exact h),w64 bA bA];rfl
  rw[sT (L t) _ (by simp;omega)];refine Ev.step (f:=fun _=>some false) (fun k=>?_) (Ev.now _);simp only[gF.l0];rw[if_neg bT]
theorem aIv (s t:ByteArray) (hs:s.size≤140737488355328) (ht:t.size≤140737488355328) (ht0:0 < t.size):Ev (fun k=>gF.f k s t) (inside (L t) (L s)):=by
 have h:=aEz s t hs ht ht0 s.size 0 bA bA;exact h
open Go.RowKit Go.ZW.PrintWords Go.Proofs.YtcdgldnphhidlaaGreatDoor.Base
def ptR:List UInt8→Bool
 | []=>false
 | c::r=>if c=46 then true else if c=47 then false else ptR r
def ext (l:List UInt8):Bool:=ptR l.reverse
end Go.Proofs.YtcdgldnphhidlaaGreatDoor.Ext
namespace Go.Proofs.YtcdgldnphhidlaaGreatDoor.Path
open Go.RowKit Go.ZW.PrintWords Go.Proofs.YtcdgldnphhidlaaGreatDoor.Base Go.Proofs.YtcdgldnphhidlaaGreatDoor.Total Go.Proofs.YtcdgldnphhidlaaGreatDoor.Lower Go.Proofs.YtcdgldnphhidlaaGreatDoor.Ext
theorem aKu {st:eW} {comp s:ByteArray} {p:eH} (K:lF st comp s) (hp:gB (eJ st) comp (norm s)=p):∃ (T:ByteArray) (q:Nat) (n:List UInt8) (e sc:Nat) (r:RV),PW st T q n p r e sc p.typ∧p.trim=false∧p.comp=comp ∧
 r=fW st comp (fC (L T) fV) (lastB T) (eS n)∧L T=gQ (L (norm s)):=by
 have W:=K.low;unfold pathOf at W;simp only[Bool.false_eq_true,if_false] at W;rw[jP] at W;obtain ⟨T,q,n,e,sc,hT,hn,P,ht,hc,htr⟩:=aJu (aG6 K) comp (norm s) W (xC K.slashes);rw[hp] at P ht hc htr;rw[← ht] at P;exact ⟨T,q,n,e,sc,_,P,htr,hc,rfl,by rw[hT,jP]⟩
open Go.RowKit Go.ZW.PrintWords Go.Proofs.YtcdgldnphhidlaaGreatDoor.Base Go.Proofs.YtcdgldnphhidlaaGreatDoor.Lower
theorem aJ9 (c:UInt8):gZ (gZ c)=gZ c:=by
 by_cases h:65≤c.toNat∧c.toNat≤90
 ·have e1:gZ c=c+32:=by unfold gZ;rw[if_pos h]
  have e2:(c+32).toNat=c.toNat+32:=by
   rw[UInt8.toNat_add,show (32:UInt8).toNat=32 from rfl];omega
  rw[e1];unfold gZ;rw[if_neg (by rw[e2];omega)]
 have e1:gZ c=c:=by unfold gZ;rw[if_neg h]
 rw[e1,e1]
def eH.as (c:ByteArray) (p:eH):eH:={ p with comp:=c }
section
variable {E:Env} {c k:ByteArray} (h1:eR c=eR k) (h2:kA c=kA k)
include h1 h2 in
include h1 h2 in
def DoV.as (c:ByteArray) (d:DoV):DoV:={ d with p:=d.p.as c }
include h1 h2 in
include h1 h2 in
include h1 in
include h1 h2 in
end
end Go.Proofs.YtcdgldnphhidlaaGreatDoor.Path
