/- Texts that the law leans on: ReTyped. Condition: as told at each. -/
import Derived.Test.YtlkoeeccebmjmaaGreatDoorXa
import Derived.Test.YtlkoeeccebmjmaaGreatDoorX17
set_option linter.unusedVariables false
set_option linter.unusedSimpArgs false
set_option maxRecDepth 100000
set_option maxHeartbeats 16000000
namespace Go.Proofs.YtlkoeeccebmjmaaGreatDoor.Path
open Go.RowKit Go.WideMaps Go.ZW.PrintWords Go.Proofs.YtlkoeeccebmjmaaGreatDoor.Base Go.Proofs.YtlkoeeccebmjmaaGreatDoor.Lower Go.Proofs.YtlkoeeccebmjmaaGreatDoor.Total
section
variable {st:fF} {T:ByteArray} {q:Nat} {n:List UInt8} {p:eE} {r:RV} {e sc:Nat} {t:Int}
theorem PW.secs (P:PW st T q n p r e sc t) (ht:p.trim=false) :
 (p.sec = -1∧iT p=⟨#[]⟩∧jG ((L T).drop 1)=0)∨(p.sec=0∧iT p=⟨#[]⟩∧jG ((L T).drop 1)=1∧t=3) ∨
 ∃ f:Nat,p.sec=(f:Int)∧2≤f∧f≤q∧(iT p).size+1=f:=by
 obtain ⟨pre,S,hp⟩:=P.split;obtain ⟨c1,c2⟩:=wL S hp P.head;have hlen:(L T).length=q+1+n.length:=by rw[S.eq,List.length_append,hp]
 by_cases h0:q=0
 ·left;have h1:cntF (L T) q=0:=c2.2 h0
  have hs:p.sec = -1:=by
   rw[P.sec,if_neg (by rintro ⟨_,h⟩;have:=P.sc;omega),h0,if_neg (by omega:¬ 0 < 0)];rfl
  refine ⟨hs,?_,by rw[c1,h1]⟩;unfold iT;rw[if_pos (by rw[hs];decide)];rfl
 obtain ⟨f,f1,f2,f3,f4,f5⟩:=vW (l:=L T) q q (Nat.le_refl _) bA P.h47 (fun j a b c=>by omega)
 by_cases h3:t=3∧sc=2
 ·right;left;have hs:p.sec=0:=by rw[P.sec,if_pos h3]
  refine ⟨hs,?_,by have:=P.sc;omega,h3.1⟩;unfold iT;rw[if_pos (by rw[hs];decide)];rfl
 right;right;have hs:p.sec=(f:Int):=by rw[P.sec,if_neg h3,if_pos bA,f1]
 have hf:f≠1:=by rintro rfl;exact P.no 0 ⟨P.head,f4⟩
 refine ⟨f,hs,aM,f3,?_⟩;unfold iT;rw[if_neg (by rw[hs];omega),hs,ht,show (1:Int)=((1:Nat):Int) from rfl,iW,P.s];show (T.extract 1 f).size+1=f;rw[ByteArray.size_extract];have:(L T).length=T.size:=eD T;omega
theorem aGy (s:ByteArray) (h:Int) (h0:0≤h) (h1:h≤s.size):(sub s 0 h).size=h.toNat:=by
 unfold sub;rw[ByteArray.size_extract];omega
theorem PW.base_long (P:PW st T q n p r e sc t) (ht:p.trim=false) (O:hU p) (h2:2≤q):q≤(iV p).size:=by
 obtain ⟨pre,S,hp⟩:=P.split;have hlen:(L T).length=q+1+n.length:=by rw[S.eq,List.length_append,hp]
 have hsz:p.s.size=q+1+n.length:=by rw[P.s,← eD];exact hlen
 have hn:=P.nHigh;have hc:=P.cHigh;have hle:=P.le
 have key:∀ a b,q≤(iS p a b).size:=by
  intro a b
  have hm:(q:Int)≤jT p b∧jT p b≤p.s.size:=by
   unfold jT;cases b
   ·simp only[Bool.false_eq_true,if_false];rw[if_neg bA,hn];omega
   simp only[if_true];rw[if_neg bA,hc];omega
  have hs0:=aGy p.s (jT p b) bA hm.2;unfold iS;rw[ht];split
  ·show q≤p.s.size;omega
  split
  ·show q≤p.s.size;omega
  split
  ·show q≤(sub p.s 0 (jT p b)++_).size;rw[ByteArray.size_append,hs0];omega
  show q≤(sub p.s 0 (jT p b)).size;rw[hs0];omega
 unfold iV;split
 ·rename_i h
  have h9:=key (!decide (2≤p.typ∧p.typ≤5)) (decide (3≤p.typ∧p.typ≤5));have h8:=congrArg List.length h.1;rw[L_toList,eD] at h8;change _=1 at h8;omega
 exact key _ _
end
def mRe (p:eE) (typ:ByteArray):ByteArray :=
 if typ=⟨#[]⟩∨iT p=typ then iV p
 else nrm p.trim (⟨#[47]⟩++typ++(if p.sec = -1 then ⟨#[]⟩ else (iV p).extract p.sec.toNat (iV p).size))
def sRe (t:gN) (typ:ByteArray):ByteArray :=
 if typ=⟨#[]⟩∨typ=t.section_ then t.base
 else if t.section_≠⟨#[]⟩ then ⟨#[47]⟩++typ++t.base.extract (t.section_.size+1) t.base.size
 else if t.isLeaf=true∧jG ((L t.path).drop 1)=1 then ⟨#[47]⟩++typ++t.base
 else ⟨#[47]⟩++typ
theorem aEd (a:ByteArray):a++⟨#[]⟩=a:=L_inj (by rw[lY];exact List.append_nil _)
theorem aIr (a:ByteArray):a.extract 0 a.size=a:=L_inj (by rw[eN,List.drop_zero,Nat.sub_zero,← eD];exact List.take_length)
theorem aJy {st:fF} {comp s:ByteArray} {p:eE} (K:pE st comp s) (hp:gI (eH st) comp (norm s)=p) (O:hU p) (typ:ByteArray) :
 mRe p typ=sRe (kA p) typ∧(p.sec = -1∨(0≤p.sec∧p.sec≤(iV p).size))∧(iT p≠⟨#[]⟩→(iT p).size+1≤(iV p).size)∧p.trim=false:=by
 have W:=K.low;unfold pathOf at W;simp only[Bool.false_eq_true,if_false] at W;rw[jQ] at W;obtain ⟨T,q,n,e,sc,hT,hn,P,ht,hc,htr⟩:=aIf (aIg K) comp (norm s) W (vB K.slashes);rw[hp] at P ht hc htr;have hs:=P.s;have hpath:(kA p).path=T:=by show nrm p.trim p.s=T;rw[htr,hs];rfl
 have hleaf:(kA p).isLeaf=(p.typ==3):=rfl;have hns:∀ x,nrm p.trim (⟨#[47]⟩++typ++x)=⟨#[47]⟩++typ++x:=by intro x;rw[htr];rfl
 rcases P.secs htr with ⟨a1,a2,a3⟩ | ⟨a1,a2,a3,a4⟩ | ⟨f,a1,a2,a3,a4⟩
 ·refine ⟨?_,.inl a1,fun h=>absurd a2 h,htr⟩;unfold mRe sRe;rw[show (kA p).section_=iT p from rfl,show (kA p).base=iV p from rfl,hpath,a2,a3,hns,if_pos a1,aEd]
  by_cases c:typ=⟨#[]⟩
  ·rw[if_pos (.inl c),if_pos (.inl c)]
  rw[if_neg (by rintro (h | h);exact c h;exact c h.symm),if_neg (by rintro (h | h) <;> exact c h),if_neg bJ,if_neg (by rintro ⟨_,h⟩;cases h)]
 ·refine ⟨?_,.inr ⟨aM,aM⟩,fun h=>absurd a2 h,htr⟩;unfold mRe sRe
  have hsec:(if p.sec = -1 then (⟨#[]⟩:ByteArray) else (iV p).extract p.sec.toNat (iV p).size)=iV p:=by
   rw[if_neg (by rw[a1];decide),a1];exact aIr _
  rw[show (kA p).section_=iT p from rfl,show (kA p).base=iV p from rfl,hpath,a2,a3,hns,hsec,hleaf];have h3:(p.typ==3)=true:=by rw[ht,a4];rfl
  by_cases c:typ=⟨#[]⟩
  ·rw[if_pos (.inl c),if_pos (.inl c)]
  rw[if_neg (by rintro (h | h);exact c h;exact c h.symm),if_neg (by rintro (h | h) <;> exact c h),if_neg bJ,if_pos ⟨h3,rfl⟩]
 have hb:=P.base_long htr O bA;have hne:iT p≠⟨#[]⟩:=by intro h;rw[h] at a4;change 0+1=f at a4;omega
 refine ⟨?_,.inr ⟨aM,aM⟩,fun _=>by omega,htr⟩;unfold mRe sRe
 have hsec:(if p.sec = -1 then (⟨#[]⟩:ByteArray) else (iV p).extract p.sec.toNat (iV p).size)=(iV p).extract f (iV p).size:=by
  rw[if_neg (by rw[a1];omega),a1];rfl
 rw[show (kA p).section_=iT p from rfl,show (kA p).base=iV p from rfl,hns,hsec,a4]
 by_cases c:typ=⟨#[]⟩∨iT p=typ
 ·rw[if_pos c,if_pos (c.imp id Eq.symm)]
 rw[if_neg c,if_neg (fun h=>c (h.imp id Eq.symm)),if_pos hne]
end Go.Proofs.YtlkoeeccebmjmaaGreatDoor.Path
