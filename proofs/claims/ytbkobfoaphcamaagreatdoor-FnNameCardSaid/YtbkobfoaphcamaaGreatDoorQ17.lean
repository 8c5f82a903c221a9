/- Texts that the law leans on: MPath, Index, Norm, Parse, Ids, Acc5, Told, ToldWalk, Impl, Asc. Condition: as told at each. -/
import Derived.Deep.MidRow
import Derived.Lib.LazyBuf
import Derived.Test.YtbkobfoaphcamaaGreatDoorQa
import Derived.Test.YtbkobfoaphcamaaGreatDoorQ16
set_option linter.unusedVariables false
set_option linter.unusedSimpArgs false
namespace Go.Proofs.YtbkobfoaphcamaaGreatDoor.Path
open Go.RowKit Go.Proofs.YtbkobfoaphcamaaGreatDoorW.PrintWords Go.Proofs.YtbkobfoaphcamaaGreatDoor.Base
def jN (E:Env) (comp s:ByteArray):eQ:=mDo E comp s { gJ with comp:=comp }
theorem aB6 (E:Env) (comp s:ByteArray) (hs:s.size≤900000):iL (jN E comp s)∧-1≤(jN E comp s).fmt∧-1≤(jN E comp s).lang:=by
 obtain ⟨T,hT⟩:∃ T:ByteArray,⟨(iJ s.data.toList).toArray⟩=T:=⟨_,rfl⟩
 have hl:L T=iJ (L s):=by rw[← hT];exact kR _
 have h0:T.data.toList[0]? = some 47:=by show (L T)[0]? = _;rw[hl,← List.head?_eq_getElem?];exact mText_head _
 have hz:T.size≤1000000:=by have:=mText_length (L s);rw[← eN,hl];have:=eN s;omega
 have hI:In1 T comp T.size ⟨jV { gJ with comp:=comp } T,0,0⟩:=In1.start rfl rfl rfl rfl rfl rfl rfl rfl rfl rfl rfl rfl rfl;have h2:=(InD.loop (E:=E) (sk:=lV T.data.toList) (nd:=qV T.data.toList) h0 T.size _ (Nat.le_refl _) (.inl hI)).last h0;have h3:=h2.fin (E:=E) hz;unfold jN mDo;rw[hT];exact h3
end Go.Proofs.YtbkobfoaphcamaaGreatDoor.Path
namespace Go.Proofs.YtbkobfoaphcamaaGreatDoor.Index
open Go.RowKit Go.Proofs.YtbkobfoaphcamaaGreatDoorW.PrintWords Go.Proofs.YtbkobfoaphcamaaGreatDoor.Base Go.Proofs.YtbkobfoaphcamaaGreatDoor.PCore
def idx (t:List UInt8):List UInt8→Option Nat
 | []=>if t.isEmpty then some 0 else none
 | c::r=>if t.isPrefixOf (c::r) then some 0 else (idx t r).map (· + 1)
def zD:Option Nat→Int
 | none=>-1
 | some n=>n
theorem uP (t:List UInt8):∀ l:List UInt8,l.length < t.length→idx t l=none
 | [],h=>by cases t with | nil=>simp at h | cons=>rfl
 | c::r,h=>by
  have h1:t.isPrefixOf (c::r)=false:=by
   rw[Bool.eq_false_iff];intro hp;have:=(List.isPrefixOf_iff_prefix.1 hp).length_le;omega
  simp only[idx,h1];rw[uP t r (by simp at h;omega)];rfl
theorem wL (t l:List UInt8):t.isPrefixOf l=decide (l.take t.length=t):=by
 rw[Bool.eq_iff_iff,List.isPrefixOf_iff_prefix,decide_eq_true_iff];constructor
 ·rintro ⟨u,rfl⟩;simp
 intro h;rw[← h];exact List.take_prefix _ _
theorem aEn (s:ByteArray) (i n:Nat):(s.extract i (i+n)).toList=((L s).drop i).take n:=by
 rw[L_toList,eX];congr 1;omega
theorem aAp (s t:ByteArray) (hs:s.size≤140737488355328) (ht:t.size≤140737488355328) (ht0:0 < t.size) (d:Nat):∀ i:Nat,s.size - i=d→i≤s.size →
 Ev (fun k=>fJ.l0 k s t i) (zD ((idx (L t) ((L s).drop i)).map (· + i))):=by
 have hl:=eN s;have hlt:=eN t
 induction d with
 | zero =>
  intro i h1 h2;rw[uP (L t) _ (by simp;omega)];refine Ev.step (f:=fun _=>some (-1)) (fun k=>?_) (Ev.now _);simp only[fJ.l0];rw[if_neg (by rw[w64 bA bA];omega)]
 | succ d ih =>
  intro i h1 h2
  by_cases hfit:i+t.size≤s.size
  ·have hi:i < (L s).length:=by omega
   have e:(L s).drop i=(L s)[i]::(L s).drop (i+1):=List.drop_eq_getElem_cons hi;have hx:(s.extract i (i+t.size)).toList=((L s).drop i).take (L t).length:=by rw[aEn,hlt]
   by_cases h:((L s).drop i).take (L t).length=L t
   ·have e2:idx (L t) ((L s).drop i)=some 0:=by
     have:(L t).isPrefixOf ((L s)[i]::(L s).drop (i+1))=true:=by rw[wL,← e];simpa using h
     rw[e];simp only[idx,this,if_true]
    rw[e2];refine Ev.step (f:=fun _=>some (i:Int)) (fun k=>?_) (by simpa [zD] using Ev.now (i:Int));simp only[fJ.l0];rw[w64 (n:=(i:Int)+t.size) bA bA,if_pos bA,if_pos bA,if_pos bA];rw[show ((i:Int)+(t.size:Int)).toNat=i+t.size from by omega,show ((i:Nat):Int).toNat=i from by omega,hx,if_pos (by rw[h,L_toList])]
   have e2:idx (L t) ((L s).drop i)=(idx (L t) ((L s).drop (i+1))).map (· + 1):=by
    have:(L t).isPrefixOf ((L s)[i]::(L s).drop (i+1))=false:=by rw[wL,← e];simpa using h
    rw[e];simp only[idx,this];rfl
   have e3:(idx (L t) ((L s).drop i)).map (· + i)=(idx (L t) ((L s).drop (i+1))).map (· + (i+1)):=by
    rw[e2,Option.map_map];congr 1;funext x;simp only[Function.comp];omega
   rw[e3];refine Ev.step (f:=fun k=>fJ.l0 k s t ((i+1:Nat):Int)) (fun k=>?_) (ih (i+1) bA bA);simp only[fJ.l0];rw[w64 (n:=(i:Int)+t.size) bA bA,if_pos bA,if_pos bA,if_pos bA];rw[show ((i:Int)+(t.size:Int)).toNat=i+t.size from by omega,show ((i:Nat):Int).toNat=i from by omega,hx,if_neg (by rw[L_toList];exact h),w64 bA bA];rfl
  rw[uP (L t) _ (by simp;omega)];refine Ev.step (f:=fun _=>some (-1)) (fun k=>?_) (Ev.now _);simp only[fJ.l0];rw[if_neg (by rw[w64 bA bA];omega)]
theorem aEm (s t:ByteArray) (hs:s.size≤140737488355328) (ht:t.size≤140737488355328) (ht0:0 < t.size):Ev (fun k=>fJ.f k s t) (zD (idx (L t) (L s))):=by
 have h:=aAp s t hs ht ht0 s.size 0 bA bA;simp only[List.drop_zero,Nat.add_zero] at h;have e:(idx (L t) (L s)).map (fun x=>x)=idx (L t) (L s):=by cases idx (L t) (L s) <;> rfl
 rw[e] at h;exact h
theorem yN (s t:ByteArray) (r:Int) (w:World) (hs:s.size≤140737488355328) (ht:t.size≤140737488355328) (ht0:0 < t.size) (hr:zD (idx (L t) (L s))=r) :
 Calls Tryz.prog 134 #[.string s,.string t] w fun e w'=>e = .returned (.int .i64 r)∧fD w w':=by
 obtain ⟨k,hk⟩:=(aEm s t hs ht ht0).rounds;exact fJ.calls k s t r w (by rw[hk,hr])
theorem idx_one (c:UInt8):∀ l:List UInt8,(idx [c] l=none∧∀ x∈l,x≠c)∨∃ n,idx [c] l=some n∧n < l.length∧l=l.take n++c::l.drop (n+1)∧∀ x∈l.take n,x≠c
 | []=>.inl ⟨rfl,eB⟩
 | a::r=>by
  by_cases h:a=c
  ·subst h;exact .inr ⟨0,by simp[idx,List.isPrefixOf],eB,eB,eB⟩
  have hp:List.isPrefixOf [c] (a::r)=false:=by simp[List.isPrefixOf];exact fun e=>h e.symm
  rcases idx_one c r with ⟨h1,h2⟩ | ⟨n,h1,h2,h3,h4⟩
  ·left;refine ⟨by simp[idx,hp,h1],?_⟩;intro x hx;rcases List.mem_cons.1 hx with rfl | hx
   ·exact h
   exact h2 x hx
  right;refine ⟨n+1,by simp[idx,hp,h1],by simp;omega,?_,?_⟩
  ·simp only[List.take_succ_cons,List.drop_succ_cons,List.cons_append];congr 1
  intro x hx;simp only[List.take_succ_cons,List.mem_cons] at hx;rcases hx with rfl | hx
  ·exact h
  exact h4 x hx
end Go.Proofs.YtbkobfoaphcamaaGreatDoor.Index
namespace Go.Proofs.YtbkobfoaphcamaaGreatDoor.Norm
open Go.RowKit Go.Proofs.YtbkobfoaphcamaaGreatDoorW.PrintWords Go.Proofs.YtbkobfoaphcamaaGreatDoor.Base Go.Proofs.YtbkobfoaphcamaaGreatDoor.Lower Go.Proofs.YtbkobfoaphcamaaGreatDoor.Index
theorem oL (a b:ByteArray):bytesOf (a++b)=bytesOf a++bytesOf b:=by simp[bytesOf]
theorem aDw (a:ByteArray):strOfNums (bytesOf a)=a:=by
 apply L_inj;have e:L (strOfNums (bytesOf a))=(bytesOf a).map fun n=>UInt8.ofNat n.toNat:=strOfNums_data _;rw[e,bytesOf,List.map_map]
 conv=>rhs;rw[← List.map_id (L a)]
 refine List.map_congr_left fun b _=>?_
 simp
theorem aBv (l:List UInt8) (h:∀ x∈l,x≠32):l.map lY=l:=by
 conv=>rhs;rw[← List.map_id l]
 refine List.map_congr_left fun b hb=>?_;unfold lY;rw[if_neg (h b hb)];rfl
theorem info5:(Tryz.prog.info? 5).map (fun i=>(i.zero,i.size,i.bytes))=some (some (.int .u8 0),1,1):=by kernel_rfl
def strLen:Value→Nat
 | .string r=>r.size
 | _=>0
set_option maxHeartbeats 800000 in
theorem aAw (s:ByteArray) (w:World) (hs:s.size≤140737488351232) :
 Calls Tryz.prog 116 #[.string s,.string ⟨#[32]⟩,.string ⟨#[45]⟩] w fun e w'=>e = .returned (.string (hyp s))∧Below w.heap.size w w':=by
 have hinf:=info5;have HINF:=cD hinf;clear hinf;go_enter Tryz.func116,Tryz.ntmps116;go_wp2_with fail
 go_loopw [0,7] (fun sv ov wr=>∃ (rest done:ByteArray),sv = .string rest∧Aside0 (wr.ownsRow w.heap.size 5 1 ov (bytesOf done).length (nums .u8 (bytesOf done)))∧Aside0 (L done++(L rest).map lY=(L s).map lY)∧done.size+rest.size≤140737488351232∧Aside0 (Below w.heap.size w wr))
  (fun sv _ _=>strLen sv)
 case atStart=>exact ⟨s,ByteArray.empty,rfl,⟨rE _ _ _ _⟩,⟨by simp[L]⟩,by simp;exact hs,⟨Below.refl _ _⟩⟩
 case round =>
  obtain ⟨rest,done,rfl,HO,HT,hsz,HB⟩:=hrel;have hl:=eN rest;have hld:(bytesOf done).length=done.size:=bytesOf_length done;have hb:=HB.out.size;rcases idx_one 32 (L rest) with ⟨h1,h2⟩ | ⟨n,h1,h2,h3,h4⟩
  ·have e:hyp s=done++rest:=by
    apply L_inj;rw[aD9,← HT.out,nH,aBv _ h2]
   have HE:=cD e;have hz:=fun w=>yN rest ⟨#[32]⟩ (-1) w bA bF bF (by show zD (idx [32] (L rest)) = -1;rw[h1];rfl);have HLD:=cD hld;clear e h1 h2 hld hl;go_wp2_with fail
   (with_reducible refine (hz _).mono ?_)
   rintro e w' ⟨rfl,⟨nd,rfl⟩⟩
   go_wp2_with (at_builtin;refine pH (w0:=w) w.heap.size rfl _ _ 81 9 5 rfl Tryz.underlying81 Tryz.underlying9 HINF.out _ (bytesOf done) rest rfl rfl (vB HO.out _) ?hb ?hs ?hz ?_)
   case hb=>exact pN HB.out hb (fD.below ⟨⟨_,rfl⟩⟩)
   case hs=>simpa using hb
   case hz=>rw[HLD.out];omega
   intro v1 w1 ho1 hb1 hg1;have hstr:=aE2 (P:=Tryz.prog) (src:=81) (dst:=9) Tryz.underlying81 Tryz.underlying5 Tryz.underlying9 ho1;have HO1:=cD ho1;have HB1:=cD hb1;clear ho1 hb1 hg1;obtain ⟨A1,c1,rfl⟩:=fX HO1.out;go_wp2_with fail
   go_ret;exact ⟨by rw[HE.out,← aDw (done++rest),oL];rfl,HB1.out⟩
  have hn:n < rest.size:=by omega
  have hz:=fun w=>yN rest ⟨#[32]⟩ n w bA bF bF (by show zD (idx [32] (L rest))=n;rw[h1];rfl);have es1:(rest.extract 0 n).size=n:=by rw[← eN,eX];simp;omega
  have es2:(rest.extract (n+1) rest.size).size=rest.size - (n+1):=by rw[← eN,eX];simp;omega
  have eL:L ((done++rest.extract 0 n)++(⟨#[45]⟩:ByteArray))++(L (rest.extract (n+1) rest.size)).map lY=(L s).map lY:=by
   rw[← HT.out,nH,nH,eX,eX];simp only[List.drop_zero,Nat.sub_zero];rw[List.take_of_length_le (l:=(L rest).drop (n+1)) (by simp;omega)]
   conv=>rhs;rw[h3]
   rw[List.map_append,aBv _ h4,List.map_cons];simp only[List.append_assoc];rfl
  have HE:=cD eL;have HS1:=cD es1;have HS2:=cD es2;have HLD:=cD hld;clear h1 h2 h3 h4 hld hl eL es1 es2;go_wp2_with fail
  (with_reducible refine (hz _).mono ?_)
  rintro e w' ⟨rfl,⟨nd,rfl⟩⟩
  go_wp2_with (at_builtin;refine pH (w0:=w) w.heap.size rfl _ _ 81 9 5 rfl Tryz.underlying81 Tryz.underlying9 HINF.out _ (bytesOf done) (rest.extract 0 n) rfl rfl (vB HO.out _) ?hb ?hs ?hz ?_)
  case hb=>exact pN HB.out hb (fD.below ⟨⟨_,rfl⟩⟩)
  case hs=>simpa using hb
  case hz=>rw[HLD.out,HS1.out];omega
  intro v1 w1 ho1 hb1 hg1;have hsz1:w.heap.size≤w1.heap.size:=hb1.size
  obtain ⟨xs1,hx1⟩:∃ xs1,bytesOf done++bytesOf (rest.extract 0 n)=xs1:=⟨_,rfl⟩
  try rw[← List.length_append] at ho1
  rw[hx1] at ho1;have HX1:=cD hx1;clear hx1;have HO1:=cD ho1;have HB1:=cD hb1;clear ho1 hb1 hg1
  go_wp2_with (at_builtin;refine pH (w0:=w) w.heap.size rfl _ _ 81 9 5 rfl Tryz.underlying81 Tryz.underlying9 HINF.out _ xs1 ⟨#[45]⟩ rfl rfl HO1.out HB1.out ?hs2 ?hz2 ?_)
  case hs2=>exact hsz1
  case hz2=>rw[← HX1.out,← oL,bytesOf_length,size_append,HS1.out];show _+1≤_;omega
  intro v2 w2 ho2 hb2 hg2;have HO2:=cD ho2;have HB2:=cD hb2;clear ho2 hb2 hg2;obtain ⟨A2,c2,rfl⟩:=fX HO2.out;go_wp2_with fail
  go_roundw
  case rel =>
   refine ⟨rest.extract (n+1) rest.size,(done++rest.extract 0 n)++(⟨#[45]⟩:ByteArray),rfl,⟨?_⟩,HE,?_,HB2⟩
   ·rw[oL,oL,HX1.out];simpa using HO2.out
   rw[size_append,size_append,HS1.out,HS2.out];show _+1+_≤_;omega
  case measure=>simp[strLen];omega
theorem tK (s:ByteArray) (w:World) (hs:s.size≤140737488351232) (ha:∀ c∈L s,c.toNat≤127) :
 Calls Tryz.prog 105 #[.string s] w fun e w'=>e = .returned (.string (norm s))∧Below w.heap.size w w':=by
 have e:(⟨(Lib.toLowerA s.data.toList).toArray⟩:ByteArray)=low s:=by
  unfold low Lib.toLowerA;congr 2;refine List.map_congr_left fun c _=>?_;unfold Lib.lowerB Lib.isUpperB jK
  simp[UInt8.le_iff_toNat_le]
 have h1:=fun w=>Tryz.strings_ToLower_ascii s w bA (fun j b hb=>by have:=ha b (List.mem_of_getElem? hb);omega);rw[e] at h1;have hn:norm s=hyp (low s):=rfl;have HN:=cD hn;have hsz:(low s).size≤140737488351232:=by rw[pW];exact hs
 clear hn e;go_enter Tryz.func105,Tryz.ntmps105;go_wp2_with fail
 (with_reducible refine (h1 _).mono ?_)
 rintro e w1 ⟨rfl,HB1⟩;have HB1:=cD HB1;go_wp2_with fail
 (with_reducible refine (aAw (low s) _ hsz).mono ?_)
 rintro e w2 ⟨rfl,HB2⟩;have HB2:=cD HB2;go_wp2_with fail
 go_ret;exact ⟨by rw[HN.out];rfl,pN HB1.out HB1.out.size HB2.out⟩
end Go.Proofs.YtbkobfoaphcamaaGreatDoor.Norm
namespace Go.Proofs.YtbkobfoaphcamaaGreatDoor.Path
open Go.RowKit Go.WideMaps Go.Proofs.YtbkobfoaphcamaaGreatDoorW.PrintWords Go.Proofs.YtbkobfoaphcamaaGreatDoor.Base Go.Proofs.YtbkobfoaphcamaaGreatDoor.Lower Go.Proofs.YtbkobfoaphcamaaGreatDoor.Norm
theorem aHu {s:ByteArray} (h:asc s):∀ c∈L s,c.toNat≤127:=by
 intro c hc;obtain ⟨k,hk⟩:=List.mem_iff_getElem?.1 hc;have:=h k c hk;omega
theorem aGk {s:ByteArray} (h:asc s):asc (norm s):=by
 intro j c hc;have e:(norm s).data.toList=(L s).map fun c=>lY (jK c):=aFg s;rw[e,List.getElem?_map] at hc
 cases hx:(L s)[j]? with
 | none=>rw[hx] at hc;cases hc
 | some x =>
  rw[hx] at hc;injection hc with hc
  have hx2:=h j x hx
  have h1:(jK x).toNat < 128:=by
   unfold jK;split
   ·rename_i h1
    rw[UInt8.toNat_add];have:(32:UInt8).toNat=32:=rfl;omega
   exact hx2
  rw[← hc];show (if jK x=32 then (45:UInt8) else jK x).toNat < 128
  by_cases c:jK x=32
  ·rw[if_pos c];decide
  rw[if_neg c];exact h1
theorem eP.lower {w:World} {B B' b:Nat} {p:eQ} {vk vu vl u:Value} (H:eP w B b p vk vu vl u) (h:B'≤B):eP w B' b p vk vu vl u :=
 ⟨Nat.le_trans h H.base,H.row,pQ H.ok h,pQ H.ou h,pQ H.ol h,H.nk,H.nu,H.nl,H.ku⟩
def aA3 (w:World) (B:Nat) (E:Env) (comp s:ByteArray) (b ub:Nat) (vk vu vl:Value):Prop :=
 eP w B b (jN E comp (norm s)) vk vu vl (.pointer (some ⟨ub,0,none⟩))∧∃ vk2 vu2 vl2 u2,eP w B ub (jN E comp s) vk2 vu2 vl2 u2
theorem aA3.below {w w' : World} {B:Nat} {E:Env} {comp s:ByteArray} {b ub:Nat} {vk vu vl:Value} (H:aA3 w B E comp s b ub vk vu vl) (hb:Below w.heap.size w w'):aA3 w' B E comp s b ub vk vu vl:=by
 obtain ⟨h1,vk2,vu2,vl2,u2,h2⟩:=H;exact ⟨h1.below hb,vk2,vu2,vl2,u2,h2.below hb⟩
section
variable {w:World} {pb mb sb fb:Nat} {st:fP} {sl sd sf sc:Value}
set_option maxRecDepth 100000 in
set_option maxHeartbeats 4000000 in
theorem aDo (S:iZ w pb st sl sd sf sc mb sb fb) (OS:jT st) (comp s:ByteArray) (hs:s.size≤900000) (ha:asc s) :
 Calls Tryz.prog 81 #[.pointer (some ⟨pb,0,none⟩),.string comp,.string s] w fun e w' =>
  ∃ b ub vk vu vl,e = .returned (.tuple #[.pointer (some ⟨b,0,none⟩),.nilIface])∧aA3 w' w.heap.size (eS st) comp s b ub vk vu vl∧Below w.heap.size w w':=by
 have HS:=cD S;have cn:=tK s w bA (aHu ha);have hns:(norm s).size≤900000:=by rw[norm_size];exact hs
 have han:=aGk ha
 obtain ⟨t,ht⟩:∃ t,norm s=t:=⟨_,rfl⟩
 rw[ht] at cn hns han;have HT:=cD ht;have HA:=cD ha;have HAN:=cD han;clear S ha han ht;go_enter Tryz.func81,Tryz.ntmps81;go_wp2_with fail
 refine cn.mono ?_;rintro e w1 ⟨rfl,hb1⟩;have HS1:=cD (HS.out.below hb1);have HB1:=cD hb1;clear cn hb1;have cnew:=tW w1 (.pointer (some ⟨pb,0,none⟩)) comp;go_wp2_with fail
 refine cnew.mono ?_;rintro e w2 ⟨rfl,hp2,hb2⟩;have HP2:=cD hp2;have HB2:=cD hb2;have cd:=aBh HS1.out OS hb2 comp hp2 t hns HAN.out;clear cnew hp2 hb2;go_wp2_with fail
 refine cd.mono ?_;rintro e w3 ⟨rfl,vk,vu,vl,hp3,hm3⟩;have HP3:=cD hp3;have HB3:=cD (HB2.out.trans (fG.below HP2.out hm3));clear cd hp3 hm3
 obtain ⟨b1,hb1⟩:∃ b1,w1.heap.size=b1:=⟨_,rfl⟩
 have HBB:=cD hb1;rw[hb1] at HP3 HB3 ⊢;have hlt:=HP3.out.lt;have HLT:=cD hlt;clear hb1 hlt
 obtain ⟨z,hz⟩:∃ z,(s.toList==t.toList)=z:=⟨_,rfl⟩
 have hz2:(s.toList != t.toList) = !z:=by rw[bne,hz]
 have HZ:=cD hz;cases z
 ·have HS3:=cD (HS1.out.below (HBB.out▸HB3.out))
  have HB03:Aside0 (Below w.heap.size w w3):=⟨HB1.out.trans (HB3.out.mono (by rw[← HBB.out];exact HB1.out.size))⟩
  have cnew:=tW w3 (.pointer (some ⟨pb,0,none⟩)) comp;clear HP2 HB2;go_wp2_with fail
  refine cnew.mono ?_;rintro e w4 ⟨rfl,hp4,hb4⟩;have HP4:=cD hp4;have HB4:=cD hb4;have cd:=aBh HS3.out OS hb4 comp hp4 s hs HA.out;clear cnew hp4 hb4;have q25:=HP3.out.row.at 25 _ rfl;have f25:=HP3.out.row.free 25 bG;go_wp2_with fail
  refine cd.mono ?_;rintro e w5 ⟨rfl,vk2,vu2,vl2,hp5,hm5⟩;have HB5:=cD (HB4.out.trans (fG.below HP4.out hm5));have HP5:=cD (HP3.out.below HB5.out);have HQ5:=cD hp5;clear cd hp5 hm5 q25 f25;have q25:=HP5.out.row.at 25 _ rfl;have f25:=HP5.out.row.free 25 bG;go_wp2_with fail
  have hpa:=HP5.out.put 25 (.pointer (some ⟨w3.heap.size,0,none⟩)) (mDo (eS st) comp t { gJ with comp:=comp }) (.pointer (some ⟨w3.heap.size,0,none⟩)) rfl rfl rfl rfl bA;have hqa:eP (w5.setCell ⟨b1,25,none⟩ (.pointer (some ⟨w3.heap.size,0,none⟩))) w3.heap.size w3.heap.size (jN (eS st) comp s) vk2 vu2 vl2 (.pointer none):=HQ5.out.beside (a:=⟨b1,25,none⟩) (by have:=HLT.out;show w3.heap.size≠b1;omega) (pV HQ5.out.ok HLT.out) (pV HQ5.out.ou HLT.out) (pV HQ5.out.ol HLT.out) (.pointer (some ⟨w3.heap.size,0,none⟩));have hbz:Below w.heap.size w (w5.setCell ⟨b1,25,none⟩ (.pointer (some ⟨w3.heap.size,0,none⟩))):=(HB03.out.trans (HB5.out.mono HB03.out.size)).setCell (p:=⟨b1,25,none⟩) (by rw[← HBB.out];exact HB1.out.size) (.pointer (some ⟨w3.heap.size,0,none⟩))
  refine bodyPost_ret (results_tmp2 bH _ _ _) rfl ⟨b1,w3.heap.size,vk,vu,vl,rfl,⟨?_,vk2,vu2,vl2,_,hqa.lower HB03.out.size⟩,hbz⟩;have:=hpa.lower (B':=w.heap.size) (by rw[← HBB.out];exact HB1.out.size);rw[← HT.out] at this;exact this
 have q25:=HP3.out.row.at 25 _ rfl;have f25:=HP3.out.row.free 25 bG
 have HST:=cD (show norm s=s by
  rw[HT.out];refine (L_inj ?_).symm;have h9:=beq_iff_eq.1 HZ.out;rw[L_toList,L_toList] at h9
  exact h9)
 clear HP2 HB2;go_wp2_with fail
 have hpa:=HP3.out.put 25 (.pointer (some ⟨b1,0,none⟩)) (mDo (eS st) comp t { gJ with comp:=comp }) (.pointer (some ⟨b1,0,none⟩)) rfl rfl rfl rfl bA;have hbz:Below w.heap.size w (w3.setCell ⟨b1,25,none⟩ (.pointer (some ⟨b1,0,none⟩))):=(HB1.out.trans (HB3.out.mono (by rw[← HBB.out];exact HB1.out.size))).setCell (p:=⟨b1,25,none⟩) (by rw[← HBB.out];exact HB1.out.size) (.pointer (some ⟨b1,0,none⟩));have hp:=hpa.lower (B':=w.heap.size) (by rw[← HBB.out];exact HB1.out.size);rw[← HT.out] at hp;refine bodyPost_ret (results_tmp2 bH _ _ _) rfl ⟨b1,b1,vk,vu,vl,rfl,⟨hp,vk,vu,vl,.pointer (some ⟨b1,0,none⟩),?_⟩,hbz⟩;have h8:=hp;rw[HST.out] at h8;exact h8
set_option maxRecDepth 100000 in
set_option maxHeartbeats 1600000 in
theorem aCt (S:iZ w pb st sl sd sf sc mb sb fb) (OS:jT st) (comp s:ByteArray) (hs:s.size≤900000) (ha:asc s) :
 Calls Tryz.prog 34 #[.pointer (some ⟨pb,0,none⟩),.string comp,.string s] w fun e w' =>
  ∃ b ub vk vu vl,e = .returned (.pointer (some ⟨b,0,none⟩))∧aA3 w' w.heap.size (eS st) comp s b ub vk vu vl∧Below w.heap.size w w':=by
 have c:=aDo S OS comp s hs ha;clear S hs ha;go_enter Tryz.func34,Tryz.ntmps34;go_wp2_with fail
 refine c.mono ?_;rintro e w' ⟨b,ub,vk,vu,vl,rfl,hp,hb⟩;have HP:=cD hp;have HB:=cD hb;clear c hp hb;go_wp2_with fail
 go_ret;exact ⟨b,ub,vk,vu,vl,rfl,HP.out,HB.out⟩
end
end Go.Proofs.YtbkobfoaphcamaaGreatDoor.Path
namespace Go.Proofs.YtbkobfoaphcamaaGreatDoor.Path
open Go.RowKit Go.Proofs.YtbkobfoaphcamaaGreatDoorW.PrintWords Go.Proofs.YtbkobfoaphcamaaGreatDoor.Base
section
variable {w:World} {B b:Nat} {p:eQ} {vk vu vl u:Value}
theorem info9:(Tryz.prog.info? 9).map (fun i=>(i.zero,i.size,i.bytes))=some (some (.string ⟨#[]⟩),1,16):=by kernel_rfl
def kW (p:eQ):List ByteArray:=p.known.map fun x=>sub p.s x.1 x.2
def mQ (p:eQ):List ByteArray:=p.unknown.map fun x=>sub p.s x.1 x.2
set_option maxRecDepth 100000 in
set_option maxHeartbeats 800000 in
theorem vT (H:eP w B b p vk vu vl u) (O:iL p):Calls Tryz.prog 68 #[.pointer (some ⟨b,0,none⟩)] w fun e w'=>∃ v,e = .returned v∧fM w' w.heap.size v (kW p)∧Below w.heap.size w w':=by
 have h0:=H.row.at 0 _ rfl;have h6:=H.row.at 6 _ rfl;have o1:=O.sz;have okl:=O.kl;obtain ⟨A,cp,hv⟩:=fX H.ok;rw[hv] at h6;have hb:=H.lt
 obtain ⟨n,hn⟩:∃ n,p.known.length=n:=⟨_,rfl⟩
 have hlen:(kW p).length=n:=by unfold kW;rw[List.length_map];exact hn
 rw[hn] at h6 okl;have hmk:=run_make_row' (P:=Tryz.prog) 22 9 (.string ⟨#[]⟩) 16 Tryz.underlying22 info9 rfl .i64 .i64 n bA bA;have HH:=cD H;have HK:=cD O.kn;have HV:=cD hv;have HL:=cD hlen;have HN:=cD hn;clear H O hv hlen hn;go_enter Tryz.func68,Tryz.ntmps68;go_wp2_with fail
 go_loopg [17] n (fun g i wr=>∃ k:Nat,k≤n∧g=n - k∧i = .int .i64 k∧Aside0 (Row wr w.heap.size (fill (kW p) k))∧Aside0 (Below w.heap.size w wr)∧w.heap.size < wr.heap.size)
 case atStart =>
  refine ⟨0,Nat.zero_le _,rfl,rfl,⟨?_⟩,⟨(Below.refl _ _).alloc (Nat.le_refl _) _⟩,eB⟩;rw[uM,HL.out];exact Row.made w n _ _
 case round =>
  obtain ⟨k,hk,hg,rfl,HR,HB,hsz⟩:=hrel
  by_cases hlt:k < n
  ·have hP:=HH.out.below HB.out;have h0:=hP.row.at 0 _ rfl;have hbr:=hP.lt
   obtain ⟨x,hx⟩:∃ x,p.known[k]? = some x:=⟨_,List.getElem?_eq_getElem (by rw[HN.out];exact hlt)⟩
   obtain ⟨g,c2,hv2,k1,k2⟩:=hP.knownAt k x hx;obtain ⟨q1,q2,q3⟩:=HK.out x (List.mem_of_getElem? hx);rw[HV.out] at hv2;injection hv2 with hA _ hcc
   subst hA hcc;obtain ⟨lo,hlo⟩:=Int.eq_ofNat_of_zero_le (show 0≤x.1 by omega);obtain ⟨hi,hhi⟩:=Int.eq_ofNat_of_zero_le (show 0≤x.2 by omega);rw[hlo] at k1 q1 q2;rw[hhi] at k2 q2 q3;have hgl:g < wr.heap.size:=World.block_lt_of_cell? wr ⟨g,k * 2,none⟩ k1;have hfl:k < (fill (kW p) k).length:=by rw[qF _ _ (by rw[HL.out];omega),HL.out];exact hlt
   have hfr:=HR.out.free k hfl;have hcell:wr.cell? ⟨w.heap.size,k,none⟩=some ((fill (kW p) k)[k]):=(HR.out k hfl).1
   have hel:(kW p)[k]'(by rw[HL.out];exact hlt)=p.s.extract lo hi:=by
    unfold kW;rw[List.getElem_map]
    have:p.known[k]'(by rw[HN.out];exact hlt)=x:=by
     have:=List.getElem?_eq_getElem (l:=p.known) (i:=k) (by rw[HN.out];exact hlt);rw[hx] at this;exact (Option.some.inj this).symm
    rw[this,hlo,hhi];rfl
   have HE:=cD hel
   obtain ⟨old,hold⟩:∃ old,(fill (kW p) k)[k]=old:=⟨_,rfl⟩
   rw[hold] at hcell;clear hel hold hx hlo hhi hP;go_upto_region 5 with fail
   have hal:Below wr.heap.size wr (wr.alloc (.cells #[.int .i64 lo,.int .i64 hi] 84)):=(Below.refl _ _).alloc (Nat.le_refl _) _
   obtain ⟨W,hW⟩:∃ W,wr.alloc (.cells #[.int .i64 lo,.int .i64 hi] 84)=W:=⟨_,rfl⟩
   rw[hW];rw[hW] at hal;have c0:W.cell? ⟨wr.heap.size,0,none⟩=some (.int .i64 lo):=by subst hW;exact (Row.new wr [.int .i64 lo,.int .i64 hi] _).at 0 _ rfl
   have c1:W.cell? ⟨wr.heap.size,1,none⟩=some (.int .i64 hi):=by subst hW;exact (Row.new wr [.int .i64 lo,.int .i64 hi] _).at 1 _ rfl
   have hsW:wr.heap.size < W.heap.size:=by subst hW;simp
   clear hW;have hB2:Below w.heap.size w W.drew:=((HB.out.trans (hal.mono (Nat.le_of_lt hsz)))).drew;have hR2:Row W.drew w.heap.size (fill (kW p) k):=HR.out.step (by exact hal.block _ hsz);have e0:W.drew.cell? ⟨b,0,none⟩=some (.string p.s):=(hal.cell (p:=⟨b,0,none⟩) hbr).trans h0;have er:W.drew.cell? ⟨w.heap.size,k,none⟩=some old:=(hal.cell (p:=⟨w.heap.size,k,none⟩) hsz).trans hcell;have ef:W.drew.frozen? ⟨w.heap.size,k,none⟩=false:=(hal.frozen (p:=⟨w.heap.size,k,none⟩) hsz).trans hfr;have d0:W.drew.cell? ⟨wr.heap.size,0,none⟩=some (.int .i64 lo):=c0;have d1:W.drew.cell? ⟨wr.heap.size,1,none⟩=some (.int .i64 hi):=c1;have hs2:w.heap.size < W.drew.heap.size:=Nat.lt_trans hsz hsW;refine wp_region_still_tail 12 bB bB ?_
   change wpStill _ _ W.drew (fun a'=>wpList _ _ _ _ a' W.drew) _ _
   obtain ⟨V,hV⟩:∃ V,W.drew=V:=⟨_,rfl⟩
   rw[hV] at hB2 hR2 e0 er ef d0 d1 hs2;rw[hV];clear hV c0 c1 hal hsW k1 k2 h0 hcell hfr hbr;have HB3:=cD hB2;have HR3:=cD hR2;have HF3:=cD hfl;clear hB2 hR2 hfl HH HK HV HN HR HB;simp only[List.take_succ_cons,List.take_zero,List.drop_succ_cons,List.drop_zero]
   repeat still_step
   refine wpStill_nil ?_;go_wp2_with fail
   go_roundg (n - (k+1))
   case rel =>
    refine ⟨k+1,aR,rfl,aZ,⟨?_⟩,⟨?_⟩,?_⟩
    ·have:=HR3.out.set k (.string (p.s.extract lo hi)) HF3.out;rw[← HE.out,wT] at this;rw[HE.out] at this;exact this
    ·exact HB3.out.setCell (Nat.le_refl _) _
    simpa using hs2
   case measure=>omega
  have:k=n:=by omega
  subst this;have hR2:=HR.out;rw[← HL.out,wS] at hR2;go_wp2_with fail
  go_ret;refine ⟨_,rfl,?_,HB.out⟩;rw[← HL.out];exact fM.of_row hR2 _ (Nat.le_refl _)
set_option maxRecDepth 100000 in
set_option maxHeartbeats 800000 in
theorem rH (H:eP w B b p vk vu vl u) (O:iL p):Calls Tryz.prog 69 #[.pointer (some ⟨b,0,none⟩)] w fun e w'=>∃ v,e = .returned v∧fM w' w.heap.size v (mQ p)∧Below w.heap.size w w':=by
 have h0:=H.row.at 0 _ rfl;have h6:=H.row.at 7 _ rfl;have o1:=O.sz;have okl:=O.ul;obtain ⟨A,cp,hv⟩:=fX H.ou;rw[hv] at h6;have hb:=H.lt
 obtain ⟨n,hn⟩:∃ n,p.unknown.length=n:=⟨_,rfl⟩
 have hlen:(mQ p).length=n:=by unfold mQ;rw[List.length_map];exact hn
 rw[hn] at h6 okl;have hmk:=run_make_row' (P:=Tryz.prog) 22 9 (.string ⟨#[]⟩) 16 Tryz.underlying22 info9 rfl .i64 .i64 n bA bA;have HH:=cD H;have HK:=cD O.un;have HV:=cD hv;have HL:=cD hlen;have HN:=cD hn;clear H O hv hlen hn;go_enter Tryz.func69,Tryz.ntmps69;go_wp2_with fail
 go_loopg [17] n (fun g i wr=>∃ k:Nat,k≤n∧g=n - k∧i = .int .i64 k∧Aside0 (Row wr w.heap.size (fill (mQ p) k))∧Aside0 (Below w.heap.size w wr)∧w.heap.size < wr.heap.size)
 case atStart =>
  refine ⟨0,Nat.zero_le _,rfl,rfl,⟨?_⟩,⟨(Below.refl _ _).alloc (Nat.le_refl _) _⟩,eB⟩;rw[uM,HL.out];exact Row.made w n _ _
 case round =>
  obtain ⟨k,hk,hg,rfl,HR,HB,hsz⟩:=hrel
  by_cases hlt:k < n
  ·have hP:=HH.out.below HB.out;have h0:=hP.row.at 0 _ rfl;have hbr:=hP.lt
   obtain ⟨x,hx⟩:∃ x,p.unknown[k]? = some x:=⟨_,List.getElem?_eq_getElem (by rw[HN.out];exact hlt)⟩
   obtain ⟨g,c2,hv2,k1,k2⟩:=hP.unknownAt k x hx;obtain ⟨q1,q2,q3⟩:=HK.out x (List.mem_of_getElem? hx);rw[HV.out] at hv2;injection hv2 with hA _ hcc
   subst hA hcc;obtain ⟨lo,hlo⟩:=Int.eq_ofNat_of_zero_le (show 0≤x.1 by omega);obtain ⟨hi,hhi⟩:=Int.eq_ofNat_of_zero_le (show 0≤x.2 by omega);rw[hlo] at k1 q1 q2;rw[hhi] at k2 q2 q3;have hgl:g < wr.heap.size:=World.block_lt_of_cell? wr ⟨g,k * 2,none⟩ k1;have hfl:k < (fill (mQ p) k).length:=by rw[qF _ _ (by rw[HL.out];omega),HL.out];exact hlt
   have hfr:=HR.out.free k hfl;have hcell:wr.cell? ⟨w.heap.size,k,none⟩=some ((fill (mQ p) k)[k]):=(HR.out k hfl).1
   have hel:(mQ p)[k]'(by rw[HL.out];exact hlt)=p.s.extract lo hi:=by
    unfold mQ;rw[List.getElem_map]
    have:p.unknown[k]'(by rw[HN.out];exact hlt)=x:=by
     have:=List.getElem?_eq_getElem (l:=p.unknown) (i:=k) (by rw[HN.out];exact hlt);rw[hx] at this;exact (Option.some.inj this).symm
    rw[this,hlo,hhi];rfl
   have HE:=cD hel
   obtain ⟨old,hold⟩:∃ old,(fill (mQ p) k)[k]=old:=⟨_,rfl⟩
   rw[hold] at hcell;clear hel hold hx hlo hhi hP;go_upto_region 5 with fail
   have hal:Below wr.heap.size wr (wr.alloc (.cells #[.int .i64 lo,.int .i64 hi] 84)):=(Below.refl _ _).alloc (Nat.le_refl _) _
   obtain ⟨W,hW⟩:∃ W,wr.alloc (.cells #[.int .i64 lo,.int .i64 hi] 84)=W:=⟨_,rfl⟩
   rw[hW];rw[hW] at hal;have c0:W.cell? ⟨wr.heap.size,0,none⟩=some (.int .i64 lo):=by subst hW;exact (Row.new wr [.int .i64 lo,.int .i64 hi] _).at 0 _ rfl
   have c1:W.cell? ⟨wr.heap.size,1,none⟩=some (.int .i64 hi):=by subst hW;exact (Row.new wr [.int .i64 lo,.int .i64 hi] _).at 1 _ rfl
   have hsW:wr.heap.size < W.heap.size:=by subst hW;simp
   clear hW;have hB2:Below w.heap.size w W.drew:=((HB.out.trans (hal.mono (Nat.le_of_lt hsz)))).drew;have hR2:Row W.drew w.heap.size (fill (mQ p) k):=HR.out.step (by exact hal.block _ hsz);have e0:W.drew.cell? ⟨b,0,none⟩=some (.string p.s):=(hal.cell (p:=⟨b,0,none⟩) hbr).trans h0;have er:W.drew.cell? ⟨w.heap.size,k,none⟩=some old:=(hal.cell (p:=⟨w.heap.size,k,none⟩) hsz).trans hcell;have ef:W.drew.frozen? ⟨w.heap.size,k,none⟩=false:=(hal.frozen (p:=⟨w.heap.size,k,none⟩) hsz).trans hfr;have d0:W.drew.cell? ⟨wr.heap.size,0,none⟩=some (.int .i64 lo):=c0;have d1:W.drew.cell? ⟨wr.heap.size,1,none⟩=some (.int .i64 hi):=c1;have hs2:w.heap.size < W.drew.heap.size:=Nat.lt_trans hsz hsW;refine wp_region_still_tail 12 bB bB ?_
   change wpStill _ _ W.drew (fun a'=>wpList _ _ _ _ a' W.drew) _ _
   obtain ⟨V,hV⟩:∃ V,W.drew=V:=⟨_,rfl⟩
   rw[hV] at hB2 hR2 e0 er ef d0 d1 hs2;rw[hV];clear hV c0 c1 hal hsW k1 k2 h0 hcell hfr hbr;have HB3:=cD hB2;have HR3:=cD hR2;have HF3:=cD hfl;clear hB2 hR2 hfl HH HK HV HN HR HB;simp only[List.take_succ_cons,List.take_zero,List.drop_succ_cons,List.drop_zero]
   repeat still_step
   refine wpStill_nil ?_;go_wp2_with fail
   go_roundg (n - (k+1))
   case rel =>
    refine ⟨k+1,aR,rfl,aZ,⟨?_⟩,⟨?_⟩,?_⟩
    ·have:=HR3.out.set k (.string (p.s.extract lo hi)) HF3.out;rw[← HE.out,wT] at this;rw[HE.out] at this;exact this
    ·exact HB3.out.setCell (Nat.le_refl _) _
    simpa using hs2
   case measure=>omega
  have:k=n:=by omega
  subst this;have hR2:=HR.out;rw[← HL.out,wS] at hR2;go_wp2_with fail
  go_ret;refine ⟨_,rfl,?_,HB.out⟩;rw[← HL.out];exact fM.of_row hR2 _ (Nat.le_refl _)
end
end Go.Proofs.YtbkobfoaphcamaaGreatDoor.Path
namespace Go.Proofs.YtbkobfoaphcamaaGreatDoor.Path
open Go.RowKit Go.Proofs.YtbkobfoaphcamaaGreatDoorW.PrintWords Go.Proofs.YtbkobfoaphcamaaGreatDoor.Base
section
variable {w:World} {B b:Nat} {p:eQ} {vk vu vl u:Value}
def lZ (p:eQ):List ByteArray:=p.plangs.map fun i=>fO p i
set_option maxRecDepth 100000 in
set_option maxHeartbeats 800000 in
theorem xM (H:eP w B b p vk vu vl u) (O:iL p):Calls Tryz.prog 104 #[.pointer (some ⟨b,0,none⟩),vl] w fun e w'=>∃ v,e = .returned v∧fM w' w.heap.size v (lZ p)∧Below w.heap.size w w':=by
 have okl:=O.ll;obtain ⟨A,cp,hv⟩:=fX H.ol;rw[hv]
 obtain ⟨n,hn⟩:∃ n,p.plangs.length=n:=⟨_,rfl⟩
 have hlen:(lZ p).length=n:=by unfold lZ;rw[List.length_map];exact hn
 rw[hn] at okl ⊢;have HH:=cD H;have HO:=cD O;have HV:=cD hv;have HL:=cD hlen;have HN:=cD hn
 by_cases hz:n=0
 ·subst hz;have hnil:lZ p=[]:=List.eq_nil_of_length_eq_zero hlen;rw[hnil];clear H O hv hlen hn hnil;go_enter Tryz.func104,Tryz.ntmps104;go_wp2_with fail
  go_ret;exact ⟨_,rfl,fM.nil _ _ _ _,Below.refl _ _⟩
 have hz1:((n:Int)==0)=false:=beq_eq_false_iff_ne.2 bA;have hz2:(n==0)=false:=beq_eq_false_iff_ne.2 hz;have hmk:=run_make_row' (P:=Tryz.prog) 22 9 (.string ⟨#[]⟩) 16 Tryz.underlying22 info9 rfl .i64 .i64 n bA bA;clear H O hv hlen hn;go_enter Tryz.func104,Tryz.ntmps104;go_wp2_with fail
 go_loopg [16] n (fun g i wr=>∃ k:Nat,k≤n∧g=n - k∧i = .int .i64 k∧Aside0 (Row wr w.heap.size (fill (lZ p) k))∧Aside0 (Below w.heap.size w wr)∧w.heap.size < wr.heap.size)
 case atStart =>
  refine ⟨0,Nat.zero_le _,rfl,rfl,⟨?_⟩,⟨(Below.refl _ _).alloc (Nat.le_refl _) _⟩,eB⟩;rw[uM,HL.out];exact Row.made w n _ _
 case round =>
  obtain ⟨k,hk,hg,rfl,HR,HB,hsz⟩:=hrel
  by_cases hlt:k < n
  ·have hP:=HH.out.below HB.out
   obtain ⟨x,hx⟩:∃ x,p.plangs[k]? = some x:=⟨_,List.getElem?_eq_getElem (by rw[HN.out];exact hlt)⟩
   obtain ⟨g,c2,hv2,k1⟩:=hP.langAt k x hx;rw[HV.out] at hv2;injection hv2 with hA _ hcc
   subst hA hcc;have hfl:k < (fill (lZ p) k).length:=by rw[qF _ _ (by rw[HL.out];omega),HL.out];exact hlt
   have hfr:=HR.out.free k hfl;have hcell:wr.cell? ⟨w.heap.size,k,none⟩=some ((fill (lZ p) k)[k]):=(HR.out k hfl).1
   have hel:(lZ p)[k]'(by rw[HL.out];exact hlt)=fO p x:=by
    unfold lZ;rw[List.getElem_map]
    have:p.plangs[k]'(by rw[HN.out];exact hlt)=x:=by
     have:=List.getElem?_eq_getElem (l:=p.plangs) (i:=k) (by rw[HN.out];exact hlt);rw[hx] at this;exact (Option.some.inj this).symm
    rw[this]
   have HE:=cD hel;have c:=hE hP HO.out.toPathIn x
   obtain ⟨old,hold⟩:∃ old,(fill (lZ p) k)[k]=old:=⟨_,rfl⟩
   rw[hold] at hcell;have HF:=cD hfl;clear hel hold hx hP hfl;go_wp2_with fail
   (with_reducible refine c.mono ?_)
   rintro e w' ⟨rfl,hb⟩;have er:w'.cell? ⟨w.heap.size,k,none⟩=some old:=(hb.cell (p:=⟨w.heap.size,k,none⟩) hsz).trans hcell;have ef:w'.frozen? ⟨w.heap.size,k,none⟩=false:=(hb.frozen (p:=⟨w.heap.size,k,none⟩) hsz).trans hfr;have hR2:=cD (HR.out.step (hb.block _ hsz));have hB2:=cD (HB.out.trans (hb.mono (Nat.le_of_lt hsz)));have hs2:=Nat.lt_of_lt_of_le hsz hb.size;clear hb hfr hcell HR HB hsz;go_wp2_with fail
   go_roundg (n - (k+1))
   case rel =>
    refine ⟨k+1,aR,rfl,aZ,⟨?_⟩,⟨?_⟩,?_⟩
    ·have:=hR2.out.set k (.string (fO p x)) HF.out;rw[← HE.out,wT] at this;rw[HE.out] at this;exact this
    ·exact hB2.out.setCell (Nat.le_refl _) _
    simpa using hs2
   case measure=>omega
  have:k=n:=by omega
  subst this;have hR2:=HR.out;rw[← HL.out,wS] at hR2;go_wp2_with fail
  go_ret;refine ⟨_,rfl,?_,HB.out⟩;rw[← HL.out];exact fM.of_row hR2 _ (Nat.le_refl _)
theorem aCr (H:eP w B b p vk vu vl u) (O:iL p):Calls Tryz.prog 67 #[.pointer (some ⟨b,0,none⟩)] w fun e w'=>∃ v,e = .returned v∧fM w' w.heap.size v (lZ p)∧Below w.heap.size w w':=by
 have h14:=H.row.at 14 _ rfl;have c:=xM H O;obtain ⟨A,cp,hv⟩:=fX H.ol;rw[hv] at h14 c;clear H O hv;go_enter Tryz.func67,Tryz.ntmps67;go_wp2_with fail
 (with_reducible refine c.mono ?_)
 rintro e w' ⟨v,rfl,hs,hb⟩;have HS:=cD hs;have HB:=cD hb;clear hs hb;obtain ⟨A2,c2,rfl,_⟩:=HS.out;go_wp2_with fail
 go_ret;exact ⟨_,rfl,HS.out,HB.out⟩
def oP (p:eQ):ByteArray:=match p.known with | []=>frm p.s p.cHigh | x::_=>sub p.s p.cHigh (x.1 - 1)
theorem xK (H:eP w B b p vk vu vl u) (O:iL p):Calls Tryz.prog 51 #[.pointer (some ⟨b,0,none⟩)] w fun e w'=>e = .returned (.string (oP p))∧fD w w':=by
 have h0:=H.row.at 0 _ rfl;have h2:=H.row.at 2 _ rfl;have c:=mF H 0;have o1:=O.sz;obtain ⟨o2,o3⟩:=O.ch;obtain ⟨y,hy⟩:=Int.eq_ofNat_of_zero_le (show 0≤p.cHigh by omega);rw[hy] at h2 o2 o3;unfold oP;rw[hy]
 cases hk:p.known with
 | nil =>
  have e1:mO p 0 = -1:=by unfold mO;rw[hk];rfl
  rw[e1] at c;clear hk e1 H O hy;show Calls _ _ _ _ fun e w'=>e = .returned (.string (p.s.extract y p.s.size))∧fD w w';go_enter Tryz.func51,Tryz.ntmps51;go_wp2_with fail
  (with_reducible refine c.mono ?_)
  rintro e w' ⟨rfl,rfl⟩;go_wp2_with fail
  go_quiet (fail)
  go_wp2_with fail
  go_ret;exact ⟨rfl,⟨_,rfl⟩⟩
 | cons x r =>
  have h6:=H.row.at 6 _ rfl;have hx:p.known[0]? = some x:=by rw[hk];rfl
  obtain ⟨q1,q2,q3⟩:=O.kn x (List.mem_of_getElem? hx);have q4:=O.k0 x hx;obtain ⟨g,cp,hv,k1,_⟩:=H.knownAt 0 x hx;rw[hv] at h6;have e1:mO p 0=0:=by unfold mO;rw[hk];simp
  rw[e1] at c;obtain ⟨lo,hlo⟩:=Int.eq_ofNat_of_zero_le (show 0≤x.1 by omega);rw[hlo] at k1 q1 q2 q4;rw[hy] at q4;have k1' : w.cell? ⟨g,0,none⟩=some (.int .i64 lo):=k1;show Calls _ _ _ _ fun e w'=>e = .returned (.string (sub p.s y (x.1 - 1)))∧fD w w';rw[hlo,show ((lo:Int) - 1)=((lo - 1:Nat):Int) from by omega,jB];have hlen:(0:Int) < p.known.length:=by rw[hk];simp only[List.length_cons];omega
  have hyc:IntKind.i64.wrap ((lo:Int) - 1)=((lo - 1:Nat):Int):=by rw[IntWalk.i64_in _ bA];omega
  have q5:((y:Nat):Int)≤((lo - 1:Nat):Int):=by omega
  have q6:((lo - 1:Nat):Int)≤(p.s.size:Int):=by omega
  have q7:((0:Int) == -1)=false:=rfl;clear hk e1 H O hy hx hlo hv k1 q4 q3;go_enter Tryz.func51,Tryz.ntmps51;go_wp2_with fail
  (with_reducible refine c.mono ?_)
  rintro e w' ⟨rfl,rfl⟩;go_wp2_with fail
  go_quiet (fail)
  go_wp2_with fail
  go_ret;exact ⟨rfl,⟨_,rfl⟩⟩
def rA (p:eQ):ByteArray:=match p.known with | []=>nrm p.trim p.s | x::_=>nrm p.trim (sub p.s 0 (x.1 - 1))
set_option maxRecDepth 100000 in
theorem wO (H:eP w B b p vk vu vl u) (O:iL p) (hf:-1≤p.fmt) (hl:-1≤p.lang):Calls Tryz.prog 58 #[.pointer (some ⟨b,0,none⟩)] w fun e w'=>e = .returned (.string (rA p))∧Below w.heap.size w w':=by
 have h0:=H.row.at 0 _ rfl;have h6:=H.row.at 6 _ rfl;have h8:=H.row.at 8 _ rfl;have h9:=H.row.at 9 _ rfl;have o1:=O.sz;have HH:=cD H;unfold rA
 cases hk:p.known with
 | nil =>
  obtain ⟨A,c0,hv⟩:=fX H.ok;rw[hv,hk] at h6;have h6' : w.cell? ⟨b,6,none⟩=some (.slice A 0 c0):=h6;clear hk h6 hv H O;go_enter Tryz.func58,Tryz.ntmps58;go_wp2_with fail
  (with_reducible refine (jF HH.out _).mono ?_)
  rintro e w' ⟨rfl,rfl⟩;go_wp2_with fail
  go_ret;exact ⟨rfl,Below.refl _ _⟩
 | cons x r =>
  have c:=mF H 0;have hx:p.known[0]? = some x:=by rw[hk];rfl
  obtain ⟨q1,q2,q3⟩:=O.kn x (List.mem_of_getElem? hx);obtain ⟨g,cp,hv,k1,k2⟩:=H.knownAt 0 x hx;rw[hv] at h6;have hb:=H.lt;have e1:mO p 0=0:=by unfold mO;rw[hk];simp
  rw[e1] at c;obtain ⟨lo,hlo⟩:=Int.eq_ofNat_of_zero_le (show 0≤x.1 by omega);obtain ⟨hi,hhi⟩:=Int.eq_ofNat_of_zero_le (show 0≤x.2 by omega);rw[hlo] at k1 q1 q2;rw[hhi] at k2 q2 q3;have k1' : w.cell? ⟨g,0,none⟩=some (.int .i64 lo):=k1;have k2' : w.cell? ⟨g,0+1,none⟩=some (.int .i64 hi):=k2;have k2'' : w.cell? ⟨g,1,none⟩=some (.int .i64 hi):=k2;have hg:g < w.heap.size:=World.block_lt_of_cell? w ⟨g,0,none⟩ k1';show Calls _ _ _ _ fun e w'=>e = .returned (.string (nrm p.trim (sub p.s 0 (x.1 - 1))))∧Below w.heap.size w w';rw[hlo,show ((lo:Int) - 1)=((lo - 1:Nat):Int) from by omega,show (0:Int)=((0:Nat):Int) from rfl,jB]
  obtain ⟨n,hn⟩:∃ n,p.known.length=n:=⟨_,rfl⟩
  have hlen:0 < n:=by rw[← hn,hk];simp
  rw[hn] at h6;have hlen2:((n:Int)==0)=false:=beq_eq_false_iff_ne.2 bA;have hlen3:(n==0)=false:=beq_eq_false_iff_ne.2 bA;have hlen4:(0:Int) < n:=by omega
  have hyc:IntKind.i64.wrap ((lo:Int) - 1)=((lo - 1:Nat):Int):=by rw[IntWalk.i64_in _ bA];omega
  have q6:((lo - 1:Nat):Int)≤(p.s.size:Int):=by omega
  have q7:((0:Int) == -1)=false:=rfl
  obtain ⟨fm,hfm⟩:∃ fm,p.fmt=fm:=⟨_,rfl⟩
  obtain ⟨la,hla⟩:∃ la,p.lang=la:=⟨_,rfl⟩
  rw[hfm] at h9 hf;rw[hla] at h8 hl
  have g1:(fm != -1 && decide (fm < 0))=false:=by
   by_cases t:fm = -1
   ·subst t;rfl
   rw[decide_eq_false bA,Bool.and_false]
  have g2:(la != -1 && decide (la < 0))=false:=by
   by_cases t:la = -1
   ·subst t;rfl
   rw[decide_eq_false bA,Bool.and_false]
  clear hk e1 H O hx hlo hhi hv k1 k2 hn hfm hla;go_enter Tryz.func58,Tryz.ntmps58;go_wp2_with fail
  (with_reducible refine c.mono ?_)
  rintro e w' ⟨rfl,rfl⟩;go_wp2_with fail
  all_goals
   go_quiet ((go_at_call 96;exact Calls.quiet_of_same (jF ((HH.out.alloc _).drewN _) _)))
   go_wp2_with fail
   go_ret;exact ⟨rfl,eH ((Below.refl _ _).alloc (Nat.le_refl _) _) (fD.below ⟨⟨_,rfl⟩⟩)⟩
end
end Go.Proofs.YtbkobfoaphcamaaGreatDoor.Path
namespace Go.Proofs.YtbkobfoaphcamaaGreatDoor.Path
open Go.RowKit Go.Proofs.YtbkobfoaphcamaaGreatDoor.Base
structure gV where
 component:ByteArray
 container:ByteArray
 containerDir:ByteArray
 section_:ByteArray
 name:ByteArray
 nameNoExt:ByteArray
 baseName:ByteArray
 nameNoId:ByteArray
 dir:ByteArray
 path:ByteArray
 pathNoLang:ByteArray
 pathNoId:ByteArray
 pathBefore:ByteArray
 base:ByteArray
 idBase:ByteArray
 ext:ByteArray
 fmt:ByteArray
 kind:ByteArray
 layout:ByteArray
 lang:ByteArray
 custom:ByteArray
 langs:List ByteArray
 ids:List ByteArray
 unk:List ByteArray
 disabled:Bool
 isContent:Bool
 isBundle:Bool
 isBranch:Bool
 isLeaf:Bool
 isData:Bool
 typ:Int
def pJ (t:gV) (v1 v2 v3:Value):List Value :=
 [.string t.component,.string t.container,.string t.containerDir,.string t.section_,.string t.name,.string t.nameNoExt,.string t.baseName,.string t.nameNoId,.string t.dir,.string t.path,.string t.pathNoLang,.string t.pathNoId,.string t.pathBefore,.string t.base,.string t.idBase,.string t.ext,.string t.fmt,.string t.kind,.string t.layout,.string t.lang,.string t.custom,v1,v2,v3,.bool t.disabled,.bool t.isContent,.bool t.isBundle,.bool t.isBranch,.bool t.isLeaf,.bool t.isData,.int .i64 t.typ]
def iI (t:gV) (v1 v2 v3:Value):Value:=.agg #[.string t.component,.string t.container,.string t.containerDir,.string t.section_,.string t.name,.string t.nameNoExt,.string t.baseName,.string t.nameNoId,.string t.dir,.string t.path,.string t.pathNoLang,.string t.pathNoId,.string t.pathBefore,.string t.base,.string t.idBase,.string t.ext,.string t.fmt,.string t.kind,.string t.layout,.string t.lang,.string t.custom,v1,v2,v3,.bool t.disabled,.bool t.isContent,.bool t.isBundle,.bool t.isBranch,.bool t.isLeaf,.bool t.isData,.int .i64 t.typ]
def eJ:List Value:=[.string ⟨#[]⟩,.string ⟨#[]⟩,.string ⟨#[]⟩,.string ⟨#[]⟩,.string ⟨#[]⟩,.string ⟨#[]⟩,.string ⟨#[]⟩,.string ⟨#[]⟩,.string ⟨#[]⟩,.string ⟨#[]⟩,.string ⟨#[]⟩,.string ⟨#[]⟩,.string ⟨#[]⟩,.string ⟨#[]⟩,.string ⟨#[]⟩,.string ⟨#[]⟩,.string ⟨#[]⟩,.string ⟨#[]⟩,.string ⟨#[]⟩,.string ⟨#[]⟩,.string ⟨#[]⟩,.slice none 0 0,.slice none 0 0,.slice none 0 0,.bool false,.bool false,.bool false,.bool false,.bool false,.bool false,.int .i64 0]
end Go.Proofs.YtbkobfoaphcamaaGreatDoor.Path
namespace Go.Proofs.YtbkobfoaphcamaaGreatDoor.Path
open Go.RowKit Go.Proofs.YtbkobfoaphcamaaGreatDoorW.PrintWords Go.Proofs.YtbkobfoaphcamaaGreatDoor.Base
section
variable {w:World} {B b:Nat} {p:eQ} {vk vu vl u:Value}
def qK (p:eQ):ByteArray:=if 3≤p.typ∧p.typ≤5 then nD p else nR p
def aB3 (p:eQ):ByteArray:=if p.pfmt = -1 then fO p p.fmt else fO p p.pfmt
def yA (p:eQ):ByteArray:=if p.pkind = -1 then fO p p.kind else fO p p.pkind
def sO (p:eQ):ByteArray:=if p.play = -1 then fO p p.lay else fO p p.play
def tG (p:eQ):Bool:=decide (1≤p.typ∧p.typ≤5)
def uV (p:eQ):Bool:=decide (3≤p.typ∧p.typ≤5)
def uU (p:eQ):Bool:=p.typ==4
def zG (p:eQ):Bool:=p.typ==3
def zF (p:eQ):Bool:=p.typ==5
theorem qR (H:eP w B b p vk vu vl u) (O:iL p):Calls Tryz.prog 52 #[.pointer (some ⟨b,0,none⟩)] w fun e w'=>e = .returned (.string (qK p))∧Below w.heap.size w w':=qN H O
theorem vV (H:eP w B b p vk vu vl u) (O:iL p):Calls Tryz.prog 62 #[.pointer (some ⟨b,0,none⟩)] w fun e w'=>e = .returned (.string (aB3 p))∧Below w.heap.size w w':=uE H O
theorem aFf (H:eP w B b p vk vu vl u) (O:iL p):Calls Tryz.prog 63 #[.pointer (some ⟨b,0,none⟩)] w fun e w'=>e = .returned (.string (yA p))∧Below w.heap.size w w':=aD8 H O
theorem aCs (H:eP w B b p vk vu vl u) (O:iL p):Calls Tryz.prog 64 #[.pointer (some ⟨b,0,none⟩)] w fun e w'=>e = .returned (.string (sO p))∧Below w.heap.size w w':=aA5 H O
theorem yR (H:eP w B b p vk vu vl u):Calls Tryz.prog 71 #[.pointer (some ⟨b,0,none⟩)] w fun e w'=>e = .returned (.bool (tG p))∧w'=w:=xJ H
theorem aAj (H:eP w B b p vk vu vl u):Calls Tryz.prog 72 #[.pointer (some ⟨b,0,none⟩)] w fun e w'=>e = .returned (.bool (uV p))∧w'=w:=oJ H
theorem uA (H:eP w B b p vk vu vl u):Calls Tryz.prog 73 #[.pointer (some ⟨b,0,none⟩)] w fun e w'=>e = .returned (.bool (uU p))∧w'=w:=sU H
theorem vU (H:eP w B b p vk vu vl u):Calls Tryz.prog 74 #[.pointer (some ⟨b,0,none⟩)] w fun e w'=>e = .returned (.bool (zG p))∧w'=w:=nB H
theorem uD (H:eP w B b p vk vu vl u):Calls Tryz.prog 75 #[.pointer (some ⟨b,0,none⟩)] w fun e w'=>e = .returned (.bool (zF p))∧w'=w:=uB H
def oQ (p:eQ):gV where
 component:=p.comp
 container:=nD p
 containerDir:=mW p
 section_:=pY p
 name:=vR p
 nameNoExt:=oP p
 baseName:=qK p
 nameNoId:=nR p
 dir:=wX p
 path:=nrm p.trim p.s
 pathNoLang:=rC p
 pathNoId:=jL p false false
 pathBefore:=rA p
 base:=tD p
 idBase:=rB p
 ext:=fO p 0
 fmt:=aB3 p
 kind:=yA p
 layout:=sO p
 lang:=vQ p
 custom:=pX p
 langs:=lZ p
 ids:=kW p
 unk:=mQ p
 disabled:=p.dis
 isContent:=tG p
 isBundle:=uV p
 isBranch:=uU p
 isLeaf:=zG p
 isData:=zF p
 typ:=p.typ
theorem oH {P:Program} {fn:Func} {tmps:Array Value} {a:Nat} {t:TypeId} {v:Value} {w:World} {x:Addr} (hf:fn.results = #[.cell a t]) (ha:tmps.getD a undef = .pointer (some x)) (hl:(loadVar t x).run P w = .ok v w) :
 (results fn tmps).run P w = .ok v w:=by
 unfold results;rw[hf];have ha' : tmps[a]?.getD undef = .pointer (some x):=by simpa using ha
 simp[ha',hl,asAddr]
theorem Row.there {w:World} {b:Nat} {cs:List Value} (H:Row w b cs):w.there b 0 cs.length:=fun j hj=>by
 rw[Nat.zero_add];exact ⟨by rw[(H j hj).1];rfl,(H j hj).2⟩
theorem wN {P:Program} {o:Oper} {a:Act} {w:World} {K:Act→World→Prop} {Q:Exit→Act→World→Prop} (t:TypeId) (parts:Array (Nat×Operand)) (cells:Array Value) (ho:o.op = .build t parts)
 (hc:P.built t (parts.map fun (i,x)=>(i,a.eval x)).toList=some cells) (h:K (a.put o.dst (.agg cells)) w):o.wp P a w K Q :=
 wp_build t parts ho (by rw[hc];rfl) (by rw[hc];exact h)
set_option maxRecDepth 100000 in
set_option maxHeartbeats 4000000 in
theorem aFc (H:eP w B b p vk vu vl u) (O:iL p) (hf:-1≤p.fmt) (hl:-1≤p.lang):Calls Tryz.prog 32 #[.pointer (some ⟨b,0,none⟩)] w fun e w'=>∃ v1 v2 v3,e = .returned (iI (oQ p) v1 v2 v3)∧fM w' w.heap.size v1 (lZ p)∧fM w' w.heap.size v2 (kW p)∧fM w' w.heap.size v3 (mQ p)∧Below w.heap.size w w':=by
 have HH:=cD H;have HO:=cD O;clear H O;have hB1:Below w.heap.size w (w.alloc (.cells (#[.string ⟨#[]⟩,.string ⟨#[]⟩,.string ⟨#[]⟩,.string ⟨#[]⟩,.string ⟨#[]⟩,.string ⟨#[]⟩,.string ⟨#[]⟩,.string ⟨#[]⟩,.string ⟨#[]⟩,.string ⟨#[]⟩,.string ⟨#[]⟩,.string ⟨#[]⟩,.string ⟨#[]⟩,.string ⟨#[]⟩,.string ⟨#[]⟩,.string ⟨#[]⟩,.string ⟨#[]⟩,.string ⟨#[]⟩,.string ⟨#[]⟩,.string ⟨#[]⟩,.string ⟨#[]⟩,.slice none 0 0,.slice none 0 0,.slice none 0 0,.bool false,.bool false,.bool false,.bool false,.bool false,.bool false,.int .i64 0]) 28)):=(Below.refl _ _).alloc (Nat.le_refl _) _
 have hR1:Row (w.alloc (.cells (#[.string ⟨#[]⟩,.string ⟨#[]⟩,.string ⟨#[]⟩,.string ⟨#[]⟩,.string ⟨#[]⟩,.string ⟨#[]⟩,.string ⟨#[]⟩,.string ⟨#[]⟩,.string ⟨#[]⟩,.string ⟨#[]⟩,.string ⟨#[]⟩,.string ⟨#[]⟩,.string ⟨#[]⟩,.string ⟨#[]⟩,.string ⟨#[]⟩,.string ⟨#[]⟩,.string ⟨#[]⟩,.string ⟨#[]⟩,.string ⟨#[]⟩,.string ⟨#[]⟩,.string ⟨#[]⟩,.slice none 0 0,.slice none 0 0,.slice none 0 0,.bool false,.bool false,.bool false,.bool false,.bool false,.bool false,.int .i64 0]) 28)) w.heap.size eJ:=Row.new w eJ _;go_enter Tryz.func32,Tryz.ntmps32;go_wp2_with fail
 obtain ⟨w1,hw1⟩:∃ w1,w.alloc (.cells (#[.string ⟨#[]⟩,.string ⟨#[]⟩,.string ⟨#[]⟩,.string ⟨#[]⟩,.string ⟨#[]⟩,.string ⟨#[]⟩,.string ⟨#[]⟩,.string ⟨#[]⟩,.string ⟨#[]⟩,.string ⟨#[]⟩,.string ⟨#[]⟩,.string ⟨#[]⟩,.string ⟨#[]⟩,.string ⟨#[]⟩,.string ⟨#[]⟩,.string ⟨#[]⟩,.string ⟨#[]⟩,.string ⟨#[]⟩,.string ⟨#[]⟩,.string ⟨#[]⟩,.string ⟨#[]⟩,.slice none 0 0,.slice none 0 0,.slice none 0 0,.bool false,.bool false,.bool false,.bool false,.bool false,.bool false,.int .i64 0]) 28)=w1:=⟨_,rfl⟩
 rw[hw1] at hB1 hR1 ⊢;clear hw1;have HH:=cD (HH.out.below hB1);have HB1:=cD hB1;have HR:=cD hR1;have HB:=cD (Below.refl w1.heap.size w1);clear hB1 hR1
 (refine (rS (HH.out.below HB.out)).mono ?_)
 rintro e w' ⟨rfl,rfl⟩;go_wp2_with fail
 (refine (rT (HH.out.below HB.out) HO.out).mono ?_)
 rintro e w' ⟨rfl,hd⟩;replace HB:=cD (eH HB.out (fD.below hd));clear hd;go_wp2_with fail
 (refine (uC (HH.out.below HB.out) HO.out).mono ?_)
 rintro e w' ⟨rfl,hd⟩;replace HB:=cD (eH HB.out (fD.below hd));clear hd;go_wp2_with fail
 (refine (aAk (HH.out.below HB.out) HO.out).mono ?_)
 rintro e w' ⟨rfl,hd⟩;replace HB:=cD (eH HB.out (fD.below hd));clear hd;go_wp2_with fail
 (refine (aEb (HH.out.below HB.out) HO.out).mono ?_)
 rintro e w' ⟨rfl,hd⟩;replace HB:=cD (eH HB.out (fD.below hd));clear hd;go_wp2_with fail
 (refine (xK (HH.out.below HB.out) HO.out).mono ?_)
 rintro e w' ⟨rfl,hd⟩;replace HB:=cD (eH HB.out (fD.below hd));clear hd;go_wp2_with fail
 (refine (qR (HH.out.below HB.out) HO.out).mono ?_)
 rintro e w' ⟨rfl,hd⟩;replace HB:=cD (eH HB.out hd);clear hd;go_wp2_with fail
 (refine (oW (HH.out.below HB.out) HO.out).mono ?_)
 rintro e w' ⟨rfl,hd⟩;replace HB:=cD (eH HB.out hd);clear hd;go_wp2_with fail
 (refine (zO (HH.out.below HB.out) HO.out).mono ?_)
 rintro e w' ⟨rfl,hd⟩;replace HB:=cD (eH HB.out (fD.below hd));clear hd;go_wp2_with fail
 (refine (qS (HH.out.below HB.out)).mono ?_)
 rintro e w' ⟨rfl,rfl⟩;go_wp2_with fail
 (refine (wP (HH.out.below HB.out) HO.out).mono ?_)
 rintro e w' ⟨rfl,hd⟩;replace HB:=cD (eH HB.out hd);clear hd;go_wp2_with fail
 (refine (sG (HH.out.below HB.out) HO.out).mono ?_)
 rintro e w' ⟨rfl,hd⟩;replace HB:=cD (eH HB.out hd);clear hd;go_wp2_with fail
 (refine (wO (HH.out.below HB.out) HO.out hf hl).mono ?_)
 rintro e w' ⟨rfl,hd⟩;replace HB:=cD (eH HB.out hd);clear hd;go_wp2_with fail
 (refine (xG (HH.out.below HB.out) HO.out).mono ?_)
 rintro e w' ⟨rfl,hd⟩;replace HB:=cD (eH HB.out hd);clear hd;go_wp2_with fail
 (refine (sT (HH.out.below HB.out) HO.out).mono ?_)
 rintro e w' ⟨rfl,hd⟩;replace HB:=cD (eH HB.out hd);clear hd;go_wp2_with fail
 (refine (aFe (HH.out.below HB.out) HO.out).mono ?_)
 rintro e w' ⟨rfl,hd⟩;replace HB:=cD (eH HB.out hd);clear hd;go_wp2_with fail
 (refine (vV (HH.out.below HB.out) HO.out).mono ?_)
 rintro e w' ⟨rfl,hd⟩;replace HB:=cD (eH HB.out hd);clear hd;go_wp2_with fail
 (refine (aFf (HH.out.below HB.out) HO.out).mono ?_)
 rintro e w' ⟨rfl,hd⟩;replace HB:=cD (eH HB.out hd);clear hd;go_wp2_with fail
 (refine (aCs (HH.out.below HB.out) HO.out).mono ?_)
 rintro e w' ⟨rfl,hd⟩;replace HB:=cD (eH HB.out hd);clear hd;go_wp2_with fail
 (refine (aEa (HH.out.below HB.out) HO.out).mono ?_)
 rintro e w' ⟨rfl,hd⟩;replace HB:=cD (eH HB.out hd);clear hd;go_wp2_with fail
 (refine (aA4 (HH.out.below HB.out) HO.out).mono ?_)
 rintro e w' ⟨rfl,hd⟩;replace HB:=cD (eH HB.out hd);clear hd;go_wp2_with fail
 (refine (aCr (HH.out.below HB.out) HO.out).mono ?_)
 rintro e w' ⟨v21,rfl,hs,hd⟩;have S21:=cD (hs.mono (show w.heap.size+1≤_ from Nat.lt_of_lt_of_le (HR.out.lt bF) HB.out.size));replace HB:=cD (eH HB.out hd);obtain ⟨A21,c21,hv21,_⟩:=S21.out;rw[hv21];replace hv21:=cD hv21;clear hd hs;go_wp2_with fail
 (refine (vT (HH.out.below HB.out) HO.out).mono ?_)
 rintro e w' ⟨v22,rfl,hs,hd⟩;have S22:=cD (hs.mono (show w.heap.size+1≤_ from Nat.lt_of_lt_of_le (HR.out.lt bF) HB.out.size));replace S21:=cD (S21.out.below hd);replace HB:=cD (eH HB.out hd);obtain ⟨A22,c22,hv22,_⟩:=S22.out;rw[hv22];replace hv22:=cD hv22;clear hd hs;go_wp2_with fail
 (refine (rH (HH.out.below HB.out) HO.out).mono ?_)
 rintro e w' ⟨v23,rfl,hs,hd⟩;have S23:=cD (hs.mono (show w.heap.size+1≤_ from Nat.lt_of_lt_of_le (HR.out.lt bF) HB.out.size));replace S21:=cD (S21.out.below hd);replace S22:=cD (S22.out.below hd);replace HB:=cD (eH HB.out hd);obtain ⟨A23,c23,hv23,_⟩:=S23.out;rw[hv23];replace hv23:=cD hv23;clear hd hs;go_wp2_with fail
 (refine (yO (HH.out.below HB.out)).mono ?_)
 rintro e w' ⟨rfl,rfl⟩;go_wp2_with fail
 (refine (yR (HH.out.below HB.out)).mono ?_)
 rintro e w' ⟨rfl,rfl⟩;go_wp2_with fail
 (refine (aAj (HH.out.below HB.out)).mono ?_)
 rintro e w' ⟨rfl,rfl⟩;go_wp2_with fail
 (refine (uA (HH.out.below HB.out)).mono ?_)
 rintro e w' ⟨rfl,rfl⟩;go_wp2_with fail
 (refine (vU (HH.out.below HB.out)).mono ?_)
 rintro e w' ⟨rfl,rfl⟩;go_wp2_with fail
 (refine (uD (HH.out.below HB.out)).mono ?_)
 rintro e w' ⟨rfl,rfl⟩;go_wp2_with fail
 (refine (sV (HH.out.below HB.out)).mono ?_)
 rintro e w' ⟨rfl,rfl⟩;go_wp2_with fail
 have hRf:=HR.out.below HB.out (HR.out.lt bF);have ht:World.there _ w.heap.size 0 31:=hRf.there
 obtain ⟨C,hC⟩:∃ C:Array Value,#[.string (p.comp),.string (nD p),.string (mW p),.string (pY p),.string (vR p),.string (oP p),.string (qK p),.string (nR p),.string (wX p),.string (nrm p.trim p.s),.string (rC p),.string (jL p false false),.string (rA p),.string (tD p),.string (rB p),.string (fO p 0),.string (aB3 p),.string (yA p),.string (sO p),.string (vQ p),.string (pX p),.slice A21 (lZ p).length c21,.slice A22 (kW p).length c22,.slice A23 (mQ p).length c23,.bool (p.dis),.bool (tG p),.bool (uV p),.bool (uU p),.bool (zG p),.bool (zF p),.int .i64 p.typ]=C:=⟨_,rfl⟩
 refine wN 28 _ C rfl (hC▸by kernel_rfl) ?_;have hs:C.size=31:=by rw[← hC];rfl
 have hl:C.toList.length=31:=by simpa using hs
 have hone:C.all (·.oneCell')=true:=by rw[← hC];kernel_rfl
 have hB4:=HB.out;refine (show ∀ (a:Act) (w:World),wpList _ _ _ _ a w→_ from by assumption) _ _ ?_;refine wpList_store_mid rfl 28 _ _ rfl w.heap.size 0 C rfl rfl (by rw[hs];exact ht) (by rw[hs];kernel_rfl) hone ?_;have hr:=World.rangeAt_setCells_same _ w.heap.size 0 C.toList (by rw[hl];exact ht);have hld:=run_loadVar_mid (P:=Tryz.prog) _ w.heap.size 0 28 C.toList _ hr Tryz.underlying28 rfl (by rw[hl];kernel_rfl);have hbw:Below w'.heap.size w' w':=Below.refl _ _;have hz:w.heap.size < w'.heap.size:=Nat.lt_of_lt_of_le (HR.out.lt bF) HB.out.size;have hfar:∀ k,k≠w.heap.size→(w'.setCells w.heap.size 0 C.toList).heap[k]? = w'.heap[k]?:=fun k hk=>mC _ _ k hk;have hbel:Below w.heap.size w (w'.setCells w.heap.size 0 C.toList):=below_setCells (Nat.le_refl _) _ _ _ (HB1.out.trans (HB.out.mono HB1.out.size))
 obtain ⟨W,hW⟩:∃ W,w'.setCells w.heap.size 0 C.toList=W:=⟨_,rfl⟩
 rw[hW] at hld hbel hfar ⊢;have s1:=cD (S21.out.far fun k hk _=>hfar k bA);have s2:=cD (S22.out.far fun k hk _=>hfar k bA);have s3:=cD (S23.out.far fun k hk _=>hfar k bA);have HBel:=cD hbel;have HC:=cD hC;clear hC hbel hfar hW hz hbw hr hB4 hone hl hs ht hRf S21 S22 S23;go_wp2_with fail
 refine bodyPost_ret (v:=.agg C) (oH Tryz.results32 rfl (by simpa using hld)) rfl ⟨v21,v22,v23,?_,s1.out.mono (Nat.le_succ _),s2.out.mono (Nat.le_succ _),s3.out.mono (Nat.le_succ _),HBel.out⟩;rw[← HC.out,hv21.out,hv22.out,hv23.out];rfl
end
end Go.Proofs.YtbkobfoaphcamaaGreatDoor.Path
namespace Go.Proofs.YtbkobfoaphcamaaGreatDoor.Path
open Go.RowKit Go.WideMaps Go.Proofs.YtbkobfoaphcamaaGreatDoorW.PrintWords Go.Proofs.YtbkobfoaphcamaaGreatDoor.Base Go.Proofs.YtbkobfoaphcamaaGreatDoor.Lower
structure SiteIn (w:World) (st:fP) (vl vd vf vc:Value):Prop where
 l:fM w 0 vl st.langs
 d:fM w 0 vd st.dis
 f:nA w 0 vf st.fmts
 c:fM w 0 vc st.cont
theorem SiteIn.below {w w' : World} {st:fP} {vl vd vf vc:Value} (H:SiteIn w st vl vd vf vc) (hb:Below w.heap.size w w'):SiteIn w' st vl vd vf vc :=
 ⟨H.l.below hb,H.d.below hb,H.f.below hb,H.c.below hb⟩
def Told (w:World) (B:Nat) (p:eQ) (v1 v2 v3:Value):Prop:=fM w B v1 (lZ p)∧fM w B v2 (kW p)∧fM w B v3 (mQ p)
theorem Told.below {w w' : World} {B:Nat} {p:eQ} {v1 v2 v3:Value} (H:Told w B p v1 v2 v3) (hb:Below w.heap.size w w'):Told w' B p v1 v2 v3:=⟨H.1.below hb,H.2.1.below hb,H.2.2.below hb⟩
def jX (t:gV) (v1 v2 v3:Value):Array Value:=(pJ t v1 v2 v3).toArray
theorem vJ (t:gV) (A1 A2 A3:Option Addr) (n1 n2 n3 c1 c2 c3:Nat):(jX t (.slice A1 n1 c1) (.slice A2 n2 c2) (.slice A3 n3 c3)).all (·.oneCell')=true:=by kernel_rfl
def TZ:Array Value:=#[.string ⟨#[]⟩,.string ⟨#[]⟩,.string ⟨#[]⟩,.string ⟨#[]⟩,.string ⟨#[]⟩,.string ⟨#[]⟩,.string ⟨#[]⟩,.string ⟨#[]⟩,.string ⟨#[]⟩,.string ⟨#[]⟩,.string ⟨#[]⟩,.string ⟨#[]⟩,.string ⟨#[]⟩,.string ⟨#[]⟩,.string ⟨#[]⟩,.string ⟨#[]⟩,.string ⟨#[]⟩,.string ⟨#[]⟩,.string ⟨#[]⟩,.string ⟨#[]⟩,.string ⟨#[]⟩,.slice none 0 0,.slice none 0 0,.slice none 0 0,.bool false,.bool false,.bool false,.bool false,.bool false,.bool false,.int .i64 0]
section
variable {w:World} {st:fP} {vl vd vf vc:Value}
set_option maxRecDepth 100000 in
set_option maxHeartbeats 4000000 in
theorem xV (S:SiteIn w st vl vd vf vc) (OS:jT st) (comp s:ByteArray) (hs:s.size≤900000) (ha:asc s) :
 Calls Tryz.prog 22 #[.agg #[vl,vd,vf,vc],.string comp,.string s] w fun e w' =>
  ∃ v1 v2 v3,e = .returned (iI (oQ (jN (eS st) comp (norm s))) v1 v2 v3)∧Told w' w.heap.size (jN (eS st) comp (norm s)) v1 v2 v3∧Below w.heap.size w w':=by
 have HSI:=cD S;have hok:=aB6 (eS st) comp (norm s) (by rw[norm_size];exact hs);have HOK:=cD hok;have HA:=cD ha;obtain ⟨Al,cl,rfl,_,_⟩:=S.l;obtain ⟨Ad,cd,rfl,_,_⟩:=S.d;obtain ⟨Af,cf,rfl,_,_⟩:=S.f;obtain ⟨Ac,cc,rfl,_,_⟩:=S.c;clear S hok ha;have hB1:Below w.heap.size w (w.alloc (.cells #[.slice Al st.langs.length cl,.slice Ad st.dis.length cd,.slice Af st.fmts.length cf,.slice Ac st.cont.length cc] 25)):=(Below.refl _ _).alloc (Nat.le_refl _) _;have hR1:=Row.new w [.slice Al st.langs.length cl,.slice Ad st.dis.length cd,.slice Af st.fmts.length cf,.slice Ac st.cont.length cc] 25;have hs1:w.heap.size < (w.alloc (.cells #[.slice Al st.langs.length cl,.slice Ad st.dis.length cd,.slice Af st.fmts.length cf,.slice Ac st.cont.length cc] 25)).heap.size:=by simp
 go_enter Tryz.func22,Tryz.ntmps22;go_upto_region 1 with fail
 obtain ⟨w1,hw1⟩:∃ w1,w.alloc (.cells #[.slice Al st.langs.length cl,.slice Ad st.dis.length cd,.slice Af st.fmts.length cf,.slice Ac st.cont.length cc] 25)=w1:=⟨_,rfl⟩
 have hz1:w1.heap.size=w.heap.size+1:=by rw[← hw1];simp
 rw[hw1] at hB1 hR1 hs1 ⊢;clear hw1;have hB2:Below w1.heap.size w1 (w1.alloc (.cells eJ.toArray 28)):=(Below.refl _ _).alloc (Nat.le_refl _) _;have hR2:Row (w1.alloc (.cells eJ.toArray 28)) w1.heap.size eJ:=Row.new w1 eJ _;rw[show eJ.toArray=TZ from rfl] at hB2 hR2
 obtain ⟨w2,hw2⟩:∃ w2,w1.alloc (.cells TZ 28)=w2:=⟨_,rfl⟩
 rw[hw2] at hB2 hR2;change Code.wp _ _ _ _ (w1.alloc (.cells TZ 28));rw[hw2];clear hw2;rw[hz1] at hR2;have hB:Below w.heap.size w w2:=hB1.trans (hB2.mono bA);have hRs:=hR1.below hB2 hs1;have r0:=hRs.at 0 _ rfl;have r1:=hRs.at 1 _ rfl;have r2:=hRs.at 2 _ rfl;have r3:=hRs.at 3 _ rfl;have HB:=cD hB;have HR2:=cD hR2;have hlt2:w.heap.size+1 < w2.heap.size:=hR2.lt bF;have cp:=aCa (HSI.out.l.below hB) (HSI.out.d.below hB) (HSI.out.f.below hB) (HSI.out.c.below hB) OS;clear hB1 hR1 hs1 hB2 hR2 hB hRs hz1;go_wp2_with fail
 refine cp.mono ?_;rintro e w3 ⟨pb,mb,sb,fb,rfl,hS,hb3⟩;have cP:=aCt hS OS comp s hs HA.out;have HB3:=cD hb3;clear cp hS hb3 r0 r1 r2 r3;go_wp2_with fail
 refine cP.mono ?_;rintro e w4 ⟨b,ub,vk,vu,vl,rfl,hp,hb4⟩;have ct:=aFc hp.1 HOK.out.1 HOK.out.2.1 HOK.out.2.2;have HB4:=cD (eH HB3.out hb4);clear cP hp hb4;go_wp2_with fail
 refine ct.mono ?_;rintro e w5 ⟨v1,v2,v3,rfl,hs1,hs2,hs3,hb5⟩;have HB5:=cD (eH HB4.out hb5);have hz5:=HB4.out.size;have S1:=cD hs1;have S2:=cD hs2;have S3:=cD hs3;obtain ⟨A1,c1,e1,_⟩:=S1.out;obtain ⟨A2,c2,e2,_⟩:=S2.out;obtain ⟨A3,c3,e3,_⟩:=S3.out;clear ct hb5 hs1 hs2 hs3
 obtain ⟨C,hC⟩:∃ C:Array Value,jX (oQ (jN (eS st) comp (norm s))) v1 v2 v3=C:=⟨_,rfl⟩
 have hval:iI (oQ (jN (eS st) comp (norm s))) v1 v2 v3 = .agg C:=by rw[← hC];rfl
 have hCs:C.size=31:=by rw[← hC];rfl
 have hl:C.toList.length=31:=by simpa using hCs
 have hone:C.all (·.oneCell')=true:=by rw[← hC,e1,e2,e3];exact vJ _ _ _ _ _ _ _ _ _ _
 have HV:=cD hval;rw[hval];clear hval e1 e2 e3;have HC:=cD hC;have hRf:=HR2.out.below HB5.out hlt2;have ht:World.there _ (w.heap.size+1) 0 31:=hRf.there
 dsimp only
 refine (show ∀ (a:Act) (w:World),wpList _ _ _ _ a w→_ from by assumption) _ _ ?_;refine wpList_store_mid rfl 28 _ _ rfl (w.heap.size+1) 0 C rfl rfl (by rw[hCs];exact ht) (by rw[hCs];kernel_rfl) hone ?_;have hr:=World.rangeAt_setCells_same _ (w.heap.size+1) 0 C.toList (by rw[hl];exact ht);have hld:=run_loadVar_mid (P:=Tryz.prog) _ (w.heap.size+1) 0 28 C.toList _ hr Tryz.underlying28 rfl (by rw[hl];kernel_rfl);have hfar:∀ k,k≠w.heap.size+1→(w5.setCells (w.heap.size+1) 0 C.toList).heap[k]? = w5.heap[k]?:=fun k hk=>mC _ _ k hk;have hbel:Below w.heap.size w (w5.setCells (w.heap.size+1) 0 C.toList):=below_setCells (Nat.le_succ _) _ _ _ (HB.out.trans (HB5.out.mono HB.out.size))
 obtain ⟨W,hW⟩:∃ W,w5.setCells (w.heap.size+1) 0 C.toList=W:=⟨_,rfl⟩
 rw[hW] at hld hbel hfar ⊢;have s1:=cD (S1.out.far fun k hk _=>hfar k bA);have s2:=cD (S2.out.far fun k hk _=>hfar k bA);have s3:=cD (S3.out.far fun k hk _=>hfar k bA);have HBel:=cD hbel;have hz4:w.heap.size≤w4.heap.size:=by omega
 clear hbel hfar hW hr hone hl hCs ht hRf S1 S2 S3;go_wp2_with fail
 refine bodyPost_ret (v:=.agg C) (oH Tryz.results22 rfl (by simpa using hld)) rfl ⟨v1,v2,v3,?_,⟨s1.out.mono hz4,s2.out.mono hz4,s3.out.mono hz4⟩,HBel.out⟩;rw[HV.out]
end
end Go.Proofs.YtbkobfoaphcamaaGreatDoor.Path
namespace Go.Proofs.YtbkobfoaphcamaaGreatDoor.Ext
open Go.RowKit Go.Proofs.YtbkobfoaphcamaaGreatDoorW.PrintWords Go.Proofs.YtbkobfoaphcamaaGreatDoor.Base Go.Proofs.YtbkobfoaphcamaaGreatDoor.PCore
def ascii (l:List UInt8):Bool:=l.all fun c=>decide (c.toNat≤127)
theorem xN (c:UInt8) (r:List UInt8):ascii (c::r)=(decide (c.toNat≤127) && ascii r):=rfl
theorem aC0 (s:ByteArray) (hs:s.size≤140737488355328) (d:Nat):∀ i:Nat,s.size - i=d→i≤s.size→Ev (fun k=>fT.l0 k s i) (ascii ((L s).drop i)):=by
 have hl:=eN s
 induction d with
 | zero =>
  intro i h1 h2;have e:(L s).drop i=[]:=List.drop_of_length_le bA;rw[e];refine Ev.step (f:=fun _=>some true) (fun k=>?_) (Ev.now _);simp only[fT.l0];rw[if_neg bA]
 | succ d ih =>
  intro i h1 h2;have hi:i < (L s).length:=by omega
  have hb:=sM s i hi;have e:(L s).drop i=(L s)[i]::(L s).drop (i+1):=List.drop_eq_getElem_cons hi;rw[e]
  by_cases h:(L s)[i].toNat≤127
  ·have e2:ascii ((L s)[i]::(L s).drop (i+1))=ascii ((L s).drop (i+1)):=by rw[xN,decide_eq_true h,Bool.true_and]
   rw[e2];refine Ev.step (f:=fun k=>fT.l0 k s ((i+1:Nat):Int)) (fun k=>?_) (ih (i+1) bA bA);simp only[fT.l0];rw[if_pos bA,if_pos bA,hb,if_neg bA,w64 bA bA];rfl
  have e2:ascii ((L s)[i]::(L s).drop (i+1))=false:=by rw[xN,decide_eq_false h,Bool.false_and]
  rw[e2];refine Ev.step (f:=fun _=>some false) (fun k=>?_) (Ev.now _);simp only[fT.l0];rw[if_pos bA,if_pos bA,hb,if_pos bA]
theorem aBk (s:ByteArray) (hs:s.size≤140737488355328):Ev (fun k=>fT.f k s) (ascii (L s)):=by
 have h:=aC0 s hs s.size 0 bA bA;exact h
end Go.Proofs.YtbkobfoaphcamaaGreatDoor.Ext
