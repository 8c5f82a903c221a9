/- Texts that the law leans on: MPath, Index, Norm, Parse, Ids, Acc5, Told, ToldWalk, Impl, Asc. Condition: as told at each. -/
import Derived.Deep.MidRow
import Derived.Lib.LazyBuf
import Derived.Test.YtmgdbpjidkdegaaGreatDoorQa
import Derived.Test.YtmgdbpjidkdegaaGreatDoorQ18
set_option linter.unusedVariables false
set_option linter.unusedSimpArgs false
namespace Go.Proofs.YtmgdbpjidkdegaaGreatDoor.Path
open Go.RowKit Go.Proofs.YtmgdbpjidkdegaaGreatDoorW.PrintWords Go.Proofs.YtmgdbpjidkdegaaGreatDoor.Base
def mPath (E:Env) (comp s:ByteArray):PathV:=mDo E comp s { pathZero with comp:=comp }
theorem mPath_s (E:Env) (comp s:ByteArray):(mPath E comp s).s=⟨(mText s.data.toList).toArray⟩∧(mPath E comp s).trim=false∧(mPath E comp s).comp=comp:=by
 obtain ⟨T,hT⟩:∃ T:ByteArray,⟨(mText s.data.toList).toArray⟩=T:=⟨_,rfl⟩
 have hl:L T=mText (L s):=by rw[← hT];exact L_mk _
 have h0:T.data.toList[0]? = some 47:=by show (L T)[0]? = _;rw[hl,← List.head?_eq_getElem?];exact mText_head _
 have hI:In1 T comp T.size ⟨mStart { pathZero with comp:=comp } T,0,0⟩:=In1.start rfl rfl rfl rfl rfl rfl rfl rfl rfl rfl rfl rfl rfl;have h2:=(InD.loop (E:=E) (sk:=mSkip T.data.toList) (nd:=mDots T.data.toList) h0 T.size _ (Nat.le_refl _) (.inl hI)).last h0;unfold mPath mDo;rw[hT];unfold mEnd;obtain ⟨t1,c1,e1⟩:=mSort1_same E (mRun E comp (mStart { pathZero with comp:=comp } T)).sc (mNamed (mRun E comp (mStart { pathZero with comp:=comp } T)).p);obtain ⟨t2,e2⟩:=mSort2_same comp (mSort1 E (mRun E comp (mStart { pathZero with comp:=comp } T)).sc (mNamed (mRun E comp (mStart { pathZero with comp:=comp } T)).p))
 have e3:∀ q:PathV,(mSort3 q).s=q.s∧(mSort3 q).trim=q.trim∧(mSort3 q).comp=q.comp:=by
  intro q;unfold mSort3;split <;> exact ⟨rfl,rfl,rfl⟩
 obtain ⟨a1,a2,a3⟩:=e3 (mSort2 comp (mSort1 E (mRun E comp (mStart { pathZero with comp:=comp } T)).sc (mNamed (mRun E comp (mStart { pathZero with comp:=comp } T)).p)));rw[a1,a2,a3,e2,e1];exact ⟨h2.hs,h2.ht,h2.hc⟩
theorem mPath_ne (E:Env) (comp s:ByteArray):((nrm (mPath E comp s).trim (mPath E comp s).s).toList==[])=false:=by
 obtain ⟨h1,h2,_⟩:=mPath_s E comp s;rw[h1,h2];have hh:=mText_head s.data.toList
 cases hm:mText s.data.toList with
 | nil=>rw[hm] at hh;cases hh
 | cons a r =>
  have:(nrm false ⟨(a::r).toArray⟩).toList=a::r:=by
   show (⟨(a::r).toArray⟩:ByteArray).toList=_;rw[L_toList];exact L_mk _
  rw[this];rfl
theorem mPath_ok (E:Env) (comp s:ByteArray) (hs:s.size≤900000):PathOk (mPath E comp s)∧-1≤(mPath E comp s).fmt∧-1≤(mPath E comp s).lang:=by
 obtain ⟨T,hT⟩:∃ T:ByteArray,⟨(mText s.data.toList).toArray⟩=T:=⟨_,rfl⟩
 have hl:L T=mText (L s):=by rw[← hT];exact L_mk _
 have h0:T.data.toList[0]? = some 47:=by show (L T)[0]? = _;rw[hl,← List.head?_eq_getElem?];exact mText_head _
 have hz:T.size≤1000000:=by have:=mText_length (L s);rw[← L_length,hl];have:=L_length s;omega
 have hI:In1 T comp T.size ⟨mStart { pathZero with comp:=comp } T,0,0⟩:=In1.start rfl rfl rfl rfl rfl rfl rfl rfl rfl rfl rfl rfl rfl;have h2:=(InD.loop (E:=E) (sk:=mSkip T.data.toList) (nd:=mDots T.data.toList) h0 T.size _ (Nat.le_refl _) (.inl hI)).last h0;have h3:=h2.fin (E:=E) hz;unfold mPath mDo;rw[hT];exact h3
end Go.Proofs.YtmgdbpjidkdegaaGreatDoor.Path
namespace Go.Proofs.YtmgdbpjidkdegaaGreatDoor.Index
open Go.RowKit Go.Proofs.YtmgdbpjidkdegaaGreatDoorW.PrintWords Go.Proofs.YtmgdbpjidkdegaaGreatDoor.Base Go.Proofs.YtmgdbpjidkdegaaGreatDoor.PCore
def idx (t:List UInt8):List UInt8→Option Nat
 | []=>if t.isEmpty then some 0 else none
 | c::r=>if t.isPrefixOf (c::r) then some 0 else (idx t r).map (· + 1)
def idxI:Option Nat→Int
 | none=>-1
 | some n=>n
theorem idx_short (t:List UInt8):∀ l:List UInt8,l.length < t.length→idx t l=none
 | [],h=>by cases t with | nil=>simp at h | cons=>rfl
 | c::r,h=>by
  have h1:t.isPrefixOf (c::r)=false:=by
   rw[Bool.eq_false_iff];intro hp;have:=(List.isPrefixOf_iff_prefix.1 hp).length_le;omega
  simp only[idx,h1];rw[idx_short t r (by simp at h;omega)];rfl
theorem prefix_take (t l:List UInt8):t.isPrefixOf l=decide (l.take t.length=t):=by
 rw[Bool.eq_iff_iff,List.isPrefixOf_iff_prefix,decide_eq_true_iff];constructor
 ·rintro ⟨u,rfl⟩;simp
 ·intro h;rw[← h];exact List.take_prefix _ _
theorem extract_at (s:ByteArray) (i n:Nat):(s.extract i (i+n)).toList=((L s).drop i).take n:=by
 rw[L_toList,L_extract];congr 1;omega
theorem ev_zzIndex_l0 (s t:ByteArray) (hs:s.size≤140737488355328) (ht:t.size≤140737488355328) (ht0:0 < t.size) (d:Nat):∀ i:Nat,s.size - i=d→i≤s.size →
 Ev (fun k=>paths_zzIndex.l0 k s t i) (idxI ((idx (L t) ((L s).drop i)).map (· + i))):=by
 have hl:=L_length s;have hlt:=L_length t
 induction d with
 | zero =>
  intro i h1 h2;rw[idx_short (L t) _ (by simp;omega)];refine Ev.step (f:=fun _=>some (-1)) (fun k=>?_) (Ev.now _);simp only[paths_zzIndex.l0];rw[if_neg (by rw[w64 bA bA];omega)]
 | succ d ih =>
  intro i h1 h2
  by_cases hfit:i+t.size≤s.size
  ·have hi:i < (L s).length:=by omega
   have e:(L s).drop i=(L s)[i]::(L s).drop (i+1):=List.drop_eq_getElem_cons hi;have hx:(s.extract i (i+t.size)).toList=((L s).drop i).take (L t).length:=by rw[extract_at,hlt]
   by_cases h:((L s).drop i).take (L t).length=L t
   ·have e2:idx (L t) ((L s).drop i)=some 0:=by
     have:(L t).isPrefixOf ((L s)[i]::(L s).drop (i+1))=true:=by rw[prefix_take,← e];simpa using h
     rw[e];simp only[idx,this,if_true]
    rw[e2];refine Ev.step (f:=fun _=>some (i:Int)) (fun k=>?_) (by simpa [idxI] using Ev.now (i:Int));simp only[paths_zzIndex.l0];rw[w64 (n:=(i:Int)+t.size) bA bA,if_pos bA,if_pos bA,if_pos bA];rw[show ((i:Int)+(t.size:Int)).toNat=i+t.size from by omega,show ((i:Nat):Int).toNat=i from by omega,hx,if_pos (by rw[h,L_toList])]
   ·have e2:idx (L t) ((L s).drop i)=(idx (L t) ((L s).drop (i+1))).map (· + 1):=by
     have:(L t).isPrefixOf ((L s)[i]::(L s).drop (i+1))=false:=by rw[prefix_take,← e];simpa using h
     rw[e];simp only[idx,this];rfl
    have e3:(idx (L t) ((L s).drop i)).map (· + i)=(idx (L t) ((L s).drop (i+1))).map (· + (i+1)):=by
     rw[e2,Option.map_map];congr 1;funext x;simp only[Function.comp];omega
    rw[e3];refine Ev.step (f:=fun k=>paths_zzIndex.l0 k s t ((i+1:Nat):Int)) (fun k=>?_) (ih (i+1) bA bA);simp only[paths_zzIndex.l0];rw[w64 (n:=(i:Int)+t.size) bA bA,if_pos bA,if_pos bA,if_pos bA];rw[show ((i:Int)+(t.size:Int)).toNat=i+t.size from by omega,show ((i:Nat):Int).toNat=i from by omega,hx,if_neg (by rw[L_toList];exact h),w64 bA bA];rfl
  ·rw[idx_short (L t) _ (by simp;omega)];refine Ev.step (f:=fun _=>some (-1)) (fun k=>?_) (Ev.now _);simp only[paths_zzIndex.l0];rw[if_neg (by rw[w64 bA bA];omega)]
theorem ev_zzIndex (s t:ByteArray) (hs:s.size≤140737488355328) (ht:t.size≤140737488355328) (ht0:0 < t.size):Ev (fun k=>paths_zzIndex.f k s t) (idxI (idx (L t) (L s))):=by
 have h:=ev_zzIndex_l0 s t hs ht ht0 s.size 0 bA bA;simp only[List.drop_zero,Nat.add_zero] at h;have e:(idx (L t) (L s)).map (fun x=>x)=idx (L t) (L s):=by cases idx (L t) (L s) <;> rfl
 rw[e] at h;exact h
theorem zzIndex_is (s t:ByteArray) (r:Int) (w:World) (hs:s.size≤140737488355328) (ht:t.size≤140737488355328) (ht0:0 < t.size) (hr:idxI (idx (L t) (L s))=r) :
 Calls Tryz.prog 145 #[.string s,.string t] w fun e w'=>e = .returned (.int .i64 r)∧Drawn0 w w':=by
 obtain ⟨k,hk⟩:=(ev_zzIndex s t hs ht ht0).rounds;exact paths_zzIndex.calls k s t r w (by rw[hk,hr])
theorem idx_one (c:UInt8):∀ l:List UInt8,(idx [c] l=none∧∀ x∈l,x≠c)∨∃ n,idx [c] l=some n∧n < l.length∧l=l.take n++c::l.drop (n+1)∧∀ x∈l.take n,x≠c
 | []=>.inl ⟨rfl,by simp⟩
 | a::r=>by
  by_cases h:a=c
  ·subst h;exact .inr ⟨0,by simp[idx,List.isPrefixOf],by simp,by simp,by simp⟩
  ·have hp:List.isPrefixOf [c] (a::r)=false:=by simp[List.isPrefixOf];exact fun e=>h e.symm
   rcases idx_one c r with ⟨h1,h2⟩ | ⟨n,h1,h2,h3,h4⟩
   ·left;refine ⟨by simp[idx,hp,h1],?_⟩;intro x hx;rcases List.mem_cons.1 hx with rfl | hx
    ·exact h
    ·exact h2 x hx
   ·right;refine ⟨n+1,by simp[idx,hp,h1],by simp;omega,?_,?_⟩
    ·simp only[List.take_succ_cons,List.drop_succ_cons,List.cons_append];congr 1
    ·intro x hx;simp only[List.take_succ_cons,List.mem_cons] at hx;rcases hx with rfl | hx
     ·exact h
     ·exact h4 x hx
end Go.Proofs.YtmgdbpjidkdegaaGreatDoor.Index
namespace Go.Proofs.YtmgdbpjidkdegaaGreatDoor.Norm
open Go.RowKit Go.Proofs.YtmgdbpjidkdegaaGreatDoorW.PrintWords Go.Proofs.YtmgdbpjidkdegaaGreatDoor.Base Go.Proofs.YtmgdbpjidkdegaaGreatDoor.Lower Go.Proofs.YtmgdbpjidkdegaaGreatDoor.Index
theorem bytesOf_append (a b:ByteArray):bytesOf (a++b)=bytesOf a++bytesOf b:=by simp[bytesOf]
theorem strOf_bytes (a:ByteArray):strOfNums (bytesOf a)=a:=by
 apply L_inj;have e:L (strOfNums (bytesOf a))=(bytesOf a).map fun n=>UInt8.ofNat n.toNat:=strOfNums_data _;rw[e,bytesOf,List.map_map]
 conv=>rhs;rw[← List.map_id (L a)]
 refine List.map_congr_left fun b _=>?_
 simp
theorem hyp_none (l:List UInt8) (h:∀ x∈l,x≠32):l.map hypB=l:=by
 conv=>rhs;rw[← List.map_id l]
 refine List.map_congr_left fun b hb=>?_;unfold hypB;rw[if_neg (h b hb)];rfl
theorem info5:(Tryz.prog.info? 5).map (fun i=>(i.zero,i.size,i.bytes))=some (some (.int .u8 0),1,1):=by kernel_rfl
def strLen:Value→Nat
 | .string r=>r.size
 | _=>0
set_option maxHeartbeats 800000 in
theorem replace_calls (s:ByteArray) (w:World) (hs:s.size≤140737488351232) :
 Calls Tryz.prog 113 #[.string s,.string ⟨#[32]⟩,.string ⟨#[45]⟩] w fun e w'=>e = .returned (.string (hyp s))∧Below w.heap.size w w':=by
 have hinf:=info5;have HINF:=bR hinf;clear hinf;go_enter Tryz.func113,Tryz.ntmps113;go_wp2_with fail
 go_loopw [0,7] (fun sv ov wr=>∃ (rest done:ByteArray),sv = .string rest∧Aside0 (wr.ownsRow w.heap.size 5 1 ov (bytesOf done).length (nums .u8 (bytesOf done)))∧Aside0 (L done++(L rest).map hypB=(L s).map hypB)∧done.size+rest.size≤140737488351232∧Aside0 (Below w.heap.size w wr))
  (fun sv _ _=>strLen sv)
 case atStart=>exact ⟨s,ByteArray.empty,rfl,⟨own_nil _ _ _ _⟩,⟨by simp[L]⟩,by simp;exact hs,⟨Below.refl _ _⟩⟩
 case round =>
  obtain ⟨rest,done,rfl,HO,HT,hsz,HB⟩:=hrel;have hl:=L_length rest;have hld:(bytesOf done).length=done.size:=bytesOf_length done;have hb:=HB.out.size;rcases idx_one 32 (L rest) with ⟨h1,h2⟩ | ⟨n,h1,h2,h3,h4⟩
  ·have e:hyp s=done++rest:=by
    apply L_inj;rw[L_hyp,← HT.out,L_append,hyp_none _ h2]
   have HE:=bR e;have hz:=fun w=>zzIndex_is rest ⟨#[32]⟩ (-1) w bA bG bG (by show idxI (idx [32] (L rest)) = -1;rw[h1];rfl);have HLD:=bR hld;clear e h1 h2 hld hl;go_wp2_with fail
   (with_reducible refine (hz _).mono ?_)
   rintro e w' ⟨rfl,⟨nd,rfl⟩⟩
   go_wp2_with (at_builtin;refine print_append_str (w0:=w) w.heap.size rfl _ _ 64 9 5 rfl Tryz.underlying64 Tryz.underlying9 HINF.out _ (bytesOf done) rest rfl rfl (pw_own_drewN HO.out _) ?hb ?hs ?hz ?_)
   case hb=>exact below_then HB.out hb (Drawn0.below ⟨⟨_,rfl⟩⟩)
   case hs=>simpa using hb
   case hz=>rw[HLD.out];omega
   intro v1 w1 ho1 hb1 hg1;have hstr:=own_string (P:=Tryz.prog) (src:=64) (dst:=9) Tryz.underlying64 Tryz.underlying5 Tryz.underlying9 ho1;have HO1:=bR ho1;have HB1:=bR hb1;clear ho1 hb1 hg1;obtain ⟨A1,c1,rfl⟩:=own_slice HO1.out;go_wp2_with fail
   go_ret;exact ⟨by rw[HE.out,← strOf_bytes (done++rest),bytesOf_append];rfl,HB1.out⟩
  ·have hn:n < rest.size:=by omega
   have hz:=fun w=>zzIndex_is rest ⟨#[32]⟩ n w bA bG bG (by show idxI (idx [32] (L rest))=n;rw[h1];rfl);have es1:(rest.extract 0 n).size=n:=by rw[← L_length,L_extract];simp;omega
   have es2:(rest.extract (n+1) rest.size).size=rest.size - (n+1):=by rw[← L_length,L_extract];simp;omega
   have eL:L ((done++rest.extract 0 n)++(⟨#[45]⟩:ByteArray))++(L (rest.extract (n+1) rest.size)).map hypB=(L s).map hypB:=by
    rw[← HT.out,L_append,L_append,L_extract,L_extract];simp only[List.drop_zero,Nat.sub_zero];rw[List.take_of_length_le (l:=(L rest).drop (n+1)) (by simp;omega)]
    conv=>rhs;rw[h3]
    rw[List.map_append,hyp_none _ h4,List.map_cons];simp only[List.append_assoc];rfl
   have HE:=bR eL;have HS1:=bR es1;have HS2:=bR es2;have HLD:=bR hld;clear h1 h2 h3 h4 hld hl eL es1 es2;go_wp2_with fail
   (with_reducible refine (hz _).mono ?_)
   rintro e w' ⟨rfl,⟨nd,rfl⟩⟩
   go_wp2_with (at_builtin;refine print_append_str (w0:=w) w.heap.size rfl _ _ 64 9 5 rfl Tryz.underlying64 Tryz.underlying9 HINF.out _ (bytesOf done) (rest.extract 0 n) rfl rfl (pw_own_drewN HO.out _) ?hb ?hs ?hz ?_)
   case hb=>exact below_then HB.out hb (Drawn0.below ⟨⟨_,rfl⟩⟩)
   case hs=>simpa using hb
   case hz=>rw[HLD.out,HS1.out];omega
   intro v1 w1 ho1 hb1 hg1;have hsz1:w.heap.size≤w1.heap.size:=hb1.size
   obtain ⟨xs1,hx1⟩:∃ xs1,bytesOf done++bytesOf (rest.extract 0 n)=xs1:=⟨_,rfl⟩
   try rw[← List.length_append] at ho1
   rw[hx1] at ho1;have HX1:=bR hx1;clear hx1;have HO1:=bR ho1;have HB1:=bR hb1;clear ho1 hb1 hg1
   go_wp2_with (at_builtin;refine print_append_str (w0:=w) w.heap.size rfl _ _ 64 9 5 rfl Tryz.underlying64 Tryz.underlying9 HINF.out _ xs1 ⟨#[45]⟩ rfl rfl HO1.out HB1.out ?hs2 ?hz2 ?_)
   case hs2=>exact hsz1
   case hz2=>rw[← HX1.out,← bytesOf_append,bytesOf_length,size_append,HS1.out];show _+1≤_;omega
   intro v2 w2 ho2 hb2 hg2;have HO2:=bR ho2;have HB2:=bR hb2;clear ho2 hb2 hg2;obtain ⟨A2,c2,rfl⟩:=own_slice HO2.out;go_wp2_with fail
   go_roundw
   case rel =>
    refine ⟨rest.extract (n+1) rest.size,(done++rest.extract 0 n)++(⟨#[45]⟩:ByteArray),rfl,⟨?_⟩,HE,?_,HB2⟩
    ·rw[bytesOf_append,bytesOf_append,HX1.out];simpa using HO2.out
    ·rw[size_append,size_append,HS1.out,HS2.out];show _+1+_≤_;omega
   case measure=>simp[strLen];omega
theorem normalizeBasic_calls (s:ByteArray) (w:World) (hs:s.size≤140737488351232) (ha:∀ c∈L s,c.toNat≤127) :
 Calls Tryz.prog 62 #[.string s] w fun e w'=>e = .returned (.string (norm s))∧Below w.heap.size w w':=by
 have e:(⟨(Lib.toLowerA s.data.toList).toArray⟩:ByteArray)=low s:=by
  unfold low Lib.toLowerA;congr 2;refine List.map_congr_left fun c _=>?_;unfold Lib.lowerB Lib.isUpperB lowB
  simp[UInt8.le_iff_toNat_le]
 have h1:=fun w=>Tryz.strings_ToLower_ascii s w bA (fun j b hb=>by have:=ha b (List.mem_of_getElem? hb);omega);rw[e] at h1;have hn:norm s=hyp (low s):=rfl;have HN:=bR hn;have hsz:(low s).size≤140737488351232:=by rw[low_size];exact hs
 clear hn e;go_enter Tryz.func62,Tryz.ntmps62;go_wp2_with fail
 (with_reducible refine (h1 _).mono ?_)
 rintro e w1 ⟨rfl,HB1⟩;have HB1:=bR HB1;go_wp2_with fail
 (with_reducible refine (replace_calls (low s) _ hsz).mono ?_)
 rintro e w2 ⟨rfl,HB2⟩;have HB2:=bR HB2;go_wp2_with fail
 go_ret;exact ⟨by rw[HN.out];rfl,below_then HB1.out HB1.out.size HB2.out⟩
end Go.Proofs.YtmgdbpjidkdegaaGreatDoor.Norm
set_option linter.unusedSimpArgs false
set_option linter.unusedVariables false
namespace Go.Proofs.YtmgdbpjidkdegaaGreatDoor.Path
open Go.RowKit Go.WideMaps Go.Proofs.YtmgdbpjidkdegaaGreatDoorW.PrintWords Go.Proofs.YtmgdbpjidkdegaaGreatDoor.Base Go.Proofs.YtmgdbpjidkdegaaGreatDoor.Lower Go.Proofs.YtmgdbpjidkdegaaGreatDoor.Norm
theorem asc_all {s:ByteArray} (h:asc s):∀ c∈L s,c.toNat≤127:=by
 intro c hc;obtain ⟨k,hk⟩:=List.mem_iff_getElem?.1 hc;have:=h k c hk;omega
theorem asc_norm {s:ByteArray} (h:asc s):asc (norm s):=by
 intro j c hc;have e:(norm s).data.toList=(L s).map fun c=>hypB (lowB c):=L_norm s;rw[e,List.getElem?_map] at hc
 cases hx:(L s)[j]? with
 | none=>rw[hx] at hc;cases hc
 | some x =>
  rw[hx] at hc;injection hc with hc
  have hx2:=h j x hx
  have h1:(lowB x).toNat < 128:=by
   unfold lowB;split
   ·rename_i h1
    rw[UInt8.toNat_add];have:(32:UInt8).toNat=32:=rfl;omega
   ·exact hx2
  rw[← hc];show (if lowB x=32 then (45:UInt8) else lowB x).toNat < 128
  by_cases c:lowB x=32
  ·rw[if_pos c];decide
  ·rw[if_neg c];exact h1
theorem PathAt.lower {w:World} {B B' b:Nat} {p:PathV} {vk vu vl u:Value} (H:PathAt w B b p vk vu vl u) (h:B'≤B):PathAt w B' b p vk vu vl u :=
 ⟨Nat.le_trans h H.base,H.row,own_weaken H.ok h,own_weaken H.ou h,own_weaken H.ol h,H.nk,H.nu,H.nl,H.ku⟩
def Both (w:World) (B:Nat) (E:Env) (comp s:ByteArray) (b ub:Nat) (vk vu vl:Value):Prop :=
 PathAt w B b (mPath E comp (norm s)) vk vu vl (.pointer (some ⟨ub,0,none⟩))∧∃ vk2 vu2 vl2 u2,PathAt w B ub (mPath E comp s) vk2 vu2 vl2 u2
theorem Both.below {w w' : World} {B:Nat} {E:Env} {comp s:ByteArray} {b ub:Nat} {vk vu vl:Value} (H:Both w B E comp s b ub vk vu vl) (hb:Below w.heap.size w w'):Both w' B E comp s b ub vk vu vl:=by
 obtain ⟨h1,vk2,vu2,vl2,u2,h2⟩:=H;exact ⟨h1.below hb,vk2,vu2,vl2,u2,h2.below hb⟩
section
variable {w:World} {pb mb sb fb:Nat} {st:SiteV} {sl sd sf sc:Value}
set_option maxRecDepth 100000 in
set_option maxHeartbeats 4000000 in
theorem parse_calls (S:ParserAt w pb st sl sd sf sc mb sb fb) (OS:SiteOk st) (comp s:ByteArray) (hs:s.size≤900000) (ha:asc s) :
 Calls Tryz.prog 109 #[.pointer (some ⟨pb,0,none⟩),.string comp,.string s] w fun e w' =>
  ∃ b ub vk vu vl,e = .returned (.tuple #[.pointer (some ⟨b,0,none⟩),.nilIface])∧Both w' w.heap.size (envOf st) comp s b ub vk vu vl∧Below w.heap.size w w':=by
 have HS:=bR S;have cn:=normalizeBasic_calls s w bA (asc_all ha);have hns:(norm s).size≤900000:=by rw[norm_size];exact hs
 have han:=asc_norm ha
 obtain ⟨t,ht⟩:∃ t,norm s=t:=⟨_,rfl⟩
 rw[ht] at cn hns han;have HT:=bR ht;have HA:=bR ha;have HAN:=bR han;clear S ha han ht;go_enter Tryz.func109,Tryz.ntmps109;go_wp2_with fail
 refine cn.mono ?_;rintro e w1 ⟨rfl,hb1⟩;have HS1:=bR (HS.out.below hb1);have HB1:=bR hb1;clear cn hb1;have cnew:=newPath_calls w1 (.pointer (some ⟨pb,0,none⟩)) comp;go_wp2_with fail
 refine cnew.mono ?_;rintro e w2 ⟨rfl,hp2,hb2⟩;have HP2:=bR hp2;have HB2:=bR hb2;have cd:=do_calls HS1.out OS hb2 comp hp2 t hns HAN.out;clear cnew hp2 hb2;go_wp2_with fail
 refine cd.mono ?_;rintro e w3 ⟨rfl,vk,vu,vl,hp3,hm3⟩;have HP3:=bR hp3;have HB3:=bR (HB2.out.trans (Moved.below HP2.out hm3));clear cd hp3 hm3
 obtain ⟨b1,hb1⟩:∃ b1,w1.heap.size=b1:=⟨_,rfl⟩
 have HBB:=bR hb1;rw[hb1] at HP3 HB3 ⊢;have hlt:=HP3.out.lt;have HLT:=bR hlt;clear hb1 hlt
 obtain ⟨z,hz⟩:∃ z,(s.toList==t.toList)=z:=⟨_,rfl⟩
 have hz2:(s.toList != t.toList) = !z:=by rw[bne,hz]
 have HZ:=bR hz;cases z
 ·have HS3:=bR (HS1.out.below (HBB.out▸HB3.out))
  have HB03:Aside0 (Below w.heap.size w w3):=⟨HB1.out.trans (HB3.out.mono (by rw[← HBB.out];exact HB1.out.size))⟩
  have cnew:=newPath_calls w3 (.pointer (some ⟨pb,0,none⟩)) comp;clear HP2 HB2;go_wp2_with fail
  refine cnew.mono ?_;rintro e w4 ⟨rfl,hp4,hb4⟩;have HP4:=bR hp4;have HB4:=bR hb4;have cd:=do_calls HS3.out OS hb4 comp hp4 s hs HA.out;clear cnew hp4 hb4;have q25:=HP3.out.row.at 25 _ rfl;have f25:=HP3.out.row.free 25 bF;go_wp2_with fail
  refine cd.mono ?_;rintro e w5 ⟨rfl,vk2,vu2,vl2,hp5,hm5⟩;have HB5:=bR (HB4.out.trans (Moved.below HP4.out hm5));have HP5:=bR (HP3.out.below HB5.out);have HQ5:=bR hp5;clear cd hp5 hm5 q25 f25;have q25:=HP5.out.row.at 25 _ rfl;have f25:=HP5.out.row.free 25 bF;go_wp2_with fail
  have hpa:=HP5.out.put 25 (.pointer (some ⟨w3.heap.size,0,none⟩)) (mDo (envOf st) comp t { pathZero with comp:=comp }) (.pointer (some ⟨w3.heap.size,0,none⟩)) rfl rfl rfl rfl bA;have hqa:PathAt (w5.setCell ⟨b1,25,none⟩ (.pointer (some ⟨w3.heap.size,0,none⟩))) w3.heap.size w3.heap.size (mPath (envOf st) comp s) vk2 vu2 vl2 (.pointer none):=HQ5.out.beside (a:=⟨b1,25,none⟩) (by have:=HLT.out;show w3.heap.size≠b1;omega) (base_ne HQ5.out.ok HLT.out) (base_ne HQ5.out.ou HLT.out) (base_ne HQ5.out.ol HLT.out) (.pointer (some ⟨w3.heap.size,0,none⟩));have hbz:Below w.heap.size w (w5.setCell ⟨b1,25,none⟩ (.pointer (some ⟨w3.heap.size,0,none⟩))):=(HB03.out.trans (HB5.out.mono HB03.out.size)).setCell (p:=⟨b1,25,none⟩) (by rw[← HBB.out];exact HB1.out.size) (.pointer (some ⟨w3.heap.size,0,none⟩))
  refine bodyPost_ret (results_tmp2 bH _ _ _) rfl ⟨b1,w3.heap.size,vk,vu,vl,rfl,⟨?_,vk2,vu2,vl2,_,hqa.lower HB03.out.size⟩,hbz⟩;have:=hpa.lower (B':=w.heap.size) (by rw[← HBB.out];exact HB1.out.size);rw[← HT.out] at this;exact this
 ·have q25:=HP3.out.row.at 25 _ rfl;have f25:=HP3.out.row.free 25 bF
  have HST:=bR (show norm s=s by
   rw[HT.out];refine (L_inj ?_).symm;have h9:=beq_iff_eq.1 HZ.out;rw[L_toList,L_toList] at h9
   exact h9)
  clear HP2 HB2;go_wp2_with fail
  have hpa:=HP3.out.put 25 (.pointer (some ⟨b1,0,none⟩)) (mDo (envOf st) comp t { pathZero with comp:=comp }) (.pointer (some ⟨b1,0,none⟩)) rfl rfl rfl rfl bA;have hbz:Below w.heap.size w (w3.setCell ⟨b1,25,none⟩ (.pointer (some ⟨b1,0,none⟩))):=(HB1.out.trans (HB3.out.mono (by rw[← HBB.out];exact HB1.out.size))).setCell (p:=⟨b1,25,none⟩) (by rw[← HBB.out];exact HB1.out.size) (.pointer (some ⟨b1,0,none⟩));have hp:=hpa.lower (B':=w.heap.size) (by rw[← HBB.out];exact HB1.out.size);rw[← HT.out] at hp;refine bodyPost_ret (results_tmp2 bH _ _ _) rfl ⟨b1,b1,vk,vu,vl,rfl,⟨hp,vk,vu,vl,.pointer (some ⟨b1,0,none⟩),?_⟩,hbz⟩;have h8:=hp;rw[HST.out] at h8;exact h8
set_option maxRecDepth 100000 in
set_option maxHeartbeats 1600000 in
theorem Parse_calls (S:ParserAt w pb st sl sd sf sc mb sb fb) (OS:SiteOk st) (comp s:ByteArray) (hs:s.size≤900000) (ha:asc s) :
 Calls Tryz.prog 59 #[.pointer (some ⟨pb,0,none⟩),.string comp,.string s] w fun e w' =>
  ∃ b ub vk vu vl,e = .returned (.pointer (some ⟨b,0,none⟩))∧Both w' w.heap.size (envOf st) comp s b ub vk vu vl∧Below w.heap.size w w':=by
 have c:=parse_calls S OS comp s hs ha;clear S hs ha;go_enter Tryz.func59,Tryz.ntmps59;go_wp2_with fail
 refine c.mono ?_;rintro e w' ⟨b,ub,vk,vu,vl,rfl,hp,hb⟩;have HP:=bR hp;have HB:=bR hb;clear c hp hb;go_wp2_with fail
 go_ret;exact ⟨b,ub,vk,vu,vl,rfl,HP.out,HB.out⟩
end
end Go.Proofs.YtmgdbpjidkdegaaGreatDoor.Path
namespace Go.Proofs.YtmgdbpjidkdegaaGreatDoor.Path
open Go.RowKit Go.Proofs.YtmgdbpjidkdegaaGreatDoorW.PrintWords Go.Proofs.YtmgdbpjidkdegaaGreatDoor.Base
section
variable {w:World} {B b:Nat} {p:PathV} {vk vu vl u:Value}
theorem info9:(Tryz.prog.info? 9).map (fun i=>(i.zero,i.size,i.bytes))=some (some (.string ⟨#[]⟩),1,16):=by kernel_rfl
def mIds (p:PathV):List ByteArray:=p.known.map fun x=>sub p.s x.1 x.2
def mUnk (p:PathV):List ByteArray:=p.unknown.map fun x=>sub p.s x.1 x.2
set_option maxRecDepth 100000 in
set_option maxHeartbeats 800000 in
theorem Identifiers_calls (H:PathAt w B b p vk vu vl u) (O:PathOk p):Calls Tryz.prog 96 #[.pointer (some ⟨b,0,none⟩)] w fun e w'=>∃ v,e = .returned v∧StrRow w' w.heap.size v (mIds p)∧Below w.heap.size w w':=by
 have h0:=H.row.at 0 _ rfl;have h6:=H.row.at 6 _ rfl;have o1:=O.sz;have okl:=O.kl;obtain ⟨A,cp,hv⟩:=own_slice H.ok;rw[hv] at h6;have hb:=H.lt
 obtain ⟨n,hn⟩:∃ n,p.known.length=n:=⟨_,rfl⟩
 have hlen:(mIds p).length=n:=by unfold mIds;rw[List.length_map];exact hn
 rw[hn] at h6 okl;have hmk:=run_make_row' (P:=Tryz.prog) 22 9 (.string ⟨#[]⟩) 16 Tryz.underlying22 info9 rfl .i64 .i64 n bA bA;have HH:=bR H;have HK:=bR O.kn;have HV:=bR hv;have HL:=bR hlen;have HN:=bR hn;clear H O hv hlen hn;go_enter Tryz.func96,Tryz.ntmps96;go_wp2_with fail
 go_loopg [17] n (fun g i wr=>∃ k:Nat,k≤n∧g=n - k∧i = .int .i64 k∧Aside0 (Row wr w.heap.size (fill (mIds p) k))∧Aside0 (Below w.heap.size w wr)∧w.heap.size < wr.heap.size)
 case atStart =>
  refine ⟨0,Nat.zero_le _,rfl,rfl,⟨?_⟩,⟨(Below.refl _ _).alloc (Nat.le_refl _) _⟩,by simp⟩;rw[fill_zero,HL.out];exact Row.made w n _ _
 case round =>
  obtain ⟨k,hk,hg,rfl,HR,HB,hsz⟩:=hrel
  by_cases hlt:k < n
  ·have hP:=HH.out.below HB.out;have h0:=hP.row.at 0 _ rfl;have hbr:=hP.lt
   obtain ⟨x,hx⟩:∃ x,p.known[k]? = some x:=⟨_,List.getElem?_eq_getElem (by rw[HN.out];exact hlt)⟩
   obtain ⟨g,c2,hv2,k1,k2⟩:=hP.knownAt k x hx;obtain ⟨q1,q2,q3⟩:=HK.out x (List.mem_of_getElem? hx);rw[HV.out] at hv2;injection hv2 with hA _ hcc
   subst hA hcc;obtain ⟨lo,hlo⟩:=Int.eq_ofNat_of_zero_le (show 0≤x.1 by omega);obtain ⟨hi,hhi⟩:=Int.eq_ofNat_of_zero_le (show 0≤x.2 by omega);rw[hlo] at k1 q1 q2;rw[hhi] at k2 q2 q3;have hgl:g < wr.heap.size:=World.block_lt_of_cell? wr ⟨g,k * 2,none⟩ k1;have hfl:k < (fill (mIds p) k).length:=by rw[fill_length _ _ (by rw[HL.out];omega),HL.out];exact hlt
   have hfr:=HR.out.free k hfl;have hcell:wr.cell? ⟨w.heap.size,k,none⟩=some ((fill (mIds p) k)[k]):=(HR.out k hfl).1
   have hel:(mIds p)[k]'(by rw[HL.out];exact hlt)=p.s.extract lo hi:=by
    unfold mIds;rw[List.getElem_map]
    have:p.known[k]'(by rw[HN.out];exact hlt)=x:=by
     have:=List.getElem?_eq_getElem (l:=p.known) (i:=k) (by rw[HN.out];exact hlt);rw[hx] at this;exact (Option.some.inj this).symm
    rw[this,hlo,hhi];rfl
   have HE:=bR hel
   obtain ⟨old,hold⟩:∃ old,(fill (mIds p) k)[k]=old:=⟨_,rfl⟩
   rw[hold] at hcell;clear hel hold hx hlo hhi hP;go_upto_region 5 with fail
   have hal:Below wr.heap.size wr (wr.alloc (.cells #[.int .i64 lo,.int .i64 hi] 90)):=(Below.refl _ _).alloc (Nat.le_refl _) _
   obtain ⟨W,hW⟩:∃ W,wr.alloc (.cells #[.int .i64 lo,.int .i64 hi] 90)=W:=⟨_,rfl⟩
   rw[hW];rw[hW] at hal;have c0:W.cell? ⟨wr.heap.size,0,none⟩=some (.int .i64 lo):=by subst hW;exact (Row.new wr [.int .i64 lo,.int .i64 hi] _).at 0 _ rfl
   have c1:W.cell? ⟨wr.heap.size,1,none⟩=some (.int .i64 hi):=by subst hW;exact (Row.new wr [.int .i64 lo,.int .i64 hi] _).at 1 _ rfl
   have hsW:wr.heap.size < W.heap.size:=by subst hW;simp
   clear hW;have hB2:Below w.heap.size w W.drew:=((HB.out.trans (hal.mono (Nat.le_of_lt hsz)))).drew;have hR2:Row W.drew w.heap.size (fill (mIds p) k):=HR.out.step (by exact hal.block _ hsz);have e0:W.drew.cell? ⟨b,0,none⟩=some (.string p.s):=(hal.cell (p:=⟨b,0,none⟩) hbr).trans h0;have er:W.drew.cell? ⟨w.heap.size,k,none⟩=some old:=(hal.cell (p:=⟨w.heap.size,k,none⟩) hsz).trans hcell;have ef:W.drew.frozen? ⟨w.heap.size,k,none⟩=false:=(hal.frozen (p:=⟨w.heap.size,k,none⟩) hsz).trans hfr;have d0:W.drew.cell? ⟨wr.heap.size,0,none⟩=some (.int .i64 lo):=c0;have d1:W.drew.cell? ⟨wr.heap.size,1,none⟩=some (.int .i64 hi):=c1;have hs2:w.heap.size < W.drew.heap.size:=Nat.lt_trans hsz hsW;refine wp_region_still_tail 12 bB bB ?_
   change wpStill _ _ W.drew (fun a'=>wpList _ _ _ _ a' W.drew) _ _
   obtain ⟨V,hV⟩:∃ V,W.drew=V:=⟨_,rfl⟩
   rw[hV] at hB2 hR2 e0 er ef d0 d1 hs2;rw[hV];clear hV c0 c1 hal hsW k1 k2 h0 hcell hfr hbr;have HB3:=bR hB2;have HR3:=bR hR2;have HF3:=bR hfl;clear hB2 hR2 hfl HH HK HV HN HR HB;simp only[List.take_succ_cons,List.take_zero,List.drop_succ_cons,List.drop_zero]
   repeat still_step
   refine wpStill_nil ?_;go_wp2_with fail
   go_roundg (n - (k+1))
   case rel =>
    refine ⟨k+1,by omega,rfl,by go_num,⟨?_⟩,⟨?_⟩,?_⟩
    ·have:=HR3.out.set k (.string (p.s.extract lo hi)) HF3.out;rw[← HE.out,fill_set] at this;rw[HE.out] at this;exact this
    ·exact HB3.out.setCell (Nat.le_refl _) _
    ·simpa using hs2
   case measure=>omega
  ·have:k=n:=by omega
   subst this;have hR2:=HR.out;rw[← HL.out,fill_all] at hR2;go_wp2_with fail
   go_ret;refine ⟨_,rfl,?_,HB.out⟩;rw[← HL.out];exact StrRow.of_row hR2 _ (Nat.le_refl _)
set_option maxRecDepth 100000 in
set_option maxHeartbeats 800000 in
theorem IdentifiersUnknown_calls (H:PathAt w B b p vk vu vl u) (O:PathOk p):Calls Tryz.prog 97 #[.pointer (some ⟨b,0,none⟩)] w fun e w'=>∃ v,e = .returned v∧StrRow w' w.heap.size v (mUnk p)∧Below w.heap.size w w':=by
 have h0:=H.row.at 0 _ rfl;have h6:=H.row.at 7 _ rfl;have o1:=O.sz;have okl:=O.ul;obtain ⟨A,cp,hv⟩:=own_slice H.ou;rw[hv] at h6;have hb:=H.lt
 obtain ⟨n,hn⟩:∃ n,p.unknown.length=n:=⟨_,rfl⟩
 have hlen:(mUnk p).length=n:=by unfold mUnk;rw[List.length_map];exact hn
 rw[hn] at h6 okl;have hmk:=run_make_row' (P:=Tryz.prog) 22 9 (.string ⟨#[]⟩) 16 Tryz.underlying22 info9 rfl .i64 .i64 n bA bA;have HH:=bR H;have HK:=bR O.un;have HV:=bR hv;have HL:=bR hlen;have HN:=bR hn;clear H O hv hlen hn;go_enter Tryz.func97,Tryz.ntmps97;go_wp2_with fail
 go_loopg [17] n (fun g i wr=>∃ k:Nat,k≤n∧g=n - k∧i = .int .i64 k∧Aside0 (Row wr w.heap.size (fill (mUnk p) k))∧Aside0 (Below w.heap.size w wr)∧w.heap.size < wr.heap.size)
 case atStart =>
  refine ⟨0,Nat.zero_le _,rfl,rfl,⟨?_⟩,⟨(Below.refl _ _).alloc (Nat.le_refl _) _⟩,by simp⟩;rw[fill_zero,HL.out];exact Row.made w n _ _
 case round =>
  obtain ⟨k,hk,hg,rfl,HR,HB,hsz⟩:=hrel
  by_cases hlt:k < n
  ·have hP:=HH.out.below HB.out;have h0:=hP.row.at 0 _ rfl;have hbr:=hP.lt
   obtain ⟨x,hx⟩:∃ x,p.unknown[k]? = some x:=⟨_,List.getElem?_eq_getElem (by rw[HN.out];exact hlt)⟩
   obtain ⟨g,c2,hv2,k1,k2⟩:=hP.unknownAt k x hx;obtain ⟨q1,q2,q3⟩:=HK.out x (List.mem_of_getElem? hx);rw[HV.out] at hv2;injection hv2 with hA _ hcc
   subst hA hcc;obtain ⟨lo,hlo⟩:=Int.eq_ofNat_of_zero_le (show 0≤x.1 by omega);obtain ⟨hi,hhi⟩:=Int.eq_ofNat_of_zero_le (show 0≤x.2 by omega);rw[hlo] at k1 q1 q2;rw[hhi] at k2 q2 q3;have hgl:g < wr.heap.size:=World.block_lt_of_cell? wr ⟨g,k * 2,none⟩ k1;have hfl:k < (fill (mUnk p) k).length:=by rw[fill_length _ _ (by rw[HL.out];omega),HL.out];exact hlt
   have hfr:=HR.out.free k hfl;have hcell:wr.cell? ⟨w.heap.size,k,none⟩=some ((fill (mUnk p) k)[k]):=(HR.out k hfl).1
   have hel:(mUnk p)[k]'(by rw[HL.out];exact hlt)=p.s.extract lo hi:=by
    unfold mUnk;rw[List.getElem_map]
    have:p.unknown[k]'(by rw[HN.out];exact hlt)=x:=by
     have:=List.getElem?_eq_getElem (l:=p.unknown) (i:=k) (by rw[HN.out];exact hlt);rw[hx] at this;exact (Option.some.inj this).symm
    rw[this,hlo,hhi];rfl
   have HE:=bR hel
   obtain ⟨old,hold⟩:∃ old,(fill (mUnk p) k)[k]=old:=⟨_,rfl⟩
   rw[hold] at hcell;clear hel hold hx hlo hhi hP;go_upto_region 5 with fail
   have hal:Below wr.heap.size wr (wr.alloc (.cells #[.int .i64 lo,.int .i64 hi] 90)):=(Below.refl _ _).alloc (Nat.le_refl _) _
   obtain ⟨W,hW⟩:∃ W,wr.alloc (.cells #[.int .i64 lo,.int .i64 hi] 90)=W:=⟨_,rfl⟩
   rw[hW];rw[hW] at hal;have c0:W.cell? ⟨wr.heap.size,0,none⟩=some (.int .i64 lo):=by subst hW;exact (Row.new wr [.int .i64 lo,.int .i64 hi] _).at 0 _ rfl
   have c1:W.cell? ⟨wr.heap.size,1,none⟩=some (.int .i64 hi):=by subst hW;exact (Row.new wr [.int .i64 lo,.int .i64 hi] _).at 1 _ rfl
   have hsW:wr.heap.size < W.heap.size:=by subst hW;simp
   clear hW;have hB2:Below w.heap.size w W.drew:=((HB.out.trans (hal.mono (Nat.le_of_lt hsz)))).drew;have hR2:Row W.drew w.heap.size (fill (mUnk p) k):=HR.out.step (by exact hal.block _ hsz);have e0:W.drew.cell? ⟨b,0,none⟩=some (.string p.s):=(hal.cell (p:=⟨b,0,none⟩) hbr).trans h0;have er:W.drew.cell? ⟨w.heap.size,k,none⟩=some old:=(hal.cell (p:=⟨w.heap.size,k,none⟩) hsz).trans hcell;have ef:W.drew.frozen? ⟨w.heap.size,k,none⟩=false:=(hal.frozen (p:=⟨w.heap.size,k,none⟩) hsz).trans hfr;have d0:W.drew.cell? ⟨wr.heap.size,0,none⟩=some (.int .i64 lo):=c0;have d1:W.drew.cell? ⟨wr.heap.size,1,none⟩=some (.int .i64 hi):=c1;have hs2:w.heap.size < W.drew.heap.size:=Nat.lt_trans hsz hsW;refine wp_region_still_tail 12 bB bB ?_
   change wpStill _ _ W.drew (fun a'=>wpList _ _ _ _ a' W.drew) _ _
   obtain ⟨V,hV⟩:∃ V,W.drew=V:=⟨_,rfl⟩
   rw[hV] at hB2 hR2 e0 er ef d0 d1 hs2;rw[hV];clear hV c0 c1 hal hsW k1 k2 h0 hcell hfr hbr;have HB3:=bR hB2;have HR3:=bR hR2;have HF3:=bR hfl;clear hB2 hR2 hfl HH HK HV HN HR HB;simp only[List.take_succ_cons,List.take_zero,List.drop_succ_cons,List.drop_zero]
   repeat still_step
   refine wpStill_nil ?_;go_wp2_with fail
   go_roundg (n - (k+1))
   case rel =>
    refine ⟨k+1,by omega,rfl,by go_num,⟨?_⟩,⟨?_⟩,?_⟩
    ·have:=HR3.out.set k (.string (p.s.extract lo hi)) HF3.out;rw[← HE.out,fill_set] at this;rw[HE.out] at this;exact this
    ·exact HB3.out.setCell (Nat.le_refl _) _
    ·simpa using hs2
   case measure=>omega
  ·have:k=n:=by omega
   subst this;have hR2:=HR.out;rw[← HL.out,fill_all] at hR2;go_wp2_with fail
   go_ret;refine ⟨_,rfl,?_,HB.out⟩;rw[← HL.out];exact StrRow.of_row hR2 _ (Nat.le_refl _)
end
end Go.Proofs.YtmgdbpjidkdegaaGreatDoor.Path
namespace Go.Proofs.YtmgdbpjidkdegaaGreatDoor.Path
open Go.RowKit Go.Proofs.YtmgdbpjidkdegaaGreatDoorW.PrintWords Go.Proofs.YtmgdbpjidkdegaaGreatDoor.Base
section
variable {w:World} {B b:Nat} {p:PathV} {vk vu vl u:Value}
def mLangs (p:PathV):List ByteArray:=p.plangs.map fun i=>mIdStr p i
set_option maxRecDepth 100000 in
set_option maxHeartbeats 800000 in
theorem asStrings_calls (H:PathAt w B b p vk vu vl u) (O:PathOk p):Calls Tryz.prog 122 #[.pointer (some ⟨b,0,none⟩),vl] w fun e w'=>∃ v,e = .returned v∧StrRow w' w.heap.size v (mLangs p)∧Below w.heap.size w w':=by
 have okl:=O.ll;obtain ⟨A,cp,hv⟩:=own_slice H.ol;rw[hv]
 obtain ⟨n,hn⟩:∃ n,p.plangs.length=n:=⟨_,rfl⟩
 have hlen:(mLangs p).length=n:=by unfold mLangs;rw[List.length_map];exact hn
 rw[hn] at okl ⊢;have HH:=bR H;have HO:=bR O;have HV:=bR hv;have HL:=bR hlen;have HN:=bR hn
 by_cases hz:n=0
 ·subst hz;have hnil:mLangs p=[]:=List.eq_nil_of_length_eq_zero hlen;rw[hnil];clear H O hv hlen hn hnil;go_enter Tryz.func122,Tryz.ntmps122;go_wp2_with fail
  go_ret;exact ⟨_,rfl,StrRow.nil _ _ _ _,Below.refl _ _⟩
 have hz1:((n:Int)==0)=false:=beq_eq_false_iff_ne.2 bA;have hz2:(n==0)=false:=beq_eq_false_iff_ne.2 hz;have hmk:=run_make_row' (P:=Tryz.prog) 22 9 (.string ⟨#[]⟩) 16 Tryz.underlying22 info9 rfl .i64 .i64 n bA bA;clear H O hv hlen hn;go_enter Tryz.func122,Tryz.ntmps122;go_wp2_with fail
 go_loopg [16] n (fun g i wr=>∃ k:Nat,k≤n∧g=n - k∧i = .int .i64 k∧Aside0 (Row wr w.heap.size (fill (mLangs p) k))∧Aside0 (Below w.heap.size w wr)∧w.heap.size < wr.heap.size)
 case atStart =>
  refine ⟨0,Nat.zero_le _,rfl,rfl,⟨?_⟩,⟨(Below.refl _ _).alloc (Nat.le_refl _) _⟩,by simp⟩;rw[fill_zero,HL.out];exact Row.made w n _ _
 case round =>
  obtain ⟨k,hk,hg,rfl,HR,HB,hsz⟩:=hrel
  by_cases hlt:k < n
  ·have hP:=HH.out.below HB.out
   obtain ⟨x,hx⟩:∃ x,p.plangs[k]? = some x:=⟨_,List.getElem?_eq_getElem (by rw[HN.out];exact hlt)⟩
   obtain ⟨g,c2,hv2,k1⟩:=hP.langAt k x hx;rw[HV.out] at hv2;injection hv2 with hA _ hcc
   subst hA hcc;have hfl:k < (fill (mLangs p) k).length:=by rw[fill_length _ _ (by rw[HL.out];omega),HL.out];exact hlt
   have hfr:=HR.out.free k hfl;have hcell:wr.cell? ⟨w.heap.size,k,none⟩=some ((fill (mLangs p) k)[k]):=(HR.out k hfl).1
   have hel:(mLangs p)[k]'(by rw[HL.out];exact hlt)=mIdStr p x:=by
    unfold mLangs;rw[List.getElem_map]
    have:p.plangs[k]'(by rw[HN.out];exact hlt)=x:=by
     have:=List.getElem?_eq_getElem (l:=p.plangs) (i:=k) (by rw[HN.out];exact hlt);rw[hx] at this;exact (Option.some.inj this).symm
    rw[this]
   have HE:=bR hel;have c:=identifierAsString_calls hP HO.out.toPathIn x
   obtain ⟨old,hold⟩:∃ old,(fill (mLangs p) k)[k]=old:=⟨_,rfl⟩
   rw[hold] at hcell;have HF:=bR hfl;clear hel hold hx hP hfl;go_wp2_with fail
   (with_reducible refine c.mono ?_)
   rintro e w' ⟨rfl,hb⟩;have er:w'.cell? ⟨w.heap.size,k,none⟩=some old:=(hb.cell (p:=⟨w.heap.size,k,none⟩) hsz).trans hcell;have ef:w'.frozen? ⟨w.heap.size,k,none⟩=false:=(hb.frozen (p:=⟨w.heap.size,k,none⟩) hsz).trans hfr;have hR2:=bR (HR.out.step (hb.block _ hsz));have hB2:=bR (HB.out.trans (hb.mono (Nat.le_of_lt hsz)));have hs2:=Nat.lt_of_lt_of_le hsz hb.size;clear hb hfr hcell HR HB hsz;go_wp2_with fail
   go_roundg (n - (k+1))
   case rel =>
    refine ⟨k+1,by omega,rfl,by go_num,⟨?_⟩,⟨?_⟩,?_⟩
    ·have:=hR2.out.set k (.string (mIdStr p x)) HF.out;rw[← HE.out,fill_set] at this;rw[HE.out] at this;exact this
    ·exact hB2.out.setCell (Nat.le_refl _) _
    ·simpa using hs2
   case measure=>omega
  ·have:k=n:=by omega
   subst this;have hR2:=HR.out;rw[← HL.out,fill_all] at hR2;go_wp2_with fail
   go_ret;refine ⟨_,rfl,?_,HB.out⟩;rw[← HL.out];exact StrRow.of_row hR2 _ (Nat.le_refl _)
theorem Langs_calls (H:PathAt w B b p vk vu vl u) (O:PathOk p):Calls Tryz.prog 95 #[.pointer (some ⟨b,0,none⟩)] w fun e w'=>∃ v,e = .returned v∧StrRow w' w.heap.size v (mLangs p)∧Below w.heap.size w w':=by
 have h14:=H.row.at 14 _ rfl;have c:=asStrings_calls H O;obtain ⟨A,cp,hv⟩:=own_slice H.ol;rw[hv] at h14 c;clear H O hv;go_enter Tryz.func95,Tryz.ntmps95;go_wp2_with fail
 (with_reducible refine c.mono ?_)
 rintro e w' ⟨v,rfl,hs,hb⟩;have HS:=bR hs;have HB:=bR hb;clear hs hb;obtain ⟨A2,c2,rfl,_⟩:=HS.out;go_wp2_with fail
 go_ret;exact ⟨_,rfl,HS.out,HB.out⟩
def mNameNoExt (p:PathV):ByteArray:=match p.known with | []=>frm p.s p.cHigh | x::_=>sub p.s p.cHigh (x.1 - 1)
theorem NameNoExt_calls (H:PathAt w B b p vk vu vl u) (O:PathOk p):Calls Tryz.prog 79 #[.pointer (some ⟨b,0,none⟩)] w fun e w'=>e = .returned (.string (mNameNoExt p))∧Drawn0 w w':=by
 have h0:=H.row.at 0 _ rfl;have h2:=H.row.at 2 _ rfl;have c:=identifierIndex_calls H 0;have o1:=O.sz;obtain ⟨o2,o3⟩:=O.ch;obtain ⟨y,hy⟩:=Int.eq_ofNat_of_zero_le (show 0≤p.cHigh by omega);rw[hy] at h2 o2 o3;unfold mNameNoExt;rw[hy]
 cases hk:p.known with
 | nil =>
  have e1:mIdx p 0 = -1:=by unfold mIdx;rw[hk];rfl
  rw[e1] at c;clear hk e1 H O hy;show Calls _ _ _ _ fun e w'=>e = .returned (.string (p.s.extract y p.s.size))∧Drawn0 w w';go_enter Tryz.func79,Tryz.ntmps79;go_wp2_with fail
  (with_reducible refine c.mono ?_)
  rintro e w' ⟨rfl,rfl⟩;go_wp2_with fail
  go_quiet (fail)
  go_wp2_with fail
  go_ret;exact ⟨rfl,⟨_,rfl⟩⟩
 | cons x r =>
  have h6:=H.row.at 6 _ rfl;have hx:p.known[0]? = some x:=by rw[hk];rfl
  obtain ⟨q1,q2,q3⟩:=O.kn x (List.mem_of_getElem? hx);have q4:=O.k0 x hx;obtain ⟨g,cp,hv,k1,_⟩:=H.knownAt 0 x hx;rw[hv] at h6;have e1:mIdx p 0=0:=by unfold mIdx;rw[hk];simp
  rw[e1] at c;obtain ⟨lo,hlo⟩:=Int.eq_ofNat_of_zero_le (show 0≤x.1 by omega);rw[hlo] at k1 q1 q2 q4;rw[hy] at q4;have k1' : w.cell? ⟨g,0,none⟩=some (.int .i64 lo):=k1;show Calls _ _ _ _ fun e w'=>e = .returned (.string (sub p.s y (x.1 - 1)))∧Drawn0 w w';rw[hlo,show ((lo:Int) - 1)=((lo - 1:Nat):Int) from by omega,sub_nat];have hlen:(0:Int) < p.known.length:=by rw[hk];simp only[List.length_cons];omega
  have hyc:IntKind.i64.wrap ((lo:Int) - 1)=((lo - 1:Nat):Int):=by rw[IntWalk.i64_in _ bA];omega
  have q5:((y:Nat):Int)≤((lo - 1:Nat):Int):=by omega
  have q6:((lo - 1:Nat):Int)≤(p.s.size:Int):=by omega
  have q7:((0:Int) == -1)=false:=rfl;clear hk e1 H O hy hx hlo hv k1 q4 q3;go_enter Tryz.func79,Tryz.ntmps79;go_wp2_with fail
  (with_reducible refine c.mono ?_)
  rintro e w' ⟨rfl,rfl⟩;go_wp2_with fail
  go_quiet (fail)
  go_wp2_with fail
  go_ret;exact ⟨rfl,⟨_,rfl⟩⟩
def mBefore (p:PathV):ByteArray:=match p.known with | []=>nrm p.trim p.s | x::_=>nrm p.trim (sub p.s 0 (x.1 - 1))
set_option maxRecDepth 100000 in
theorem PathBefore_calls (H:PathAt w B b p vk vu vl u) (O:PathOk p) (hf:-1≤p.fmt) (hl:-1≤p.lang):Calls Tryz.prog 86 #[.pointer (some ⟨b,0,none⟩)] w fun e w'=>e = .returned (.string (mBefore p))∧Below w.heap.size w w':=by
 have h0:=H.row.at 0 _ rfl;have h6:=H.row.at 6 _ rfl;have h8:=H.row.at 8 _ rfl;have h9:=H.row.at 9 _ rfl;have o1:=O.sz;have HH:=bR H;unfold mBefore
 cases hk:p.known with
 | nil =>
  obtain ⟨A,c0,hv⟩:=own_slice H.ok;rw[hv,hk] at h6;have h6' : w.cell? ⟨b,6,none⟩=some (.slice A 0 c0):=h6;clear hk h6 hv H O;go_enter Tryz.func86,Tryz.ntmps86;go_wp2_with fail
  (with_reducible refine (norm_calls HH.out _).mono ?_)
  rintro e w' ⟨rfl,rfl⟩;go_wp2_with fail
  go_ret;exact ⟨rfl,Below.refl _ _⟩
 | cons x r =>
  have c:=identifierIndex_calls H 0;have hx:p.known[0]? = some x:=by rw[hk];rfl
  obtain ⟨q1,q2,q3⟩:=O.kn x (List.mem_of_getElem? hx);obtain ⟨g,cp,hv,k1,k2⟩:=H.knownAt 0 x hx;rw[hv] at h6;have hb:=H.lt;have e1:mIdx p 0=0:=by unfold mIdx;rw[hk];simp
  rw[e1] at c;obtain ⟨lo,hlo⟩:=Int.eq_ofNat_of_zero_le (show 0≤x.1 by omega);obtain ⟨hi,hhi⟩:=Int.eq_ofNat_of_zero_le (show 0≤x.2 by omega);rw[hlo] at k1 q1 q2;rw[hhi] at k2 q2 q3;have k1' : w.cell? ⟨g,0,none⟩=some (.int .i64 lo):=k1;have k2' : w.cell? ⟨g,0+1,none⟩=some (.int .i64 hi):=k2;have k2'' : w.cell? ⟨g,1,none⟩=some (.int .i64 hi):=k2;have hg:g < w.heap.size:=World.block_lt_of_cell? w ⟨g,0,none⟩ k1';show Calls _ _ _ _ fun e w'=>e = .returned (.string (nrm p.trim (sub p.s 0 (x.1 - 1))))∧Below w.heap.size w w';rw[hlo,show ((lo:Int) - 1)=((lo - 1:Nat):Int) from by omega,show (0:Int)=((0:Nat):Int) from rfl,sub_nat]
  obtain ⟨n,hn⟩:∃ n,p.known.length=n:=⟨_,rfl⟩
  have hlen:0 < n:=by rw[← hn,hk];simp
  rw[hn] at h6;have hlen2:((n:Int)==0)=false:=beq_eq_false_iff_ne.2 bA;have hlen3:(n==0)=false:=beq_eq_false_iff_ne.2 bA;have hlen4:(0:Int) < n:=by omega
  have hyc:IntKind.i64.wrap ((lo:Int) - 1)=((lo - 1:Nat):Int):=by rw[IntWalk.i64_in _ bA];omega
  have q6:((lo - 1:Nat):Int)≤(p.s.size:Int):=by omega
  have q7:((0:Int) == -1)=false:=rfl
  obtain ⟨fm,hfm⟩:∃ fm,p.fmt=fm:=⟨_,rfl⟩
  obtain ⟨la,hla⟩:∃ la,p.lang=la:=⟨_,rfl⟩
  rw[hfm] at h9 hf;rw[hla] at h8 hl
  have g1:(fm != -1 && decide (fm < 0))=false:=by
   by_cases t:fm = -1
   ·subst t;rfl
   ·rw[decide_eq_false bA,Bool.and_false]
  have g2:(la != -1 && decide (la < 0))=false:=by
   by_cases t:la = -1
   ·subst t;rfl
   ·rw[decide_eq_false bA,Bool.and_false]
  clear hk e1 H O hx hlo hhi hv k1 k2 hn hfm hla;go_enter Tryz.func86,Tryz.ntmps86;go_wp2_with fail
  (with_reducible refine c.mono ?_)
  rintro e w' ⟨rfl,rfl⟩;go_wp2_with fail
  all_goals
   go_quiet ((go_at_call 114;exact Calls.quiet_of_same (norm_calls ((HH.out.alloc _).drewN _) _)))
   go_wp2_with fail
   go_ret;exact ⟨rfl,below_step ((Below.refl _ _).alloc (Nat.le_refl _) _) (Drawn0.below ⟨⟨_,rfl⟩⟩)⟩
end
end Go.Proofs.YtmgdbpjidkdegaaGreatDoor.Path
namespace Go.Proofs.YtmgdbpjidkdegaaGreatDoor.Path
open Go.RowKit Go.Proofs.YtmgdbpjidkdegaaGreatDoor.Base
structure ToldV where
 component:ByteArray
 container:ByteArray
 containerDir:ByteArray
 section_:ByteArray
 name:ByteArray
 nameNoExt:ByteArray
 baseName:ByteArray
 nameNoId:ByteArray
 dir:ByteArray
 path:ByteArray
 pathNoLang:ByteArray
 pathNoId:ByteArray
 pathBefore:ByteArray
 base:ByteArray
 idBase:ByteArray
 ext:ByteArray
 fmt:ByteArray
 kind:ByteArray
 layout:ByteArray
 lang:ByteArray
 custom:ByteArray
 langs:List ByteArray
 ids:List ByteArray
 unk:List ByteArray
 disabled:Bool
 isContent:Bool
 isBundle:Bool
 isBranch:Bool
 isLeaf:Bool
 isData:Bool
 typ:Int
def toldList (t:ToldV) (v1 v2 v3:Value):List Value :=
 [.string t.component,.string t.container,.string t.containerDir,.string t.section_,.string t.name,.string t.nameNoExt,.string t.baseName,.string t.nameNoId,.string t.dir,.string t.path,.string t.pathNoLang,.string t.pathNoId,.string t.pathBefore,.string t.base,.string t.idBase,.string t.ext,.string t.fmt,.string t.kind,.string t.layout,.string t.lang,.string t.custom,v1,v2,v3,.bool t.disabled,.bool t.isContent,.bool t.isBundle,.bool t.isBranch,.bool t.isLeaf,.bool t.isData,.int .i64 t.typ]
def toldVal (t:ToldV) (v1 v2 v3:Value):Value:=.agg #[.string t.component,.string t.container,.string t.containerDir,.string t.section_,.string t.name,.string t.nameNoExt,.string t.baseName,.string t.nameNoId,.string t.dir,.string t.path,.string t.pathNoLang,.string t.pathNoId,.string t.pathBefore,.string t.base,.string t.idBase,.string t.ext,.string t.fmt,.string t.kind,.string t.layout,.string t.lang,.string t.custom,v1,v2,v3,.bool t.disabled,.bool t.isContent,.bool t.isBundle,.bool t.isBranch,.bool t.isLeaf,.bool t.isData,.int .i64 t.typ]
def toldZero:List Value:=[.string ⟨#[]⟩,.string ⟨#[]⟩,.string ⟨#[]⟩,.string ⟨#[]⟩,.string ⟨#[]⟩,.string ⟨#[]⟩,.string ⟨#[]⟩,.string ⟨#[]⟩,.string ⟨#[]⟩,.string ⟨#[]⟩,.string ⟨#[]⟩,.string ⟨#[]⟩,.string ⟨#[]⟩,.string ⟨#[]⟩,.string ⟨#[]⟩,.string ⟨#[]⟩,.string ⟨#[]⟩,.string ⟨#[]⟩,.string ⟨#[]⟩,.string ⟨#[]⟩,.string ⟨#[]⟩,.slice none 0 0,.slice none 0 0,.slice none 0 0,.bool false,.bool false,.bool false,.bool false,.bool false,.bool false,.int .i64 0]
end Go.Proofs.YtmgdbpjidkdegaaGreatDoor.Path
namespace Go.Proofs.YtmgdbpjidkdegaaGreatDoor.Path
open Go.RowKit Go.Proofs.YtmgdbpjidkdegaaGreatDoorW.PrintWords Go.Proofs.YtmgdbpjidkdegaaGreatDoor.Base
section
variable {w:World} {B b:Nat} {p:PathV} {vk vu vl u:Value}
def mBaseName (p:PathV):ByteArray:=if 3≤p.typ∧p.typ≤5 then mContainer p else mNameNoId p
def mFmt (p:PathV):ByteArray:=if p.pfmt = -1 then mIdStr p p.fmt else mIdStr p p.pfmt
def mKind (p:PathV):ByteArray:=if p.pkind = -1 then mIdStr p p.kind else mIdStr p p.pkind
def mLayout (p:PathV):ByteArray:=if p.play = -1 then mIdStr p p.lay else mIdStr p p.play
def mIsContent (p:PathV):Bool:=decide (1≤p.typ∧p.typ≤5)
def mIsBundle (p:PathV):Bool:=decide (3≤p.typ∧p.typ≤5)
def mIsBranch (p:PathV):Bool:=p.typ==4
def mIsLeaf (p:PathV):Bool:=p.typ==3
def mIsData (p:PathV):Bool:=p.typ==5
theorem BaseNameNoIdentifier_told (H:PathAt w B b p vk vu vl u) (O:PathOk p):Calls Tryz.prog 80 #[.pointer (some ⟨b,0,none⟩)] w fun e w'=>e = .returned (.string (mBaseName p))∧Below w.heap.size w w':=BaseNameNoIdentifier_calls H O
theorem OutputFormat_told (H:PathAt w B b p vk vu vl u) (O:PathOk p):Calls Tryz.prog 90 #[.pointer (some ⟨b,0,none⟩)] w fun e w'=>e = .returned (.string (mFmt p))∧Below w.heap.size w w':=OutputFormat_calls H O
theorem Kind_told (H:PathAt w B b p vk vu vl u) (O:PathOk p):Calls Tryz.prog 91 #[.pointer (some ⟨b,0,none⟩)] w fun e w'=>e = .returned (.string (mKind p))∧Below w.heap.size w w':=Kind_calls H O
theorem Layout_told (H:PathAt w B b p vk vu vl u) (O:PathOk p):Calls Tryz.prog 92 #[.pointer (some ⟨b,0,none⟩)] w fun e w'=>e = .returned (.string (mLayout p))∧Below w.heap.size w w':=Layout_calls H O
theorem IsContent_told (H:PathAt w B b p vk vu vl u):Calls Tryz.prog 99 #[.pointer (some ⟨b,0,none⟩)] w fun e w'=>e = .returned (.bool (mIsContent p))∧w'=w:=IsContent_calls H
theorem IsBundle_told (H:PathAt w B b p vk vu vl u):Calls Tryz.prog 100 #[.pointer (some ⟨b,0,none⟩)] w fun e w'=>e = .returned (.bool (mIsBundle p))∧w'=w:=IsBundle_calls H
theorem IsBranchBundle_told (H:PathAt w B b p vk vu vl u):Calls Tryz.prog 101 #[.pointer (some ⟨b,0,none⟩)] w fun e w'=>e = .returned (.bool (mIsBranch p))∧w'=w:=IsBranchBundle_calls H
theorem IsLeafBundle_told (H:PathAt w B b p vk vu vl u):Calls Tryz.prog 102 #[.pointer (some ⟨b,0,none⟩)] w fun e w'=>e = .returned (.bool (mIsLeaf p))∧w'=w:=IsLeafBundle_calls H
theorem IsContentData_told (H:PathAt w B b p vk vu vl u):Calls Tryz.prog 103 #[.pointer (some ⟨b,0,none⟩)] w fun e w'=>e = .returned (.bool (mIsData p))∧w'=w:=IsContentData_calls H
def mTold (p:PathV):ToldV where
 component:=p.comp
 container:=mContainer p
 containerDir:=mContainerDir p
 section_:=mSection p
 name:=mName p
 nameNoExt:=mNameNoExt p
 baseName:=mBaseName p
 nameNoId:=mNameNoId p
 dir:=mDir p
 path:=nrm p.trim p.s
 pathNoLang:=mNoLang p
 pathNoId:=mBase0 p false false
 pathBefore:=mBefore p
 base:=mBase p
 idBase:=mIdBase p
 ext:=mIdStr p 0
 fmt:=mFmt p
 kind:=mKind p
 layout:=mLayout p
 lang:=mLang p
 custom:=mCustom p
 langs:=mLangs p
 ids:=mIds p
 unk:=mUnk p
 disabled:=p.dis
 isContent:=mIsContent p
 isBundle:=mIsBundle p
 isBranch:=mIsBranch p
 isLeaf:=mIsLeaf p
 isData:=mIsData p
 typ:=p.typ
theorem results_cell {P:Program} {fn:Func} {tmps:Array Value} {a:Nat} {t:TypeId} {v:Value} {w:World} {x:Addr} (hf:fn.results = #[.cell a t]) (ha:tmps.getD a undef = .pointer (some x)) (hl:(loadVar t x).run P w = .ok v w) :
 (results fn tmps).run P w = .ok v w:=by
 unfold results;rw[hf];have ha' : tmps[a]?.getD undef = .pointer (some x):=by simpa using ha
 simp[ha',hl,asAddr]
theorem Row.there {w:World} {b:Nat} {cs:List Value} (H:Row w b cs):w.there b 0 cs.length:=fun j hj=>by
 rw[Nat.zero_add];exact ⟨by rw[(H j hj).1];rfl,(H j hj).2⟩
theorem wp_build_at {P:Program} {o:Oper} {a:Act} {w:World} {K:Act→World→Prop} {Q:Exit→Act→World→Prop} (t:TypeId) (parts:Array (Nat×Operand)) (cells:Array Value) (ho:o.op = .build t parts)
 (hc:P.built t (parts.map fun (i,x)=>(i,a.eval x)).toList=some cells) (h:K (a.put o.dst (.agg cells)) w):o.wp P a w K Q :=
 wp_build t parts ho (by rw[hc];rfl) (by rw[hc];exact h)
set_option maxRecDepth 100000 in
set_option maxHeartbeats 4000000 in
theorem told_calls (H:PathAt w B b p vk vu vl u) (O:PathOk p) (hf:-1≤p.fmt) (hl:-1≤p.lang):Calls Tryz.prog 57 #[.pointer (some ⟨b,0,none⟩)] w fun e w'=>∃ v1 v2 v3,e = .returned (toldVal (mTold p) v1 v2 v3)∧StrRow w' w.heap.size v1 (mLangs p)∧StrRow w' w.heap.size v2 (mIds p)∧StrRow w' w.heap.size v3 (mUnk p)∧Below w.heap.size w w':=by
 have HH:=bR H;have HO:=bR O;clear H O;have hB1:Below w.heap.size w (w.alloc (.cells (#[.string ⟨#[]⟩,.string ⟨#[]⟩,.string ⟨#[]⟩,.string ⟨#[]⟩,.string ⟨#[]⟩,.string ⟨#[]⟩,.string ⟨#[]⟩,.string ⟨#[]⟩,.string ⟨#[]⟩,.string ⟨#[]⟩,.string ⟨#[]⟩,.string ⟨#[]⟩,.string ⟨#[]⟩,.string ⟨#[]⟩,.string ⟨#[]⟩,.string ⟨#[]⟩,.string ⟨#[]⟩,.string ⟨#[]⟩,.string ⟨#[]⟩,.string ⟨#[]⟩,.string ⟨#[]⟩,.slice none 0 0,.slice none 0 0,.slice none 0 0,.bool false,.bool false,.bool false,.bool false,.bool false,.bool false,.int .i64 0]) 32)):=(Below.refl _ _).alloc (Nat.le_refl _) _
 have hR1:Row (w.alloc (.cells (#[.string ⟨#[]⟩,.string ⟨#[]⟩,.string ⟨#[]⟩,.string ⟨#[]⟩,.string ⟨#[]⟩,.string ⟨#[]⟩,.string ⟨#[]⟩,.string ⟨#[]⟩,.string ⟨#[]⟩,.string ⟨#[]⟩,.string ⟨#[]⟩,.string ⟨#[]⟩,.string ⟨#[]⟩,.string ⟨#[]⟩,.string ⟨#[]⟩,.string ⟨#[]⟩,.string ⟨#[]⟩,.string ⟨#[]⟩,.string ⟨#[]⟩,.string ⟨#[]⟩,.string ⟨#[]⟩,.slice none 0 0,.slice none 0 0,.slice none 0 0,.bool false,.bool false,.bool false,.bool false,.bool false,.bool false,.int .i64 0]) 32)) w.heap.size toldZero:=Row.new w toldZero _;go_enter Tryz.func57,Tryz.ntmps57;go_wp2_with fail
 obtain ⟨w1,hw1⟩:∃ w1,w.alloc (.cells (#[.string ⟨#[]⟩,.string ⟨#[]⟩,.string ⟨#[]⟩,.string ⟨#[]⟩,.string ⟨#[]⟩,.string ⟨#[]⟩,.string ⟨#[]⟩,.string ⟨#[]⟩,.string ⟨#[]⟩,.string ⟨#[]⟩,.string ⟨#[]⟩,.string ⟨#[]⟩,.string ⟨#[]⟩,.string ⟨#[]⟩,.string ⟨#[]⟩,.string ⟨#[]⟩,.string ⟨#[]⟩,.string ⟨#[]⟩,.string ⟨#[]⟩,.string ⟨#[]⟩,.string ⟨#[]⟩,.slice none 0 0,.slice none 0 0,.slice none 0 0,.bool false,.bool false,.bool false,.bool false,.bool false,.bool false,.int .i64 0]) 32)=w1:=⟨_,rfl⟩
 rw[hw1] at hB1 hR1 ⊢;clear hw1;have HH:=bR (HH.out.below hB1);have HB1:=bR hB1;have HR:=bR hR1;have HB:=bR (Below.refl w1.heap.size w1);clear hB1 hR1
 (refine (Component_calls (HH.out.below HB.out)).mono ?_)
 rintro e w' ⟨rfl,rfl⟩;go_wp2_with fail
 (refine (Container_calls (HH.out.below HB.out) HO.out).mono ?_)
 rintro e w' ⟨rfl,hd⟩;replace HB:=bR (below_step HB.out (Drawn0.below hd));clear hd;go_wp2_with fail
 (refine (ContainerDir_calls (HH.out.below HB.out) HO.out).mono ?_)
 rintro e w' ⟨rfl,hd⟩;replace HB:=bR (below_step HB.out (Drawn0.below hd));clear hd;go_wp2_with fail
 (refine (Section_calls (HH.out.below HB.out) HO.out).mono ?_)
 rintro e w' ⟨rfl,hd⟩;replace HB:=bR (below_step HB.out (Drawn0.below hd));clear hd;go_wp2_with fail
 (refine (Name_calls (HH.out.below HB.out) HO.out).mono ?_)
 rintro e w' ⟨rfl,hd⟩;replace HB:=bR (below_step HB.out (Drawn0.below hd));clear hd;go_wp2_with fail
 (refine (NameNoExt_calls (HH.out.below HB.out) HO.out).mono ?_)
 rintro e w' ⟨rfl,hd⟩;replace HB:=bR (below_step HB.out (Drawn0.below hd));clear hd;go_wp2_with fail
 (refine (BaseNameNoIdentifier_told (HH.out.below HB.out) HO.out).mono ?_)
 rintro e w' ⟨rfl,hd⟩;replace HB:=bR (below_step HB.out hd);clear hd;go_wp2_with fail
 (refine (NameNoIdentifier_calls (HH.out.below HB.out) HO.out).mono ?_)
 rintro e w' ⟨rfl,hd⟩;replace HB:=bR (below_step HB.out hd);clear hd;go_wp2_with fail
 (refine (Dir_calls (HH.out.below HB.out) HO.out).mono ?_)
 rintro e w' ⟨rfl,hd⟩;replace HB:=bR (below_step HB.out (Drawn0.below hd));clear hd;go_wp2_with fail
 (refine (Path_calls (HH.out.below HB.out)).mono ?_)
 rintro e w' ⟨rfl,rfl⟩;go_wp2_with fail
 (refine (PathNoLang_calls (HH.out.below HB.out) HO.out).mono ?_)
 rintro e w' ⟨rfl,hd⟩;replace HB:=bR (below_step HB.out hd);clear hd;go_wp2_with fail
 (refine (PathNoIdentifier_calls (HH.out.below HB.out) HO.out).mono ?_)
 rintro e w' ⟨rfl,hd⟩;replace HB:=bR (below_step HB.out hd);clear hd;go_wp2_with fail
 (refine (PathBefore_calls (HH.out.below HB.out) HO.out hf hl).mono ?_)
 rintro e w' ⟨rfl,hd⟩;replace HB:=bR (below_step HB.out hd);clear hd;go_wp2_with fail
 (refine (Base_calls (HH.out.below HB.out) HO.out).mono ?_)
 rintro e w' ⟨rfl,hd⟩;replace HB:=bR (below_step HB.out hd);clear hd;go_wp2_with fail
 (refine (IdentifierBase_calls (HH.out.below HB.out) HO.out).mono ?_)
 rintro e w' ⟨rfl,hd⟩;replace HB:=bR (below_step HB.out hd);clear hd;go_wp2_with fail
 (refine (Ext_calls (HH.out.below HB.out) HO.out).mono ?_)
 rintro e w' ⟨rfl,hd⟩;replace HB:=bR (below_step HB.out hd);clear hd;go_wp2_with fail
 (refine (OutputFormat_told (HH.out.below HB.out) HO.out).mono ?_)
 rintro e w' ⟨rfl,hd⟩;replace HB:=bR (below_step HB.out hd);clear hd;go_wp2_with fail
 (refine (Kind_told (HH.out.below HB.out) HO.out).mono ?_)
 rintro e w' ⟨rfl,hd⟩;replace HB:=bR (below_step HB.out hd);clear hd;go_wp2_with fail
 (refine (Layout_told (HH.out.below HB.out) HO.out).mono ?_)
 rintro e w' ⟨rfl,hd⟩;replace HB:=bR (below_step HB.out hd);clear hd;go_wp2_with fail
 (refine (Lang_calls (HH.out.below HB.out) HO.out).mono ?_)
 rintro e w' ⟨rfl,hd⟩;replace HB:=bR (below_step HB.out hd);clear hd;go_wp2_with fail
 (refine (Custom_calls (HH.out.below HB.out) HO.out).mono ?_)
 rintro e w' ⟨rfl,hd⟩;replace HB:=bR (below_step HB.out hd);clear hd;go_wp2_with fail
 (refine (Langs_calls (HH.out.below HB.out) HO.out).mono ?_)
 rintro e w' ⟨v21,rfl,hs,hd⟩;have S21:=bR (hs.mono (show w.heap.size+1≤_ from Nat.lt_of_lt_of_le (HR.out.lt bG) HB.out.size));replace HB:=bR (below_step HB.out hd);obtain ⟨A21,c21,hv21,_⟩:=S21.out;rw[hv21];replace hv21:=bR hv21;clear hd hs;go_wp2_with fail
 (refine (Identifiers_calls (HH.out.below HB.out) HO.out).mono ?_)
 rintro e w' ⟨v22,rfl,hs,hd⟩;have S22:=bR (hs.mono (show w.heap.size+1≤_ from Nat.lt_of_lt_of_le (HR.out.lt bG) HB.out.size));replace S21:=bR (S21.out.below hd);replace HB:=bR (below_step HB.out hd);obtain ⟨A22,c22,hv22,_⟩:=S22.out;rw[hv22];replace hv22:=bR hv22;clear hd hs;go_wp2_with fail
 (refine (IdentifiersUnknown_calls (HH.out.below HB.out) HO.out).mono ?_)
 rintro e w' ⟨v23,rfl,hs,hd⟩;have S23:=bR (hs.mono (show w.heap.size+1≤_ from Nat.lt_of_lt_of_le (HR.out.lt bG) HB.out.size));replace S21:=bR (S21.out.below hd);replace S22:=bR (S22.out.below hd);replace HB:=bR (below_step HB.out hd);obtain ⟨A23,c23,hv23,_⟩:=S23.out;rw[hv23];replace hv23:=bR hv23;clear hd hs;go_wp2_with fail
 (refine (Disabled_calls (HH.out.below HB.out)).mono ?_)
 rintro e w' ⟨rfl,rfl⟩;go_wp2_with fail
 (refine (IsContent_told (HH.out.below HB.out)).mono ?_)
 rintro e w' ⟨rfl,rfl⟩;go_wp2_with fail
 (refine (IsBundle_told (HH.out.below HB.out)).mono ?_)
 rintro e w' ⟨rfl,rfl⟩;go_wp2_with fail
 (refine (IsBranchBundle_told (HH.out.below HB.out)).mono ?_)
 rintro e w' ⟨rfl,rfl⟩;go_wp2_with fail
 (refine (IsLeafBundle_told (HH.out.below HB.out)).mono ?_)
 rintro e w' ⟨rfl,rfl⟩;go_wp2_with fail
 (refine (IsContentData_told (HH.out.below HB.out)).mono ?_)
 rintro e w' ⟨rfl,rfl⟩;go_wp2_with fail
 (refine (Type_calls (HH.out.below HB.out)).mono ?_)
 rintro e w' ⟨rfl,rfl⟩;go_wp2_with fail
 have hRf:=HR.out.below HB.out (HR.out.lt bG);have ht:World.there _ w.heap.size 0 31:=hRf.there
 obtain ⟨C,hC⟩:∃ C:Array Value,#[.string (p.comp),.string (mContainer p),.string (mContainerDir p),.string (mSection p),.string (mName p),.string (mNameNoExt p),.string (mBaseName p),.string (mNameNoId p),.string (mDir p),.string (nrm p.trim p.s),.string (mNoLang p),.string (mBase0 p false false),.string (mBefore p),.string (mBase p),.string (mIdBase p),.string (mIdStr p 0),.string (mFmt p),.string (mKind p),.string (mLayout p),.string (mLang p),.string (mCustom p),.slice A21 (mLangs p).length c21,.slice A22 (mIds p).length c22,.slice A23 (mUnk p).length c23,.bool (p.dis),.bool (mIsContent p),.bool (mIsBundle p),.bool (mIsBranch p),.bool (mIsLeaf p),.bool (mIsData p),.int .i64 p.typ]=C:=⟨_,rfl⟩
 refine wp_build_at 32 _ C rfl (hC▸by kernel_rfl) ?_;have hs:C.size=31:=by rw[← hC];rfl
 have hl:C.toList.length=31:=by simpa using hs
 have hone:C.all (·.oneCell')=true:=by rw[← hC];kernel_rfl
 have hB4:=HB.out;refine (show ∀ (a:Act) (w:World),wpList _ _ _ _ a w→_ from by assumption) _ _ ?_;refine wpList_store_mid rfl 32 _ _ rfl w.heap.size 0 C rfl rfl (by rw[hs];exact ht) (by rw[hs];kernel_rfl) hone ?_;have hr:=World.rangeAt_setCells_same _ w.heap.size 0 C.toList (by rw[hl];exact ht);have hld:=run_loadVar_mid (P:=Tryz.prog) _ w.heap.size 0 32 C.toList _ hr Tryz.underlying32 rfl (by rw[hl];kernel_rfl);have hbw:Below w'.heap.size w' w':=Below.refl _ _;have hz:w.heap.size < w'.heap.size:=Nat.lt_of_lt_of_le (HR.out.lt bG) HB.out.size;have hfar:∀ k,k≠w.heap.size→(w'.setCells w.heap.size 0 C.toList).heap[k]? = w'.heap[k]?:=fun k hk=>setCells_far _ _ k hk;have hbel:Below w.heap.size w (w'.setCells w.heap.size 0 C.toList):=below_setCells (Nat.le_refl _) _ _ _ (HB1.out.trans (HB.out.mono HB1.out.size))
 obtain ⟨W,hW⟩:∃ W,w'.setCells w.heap.size 0 C.toList=W:=⟨_,rfl⟩
 rw[hW] at hld hbel hfar ⊢;have s1:=bR (S21.out.far fun k hk _=>hfar k bA);have s2:=bR (S22.out.far fun k hk _=>hfar k bA);have s3:=bR (S23.out.far fun k hk _=>hfar k bA);have HBel:=bR hbel;have HC:=bR hC;clear hC hbel hfar hW hz hbw hr hB4 hone hl hs ht hRf S21 S22 S23;go_wp2_with fail
 refine bodyPost_ret (v:=.agg C) (results_cell Tryz.results57 rfl (by simpa using hld)) rfl ⟨v21,v22,v23,?_,s1.out.mono (Nat.le_succ _),s2.out.mono (Nat.le_succ _),s3.out.mono (Nat.le_succ _),HBel.out⟩;rw[← HC.out,hv21.out,hv22.out,hv23.out];rfl
end
end Go.Proofs.YtmgdbpjidkdegaaGreatDoor.Path
set_option linter.unusedSimpArgs false
set_option linter.unusedVariables false
namespace Go.Proofs.YtmgdbpjidkdegaaGreatDoor.Path
open Go.RowKit Go.WideMaps Go.Proofs.YtmgdbpjidkdegaaGreatDoorW.PrintWords Go.Proofs.YtmgdbpjidkdegaaGreatDoor.Base Go.Proofs.YtmgdbpjidkdegaaGreatDoor.Lower
structure SiteIn (w:World) (st:SiteV) (vl vd vf vc:Value):Prop where
 l:StrRow w 0 vl st.langs
 d:StrRow w 0 vd st.dis
 f:FmtRow w 0 vf st.fmts
 c:StrRow w 0 vc st.cont
theorem SiteIn.below {w w' : World} {st:SiteV} {vl vd vf vc:Value} (H:SiteIn w st vl vd vf vc) (hb:Below w.heap.size w w'):SiteIn w' st vl vd vf vc :=
 ⟨H.l.below hb,H.d.below hb,H.f.below hb,H.c.below hb⟩
def Told (w:World) (B:Nat) (p:PathV) (v1 v2 v3:Value):Prop:=StrRow w B v1 (mLangs p)∧StrRow w B v2 (mIds p)∧StrRow w B v3 (mUnk p)
theorem Told.below {w w' : World} {B:Nat} {p:PathV} {v1 v2 v3:Value} (H:Told w B p v1 v2 v3) (hb:Below w.heap.size w w'):Told w' B p v1 v2 v3:=⟨H.1.below hb,H.2.1.below hb,H.2.2.below hb⟩
def toldC (t:ToldV) (v1 v2 v3:Value):Array Value:=(toldList t v1 v2 v3).toArray
theorem toldC_one (t:ToldV) (A1 A2 A3:Option Addr) (n1 n2 n3 c1 c2 c3:Nat):(toldC t (.slice A1 n1 c1) (.slice A2 n2 c2) (.slice A3 n3 c3)).all (·.oneCell')=true:=by kernel_rfl
def TZ:Array Value:=#[.string ⟨#[]⟩,.string ⟨#[]⟩,.string ⟨#[]⟩,.string ⟨#[]⟩,.string ⟨#[]⟩,.string ⟨#[]⟩,.string ⟨#[]⟩,.string ⟨#[]⟩,.string ⟨#[]⟩,.string ⟨#[]⟩,.string ⟨#[]⟩,.string ⟨#[]⟩,.string ⟨#[]⟩,.string ⟨#[]⟩,.string ⟨#[]⟩,.string ⟨#[]⟩,.string ⟨#[]⟩,.string ⟨#[]⟩,.string ⟨#[]⟩,.string ⟨#[]⟩,.string ⟨#[]⟩,.slice none 0 0,.slice none 0 0,.slice none 0 0,.bool false,.bool false,.bool false,.bool false,.bool false,.bool false,.int .i64 0]
section
variable {w:World} {st:SiteV} {vl vd vf vc:Value}
set_option maxRecDepth 100000 in
set_option maxHeartbeats 4000000 in
theorem implParse_calls (S:SiteIn w st vl vd vf vc) (OS:SiteOk st) (comp s:ByteArray) (hs:s.size≤900000) (ha:asc s) :
 Calls Tryz.prog 33 #[.agg #[vl,vd,vf,vc],.string comp,.string s] w fun e w' =>
  ∃ v1 v2 v3,e = .returned (toldVal (mTold (mPath (envOf st) comp (norm s))) v1 v2 v3)∧Told w' w.heap.size (mPath (envOf st) comp (norm s)) v1 v2 v3∧Below w.heap.size w w':=by
 have HSI:=bR S;have hok:=mPath_ok (envOf st) comp (norm s) (by rw[norm_size];exact hs);have HOK:=bR hok;have HA:=bR ha;obtain ⟨Al,cl,rfl,_,_⟩:=S.l;obtain ⟨Ad,cd,rfl,_,_⟩:=S.d;obtain ⟨Af,cf,rfl,_,_⟩:=S.f;obtain ⟨Ac,cc,rfl,_,_⟩:=S.c;clear S hok ha;have hB1:Below w.heap.size w (w.alloc (.cells #[.slice Al st.langs.length cl,.slice Ad st.dis.length cd,.slice Af st.fmts.length cf,.slice Ac st.cont.length cc] 25)):=(Below.refl _ _).alloc (Nat.le_refl _) _;have hR1:=Row.new w [.slice Al st.langs.length cl,.slice Ad st.dis.length cd,.slice Af st.fmts.length cf,.slice Ac st.cont.length cc] 25;have hs1:w.heap.size < (w.alloc (.cells #[.slice Al st.langs.length cl,.slice Ad st.dis.length cd,.slice Af st.fmts.length cf,.slice Ac st.cont.length cc] 25)).heap.size:=by simp
 go_enter Tryz.func33,Tryz.ntmps33;go_upto_region 1 with fail
 obtain ⟨w1,hw1⟩:∃ w1,w.alloc (.cells #[.slice Al st.langs.length cl,.slice Ad st.dis.length cd,.slice Af st.fmts.length cf,.slice Ac st.cont.length cc] 25)=w1:=⟨_,rfl⟩
 have hz1:w1.heap.size=w.heap.size+1:=by rw[← hw1];simp
 rw[hw1] at hB1 hR1 hs1 ⊢;clear hw1;have hB2:Below w1.heap.size w1 (w1.alloc (.cells toldZero.toArray 32)):=(Below.refl _ _).alloc (Nat.le_refl _) _;have hR2:Row (w1.alloc (.cells toldZero.toArray 32)) w1.heap.size toldZero:=Row.new w1 toldZero _;rw[show toldZero.toArray=TZ from rfl] at hB2 hR2
 obtain ⟨w2,hw2⟩:∃ w2,w1.alloc (.cells TZ 32)=w2:=⟨_,rfl⟩
 rw[hw2] at hB2 hR2;change Code.wp _ _ _ _ (w1.alloc (.cells TZ 32));rw[hw2];clear hw2;rw[hz1] at hR2;have hB:Below w.heap.size w w2:=hB1.trans (hB2.mono bA);have hRs:=hR1.below hB2 hs1;have r0:=hRs.at 0 _ rfl;have r1:=hRs.at 1 _ rfl;have r2:=hRs.at 2 _ rfl;have r3:=hRs.at 3 _ rfl;have HB:=bR hB;have HR2:=bR hR2;have hlt2:w.heap.size+1 < w2.heap.size:=hR2.lt bG;have cp:=parser_calls (HSI.out.l.below hB) (HSI.out.d.below hB) (HSI.out.f.below hB) (HSI.out.c.below hB) OS;clear hB1 hR1 hs1 hB2 hR2 hB hRs hz1;go_wp2_with fail
 refine cp.mono ?_;rintro e w3 ⟨pb,mb,sb,fb,rfl,hS,hb3⟩;have cP:=Parse_calls hS OS comp s hs HA.out;have HB3:=bR hb3;clear cp hS hb3 r0 r1 r2 r3;go_wp2_with fail
 refine cP.mono ?_;rintro e w4 ⟨b,ub,vk,vu,vl,rfl,hp,hb4⟩;have ct:=told_calls hp.1 HOK.out.1 HOK.out.2.1 HOK.out.2.2;have HB4:=bR (below_step HB3.out hb4);clear cP hp hb4;go_wp2_with fail
 refine ct.mono ?_;rintro e w5 ⟨v1,v2,v3,rfl,hs1,hs2,hs3,hb5⟩;have HB5:=bR (below_step HB4.out hb5);have hz5:=HB4.out.size;have S1:=bR hs1;have S2:=bR hs2;have S3:=bR hs3;obtain ⟨A1,c1,e1,_⟩:=S1.out;obtain ⟨A2,c2,e2,_⟩:=S2.out;obtain ⟨A3,c3,e3,_⟩:=S3.out;clear ct hb5 hs1 hs2 hs3
 obtain ⟨C,hC⟩:∃ C:Array Value,toldC (mTold (mPath (envOf st) comp (norm s))) v1 v2 v3=C:=⟨_,rfl⟩
 have hval:toldVal (mTold (mPath (envOf st) comp (norm s))) v1 v2 v3 = .agg C:=by rw[← hC];rfl
 have hCs:C.size=31:=by rw[← hC];rfl
 have hl:C.toList.length=31:=by simpa using hCs
 have hone:C.all (·.oneCell')=true:=by rw[← hC,e1,e2,e3];exact toldC_one _ _ _ _ _ _ _ _ _ _
 have HV:=bR hval;rw[hval];clear hval e1 e2 e3;have HC:=bR hC;have hRf:=HR2.out.below HB5.out hlt2;have ht:World.there _ (w.heap.size+1) 0 31:=hRf.there
 dsimp only
 refine (show ∀ (a:Act) (w:World),wpList _ _ _ _ a w→_ from by assumption) _ _ ?_;refine wpList_store_mid rfl 32 _ _ rfl (w.heap.size+1) 0 C rfl rfl (by rw[hCs];exact ht) (by rw[hCs];kernel_rfl) hone ?_;have hr:=World.rangeAt_setCells_same _ (w.heap.size+1) 0 C.toList (by rw[hl];exact ht);have hld:=run_loadVar_mid (P:=Tryz.prog) _ (w.heap.size+1) 0 32 C.toList _ hr Tryz.underlying32 rfl (by rw[hl];kernel_rfl);have hfar:∀ k,k≠w.heap.size+1→(w5.setCells (w.heap.size+1) 0 C.toList).heap[k]? = w5.heap[k]?:=fun k hk=>setCells_far _ _ k hk;have hbel:Below w.heap.size w (w5.setCells (w.heap.size+1) 0 C.toList):=below_setCells (Nat.le_succ _) _ _ _ (HB.out.trans (HB5.out.mono HB.out.size))
 obtain ⟨W,hW⟩:∃ W,w5.setCells (w.heap.size+1) 0 C.toList=W:=⟨_,rfl⟩
 rw[hW] at hld hbel hfar ⊢;have s1:=bR (S1.out.far fun k hk _=>hfar k bA);have s2:=bR (S2.out.far fun k hk _=>hfar k bA);have s3:=bR (S3.out.far fun k hk _=>hfar k bA);have HBel:=bR hbel;have hz4:w.heap.size≤w4.heap.size:=by omega
 clear hbel hfar hW hr hone hl hCs ht hRf S1 S2 S3;go_wp2_with fail
 refine bodyPost_ret (v:=.agg C) (results_cell Tryz.results33 rfl (by simpa using hld)) rfl ⟨v1,v2,v3,?_,⟨s1.out.mono hz4,s2.out.mono hz4,s3.out.mono hz4⟩,HBel.out⟩;rw[HV.out]
end
end Go.Proofs.YtmgdbpjidkdegaaGreatDoor.Path
namespace Go.Proofs.YtmgdbpjidkdegaaGreatDoor.Ext
open Go.RowKit Go.Proofs.YtmgdbpjidkdegaaGreatDoorW.PrintWords Go.Proofs.YtmgdbpjidkdegaaGreatDoor.Base Go.Proofs.YtmgdbpjidkdegaaGreatDoor.PCore
def ascii (l:List UInt8):Bool:=l.all fun c=>decide (c.toNat≤127)
theorem ascii_cons (c:UInt8) (r:List UInt8):ascii (c::r)=(decide (c.toNat≤127) && ascii r):=rfl
theorem ev_Ascii_l0 (s:ByteArray) (hs:s.size≤140737488355328) (d:Nat):∀ i:Nat,s.size - i=d→i≤s.size→Ev (fun k=>spec_Ascii.l0 k s i) (ascii ((L s).drop i)):=by
 have hl:=L_length s
 induction d with
 | zero =>
  intro i h1 h2;have e:(L s).drop i=[]:=List.drop_of_length_le bA;rw[e];refine Ev.step (f:=fun _=>some true) (fun k=>?_) (Ev.now _);simp only[spec_Ascii.l0];rw[if_neg bA]
 | succ d ih =>
  intro i h1 h2;have hi:i < (L s).length:=by omega
  have hb:=bt_nat s i hi;have e:(L s).drop i=(L s)[i]::(L s).drop (i+1):=List.drop_eq_getElem_cons hi;rw[e]
  by_cases h:(L s)[i].toNat≤127
  ·have e2:ascii ((L s)[i]::(L s).drop (i+1))=ascii ((L s).drop (i+1)):=by rw[ascii_cons,decide_eq_true h,Bool.true_and]
   rw[e2];refine Ev.step (f:=fun k=>spec_Ascii.l0 k s ((i+1:Nat):Int)) (fun k=>?_) (ih (i+1) bA bA);simp only[spec_Ascii.l0];rw[if_pos bA,if_pos bA,hb,if_neg bA,w64 bA bA];rfl
  ·have e2:ascii ((L s)[i]::(L s).drop (i+1))=false:=by rw[ascii_cons,decide_eq_false h,Bool.false_and]
   rw[e2];refine Ev.step (f:=fun _=>some false) (fun k=>?_) (Ev.now _);simp only[spec_Ascii.l0];rw[if_pos bA,if_pos bA,hb,if_pos bA]
theorem ev_Ascii (s:ByteArray) (hs:s.size≤140737488355328):Ev (fun k=>spec_Ascii.f k s) (ascii (L s)):=by
 have h:=ev_Ascii_l0 s hs s.size 0 bA bA;exact h
end Go.Proofs.YtmgdbpjidkdegaaGreatDoor.Ext
