/- Texts that the law leans on: New, MPath, Index, Norm, Ids, Acc5, Told, ToldWalk, Asc, Total. Condition: as told at each. -/
import Derived.Deep.MidRow
import Derived.Lib.LazyBuf
import Derived.Test.YtcdgldnphhidlaaGreatDoorVa
import Derived.Test.YtcdgldnphhidlaaGreatDoorV13
set_option linter.unusedVariables false
set_option linter.unusedSimpArgs false
set_option maxRecDepth 100000
set_option maxHeartbeats 16000000
namespace Go.Proofs.YtcdgldnphhidlaaGreatDoor.Path
open Go.RowKit Go.ZW.PrintWords Go.Proofs.YtcdgldnphhidlaaGreatDoor.Base
def fT:eJ where
 s:=⟨#[]⟩
 cLow:=-1
 cHigh:=-1
 sec:=-1
 comp:=⟨#[]⟩
 typ:=0
 known:=[]
 unknown:=[]
 lang:=-1
 fmt:=-1
 kind:=-1
 lay:=-1
 base:=-1
 cust:=-1
 plangs:=[]
 pfmt:=-1
 pkind:=-1
 play:=-1
 nLow:=0
 nHigh:=0
 nEnd:=-1
 dis:=false
 trim:=false
theorem Row.eq {w:World} {b:Nat} {cs cs' : List Value} (R:Row w b cs) (h:cs=cs'):Row w b cs':=h▸R
section
variable {w:World} {b:Nat} {p:eJ} {vu u:Value}
theorem aDp {A A2:Option Addr} {n c n2 c2:Nat} (R:Row w b (cells p (.slice A n c) vu (.slice A2 n2 c2) u)) :
 Calls Tryz.prog 166 #[.pointer (some ⟨b,0,none⟩)] w fun e w'=>e = .returned (.tuple #[])∧Row w' b (cells fT (.slice A 0 c) vu (.slice A2 0 c2) (.pointer none))∧Below b w w':=by
 have r0:=R.at 0 _ rfl;have f0:=R.free 0 bI;have r1:=R.at 1 _ rfl;have f1:=R.free 1 bI;have r2:=R.at 2 _ rfl;have f2:=R.free 2 bI;have r3:=R.at 3 _ rfl;have f3:=R.free 3 bI;have r4:=R.at 4 _ rfl;have f4:=R.free 4 bI;have r5:=R.at 5 _ rfl;have f5:=R.free 5 bI;have r6:=R.at 6 _ rfl;have f6:=R.free 6 bI;have r8:=R.at 8 _ rfl;have f8:=R.free 8 bI;have r9:=R.at 9 _ rfl;have f9:=R.free 9 bI;have r10:=R.at 10 _ rfl;have f10:=R.free 10 bI;have r11:=R.at 11 _ rfl;have f11:=R.free 11 bI;have r12:=R.at 12 _ rfl;have f12:=R.free 12 bI;have r13:=R.at 13 _ rfl;have f13:=R.free 13 bI;have r14:=R.at 14 _ rfl;have f14:=R.free 14 bI
 have r15:=R.at 15 _ rfl;have f15:=R.free 15 bI;have r16:=R.at 16 _ rfl;have f16:=R.free 16 bI;have r17:=R.at 17 _ rfl;have f17:=R.free 17 bI;have r18:=R.at 18 _ rfl;have f18:=R.free 18 bI;have r19:=R.at 19 _ rfl;have f19:=R.free 19 bI;have r20:=R.at 20 _ rfl;have f20:=R.free 20 bI;have r21:=R.at 21 _ rfl;have f21:=R.free 21 bI;have r22:=R.at 22 _ rfl;have f22:=R.free 22 bI;have r23:=R.at 23 _ rfl;have f23:=R.free 23 bI;have r24:=R.at 24 _ rfl;have f24:=R.free 24 bI;have r25:=R.at 25 _ rfl;have f25:=R.free 25 bI;have HR:=cH R;clear R;go_enter Tryz.func166,Tryz.ntmps166;go_wp2_with fail
 refine ⟨rfl,.tuple #[],by simp[results,Tryz.results166],rfl,Row.eq (((((((((((((((((((((((((HR.out.set 0 (.string ⟨#[]⟩) bI).set 1 (.int .i64 (-1)) bI).set 2 (.int .i64 (-1)) bI).set 3 (.int .i64 (-1)) bI).set 4 (.string ⟨#[]⟩) bI).set 5 (.int .i64 0) bI).set 6 (.slice A 0 c) bI).set 8 (.int .i64 (-1)) bI).set 9 (.int .i64 (-1)) bI).set 10 (.int .i64 (-1)) bI).set 11 (.int .i64 (-1)) bI).set 12 (.int .i64 (-1)) bI).set 13 (.int .i64 (-1)) bI).set 14 (.slice A2 0 c2) bI).set 15 (.slice none 0 0) bI).set 16 (.slice none 0 0) bI).set 17 (.int .i64 (-1)) bI).set 18 (.int .i64 (-1)) bI).set 19 (.int .i64 (-1)) bI).set 20 (.int .i64 0) bI).set 21 (.int .i64 0) bI).set 22 (.int .i64 (-1)) bI).set 23 (.bool false) bI).set 24 (.bool false) bI).set 25 (.pointer none) bI) bB,?_⟩
 exact ((((((((((((((((((((((((((Below.refl b w).setCell (p:=⟨b,0,none⟩) (Nat.le_refl _) _).setCell (p:=⟨b,1,none⟩) (Nat.le_refl _) _).setCell (p:=⟨b,2,none⟩) (Nat.le_refl _) _).setCell (p:=⟨b,3,none⟩) (Nat.le_refl _) _).setCell (p:=⟨b,4,none⟩) (Nat.le_refl _) _).setCell (p:=⟨b,5,none⟩) (Nat.le_refl _) _).setCell (p:=⟨b,6,none⟩) (Nat.le_refl _) _).setCell (p:=⟨b,8,none⟩) (Nat.le_refl _) _).setCell (p:=⟨b,9,none⟩) (Nat.le_refl _) _).setCell (p:=⟨b,10,none⟩) (Nat.le_refl _) _).setCell (p:=⟨b,11,none⟩) (Nat.le_refl _) _).setCell (p:=⟨b,12,none⟩) (Nat.le_refl _) _).setCell (p:=⟨b,13,none⟩) (Nat.le_refl _) _).setCell (p:=⟨b,14,none⟩) (Nat.le_refl _) _).setCell (p:=⟨b,15,none⟩) (Nat.le_refl _) _).setCell (p:=⟨b,16,none⟩) (Nat.le_refl _) _).setCell (p:=⟨b,17,none⟩) (Nat.le_refl _) _).setCell (p:=⟨b,18,none⟩) (Nat.le_refl _) _).setCell (p:=⟨b,19,none⟩) (Nat.le_refl _) _).setCell (p:=⟨b,20,none⟩) (Nat.le_refl _) _).setCell (p:=⟨b,21,none⟩) (Nat.le_refl _) _).setCell (p:=⟨b,22,none⟩) (Nat.le_refl _) _).setCell (p:=⟨b,23,none⟩) (Nat.le_refl _) _).setCell (p:=⟨b,24,none⟩) (Nat.le_refl _) _).setCell (p:=⟨b,25,none⟩) (Nat.le_refl _) _)
theorem eM.fresh {w:World} {b:Nat} {p:eJ} (R:Row w b (cells p (.slice none 0 0) (.slice none 0 0) (.slice none 0 0) u)) (h1:p.known=[]) (h2:p.unknown=[]) (h3:p.plangs=[]):eM w b b p (.slice none 0 0) (.slice none 0 0) (.slice none 0 0) u:=by
 refine ⟨Nat.le_refl _,R,?_,?_,?_,(fun h=>by cases h),(fun h=>by cases h),(fun h=>by cases h),.inl rfl⟩
 ·rw[h1];exact ⟨rfl,.inl ⟨rfl,rfl⟩⟩
 ·rw[h2];exact ⟨rfl,.inl ⟨rfl,rfl⟩⟩
 rw[h3];exact ⟨rfl,.inl ⟨rfl,rfl⟩⟩
def zeroCells:List Value:=cells { fT with cLow:=0,cHigh:=0,sec:=0,lang:=0,fmt:=0,kind:=0,lay:=0,base:=0,cust:=0,pfmt:=0,pkind:=0,play:=0,nEnd:=0 } (.slice none 0 0) (.slice none 0 0) (.slice none 0 0) (.pointer none)
theorem uP (w:World) (v:Value) (comp:ByteArray):Calls Tryz.prog 136 #[v,.string comp] w fun e w'=>e = .returned (.pointer (some ⟨w.heap.size,0,none⟩))∧eM w' w.heap.size w.heap.size { fT with comp:=comp } (.slice none 0 0) (.slice none 0 0) (.slice none 0 0) (.pointer none)∧Below w.heap.size w w':=by
 have hR:=Row.new w zeroCells 94;have hB:Below w.heap.size w (w.alloc (.cells zeroCells.toArray 94)):=(Below.refl _ _).alloc (Nat.le_refl _) _;have hs:w.heap.size < (w.alloc (.cells zeroCells.toArray 94)).heap.size:=by simp
 simp only[zeroCells,cells,fT] at hR hB hs;go_enter Tryz.func136,Tryz.ntmps136;go_wp2_with fail
 refine (aDp (p:={ fT with cLow:=0,cHigh:=0,sec:=0,lang:=0,fmt:=0,kind:=0,lay:=0,base:=0,cust:=0,pfmt:=0,pkind:=0,play:=0,nEnd:=0 }) (A:=none) (A2:=none) (n:=0) (c:=0) (n2:=0) (c2:=0) hR).mono ?_;rintro e w' ⟨rfl,hr,hb⟩;have HB:=cH (hB.trans hb);have h4:=hr.at 4 _ rfl;have f4:=hr.free 4 bI;have HR:=cH hr;clear hR hB hs hr hb;go_wp2_with fail
 go_ret;refine ⟨rfl,eM.fresh (Row.eq (HR.out.set 4 (.string comp) bI) bB) rfl rfl rfl,HB.out.setCell (Nat.le_refl _) _⟩
end
def fL (E:Env) (comp s:ByteArray):eJ:=mDo E comp s { fT with comp:=comp }
theorem aHg (E:Env) (comp s:ByteArray):(fL E comp s).s=⟨(hE s.data.toList).toArray⟩∧(fL E comp s).trim=false∧(fL E comp s).comp=comp:=by
 obtain ⟨T,hT⟩:∃ T:ByteArray,⟨(hE s.data.toList).toArray⟩=T:=⟨_,rfl⟩
 have hl:L T=hE (L s):=by rw[← hT];exact kV _
 have h0:T.data.toList[0]? = some 47:=by show (L T)[0]? = _;rw[hl,← List.head?_eq_getElem?];exact mText_head _
 have hI:In1 T comp T.size ⟨iU { fT with comp:=comp } T,0,0⟩:=In1.start rfl rfl rfl rfl rfl rfl rfl rfl rfl rfl rfl rfl rfl;have h2:=(InD.loop (E:=E) (sk:=lT T.data.toList) (nd:=qR T.data.toList) h0 T.size _ (Nat.le_refl _) (.inl hI)).last h0;unfold fL mDo;rw[hT];unfold sZ;obtain ⟨t1,c1,e1⟩:=wX E (rC E comp (iU { fT with comp:=comp } T)).sc (gG (rC E comp (iU { fT with comp:=comp } T)).p);obtain ⟨t2,e2⟩:=wY comp (hY E (rC E comp (iU { fT with comp:=comp } T)).sc (gG (rC E comp (iU { fT with comp:=comp } T)).p))
 have e3:∀ q:eJ,(mD q).s=q.s∧(mD q).trim=q.trim∧(mD q).comp=q.comp:=by
  intro q;unfold mD;split <;> exact ⟨rfl,rfl,rfl⟩
 obtain ⟨a1,a2,a3⟩:=e3 (lC comp (hY E (rC E comp (iU { fT with comp:=comp } T)).sc (gG (rC E comp (iU { fT with comp:=comp } T)).p)));rw[a1,a2,a3,e2,e1];exact ⟨h2.hs,h2.ht,h2.hc⟩
theorem oL (E:Env) (comp s:ByteArray):((nrm (fL E comp s).trim (fL E comp s).s).toList==[])=false:=by
 obtain ⟨h1,h2,_⟩:=aHg E comp s;rw[h1,h2];have hh:=mText_head s.data.toList
 cases hm:hE s.data.toList with
 | nil=>rw[hm] at hh;cases hh
 | cons a r =>
  have:(nrm false ⟨(a::r).toArray⟩).toList=a::r:=by
   show (⟨(a::r).toArray⟩:ByteArray).toList=_;rw[L_toList];exact kV _
  rw[this];rfl
theorem nP (E:Env) (comp s:ByteArray) (hs:s.size≤900000):iG (fL E comp s)∧-1≤(fL E comp s).fmt∧-1≤(fL E comp s).lang:=by
 obtain ⟨T,hT⟩:∃ T:ByteArray,⟨(hE s.data.toList).toArray⟩=T:=⟨_,rfl⟩
 have hl:L T=hE (L s):=by rw[← hT];exact kV _
 have h0:T.data.toList[0]? = some 47:=by show (L T)[0]? = _;rw[hl,← List.head?_eq_getElem?];exact mText_head _
 have hz:T.size≤1000000:=by have:=mText_length (L s);rw[← eK,hl];have:=eK s;omega
 have hI:In1 T comp T.size ⟨iU { fT with comp:=comp } T,0,0⟩:=In1.start rfl rfl rfl rfl rfl rfl rfl rfl rfl rfl rfl rfl rfl;have h2:=(InD.loop (E:=E) (sk:=lT T.data.toList) (nd:=qR T.data.toList) h0 T.size _ (Nat.le_refl _) (.inl hI)).last h0;have h3:=h2.fin (E:=E) hz;unfold fL mDo;rw[hT];exact h3
end Go.Proofs.YtcdgldnphhidlaaGreatDoor.Path
namespace Go.Proofs.YtcdgldnphhidlaaGreatDoor.Index
open Go.RowKit Go.ZW.PrintWords Go.Proofs.YtcdgldnphhidlaaGreatDoor.Base Go.Proofs.YtcdgldnphhidlaaGreatDoor.PCore
def idx (t:List UInt8):List UInt8→Option Nat
 | []=>if t.isEmpty then some 0 else none
 | c::r=>if t.isPrefixOf (c::r) then some 0 else (idx t r).map (· + 1)
def zS:Option Nat→Int
 | none=>-1
 | some n=>n
theorem vH (t:List UInt8):∀ l:List UInt8,l.length < t.length→idx t l=none
 | [],h=>by cases t with | nil=>simp at h | cons=>rfl
 | c::r,h=>by
  have h1:t.isPrefixOf (c::r)=false:=by
   rw[Bool.eq_false_iff];intro hp;have:=(List.isPrefixOf_iff_prefix.1 hp).length_le;omega
  simp only[idx,h1];rw[vH t r (by simp at h;omega)];rfl
theorem tB (t l:List UInt8):t.isPrefixOf l=decide (l.take t.length=t):=by
 rw[Bool.eq_iff_iff,List.isPrefixOf_iff_prefix,decide_eq_true_iff];constructor
 ·rintro ⟨u,rfl⟩;simp
 intro h;rw[← h];exact List.take_prefix _ _
theorem yJ (s:ByteArray) (i n:Nat):(s.extract i (i+n)).toList=((L s).drop i).take n:=by
 rw[L_toList,eS];congr 1;omega
theorem aA1 (s t:ByteArray) (hs:s.size≤140737488355328) (ht:t.size≤140737488355328) (ht0:0 < t.size) (d:Nat):∀ i:Nat,s.size - i=d→i≤s.size →
 Ev (fun k=>fI.l0 k s t i) (zS ((idx (L t) ((L s).drop i)).map (· + i))):=by
 have hl:=eK s;have hlt:=eK t
 induction d with
 | zero =>
  intro i h1 h2;rw[vH (L t) _ (by simp;omega)];refine Ev.step (f:=fun _=>some (-1)) (fun k=>?_) (Ev.now _);simp only[fI.l0];rw[if_neg (by rw[w64 bA bA];omega)]
 | succ d ih =>
  intro i h1 h2
  by_cases hfit:i+t.size≤s.size
  ·have hi:i < (L s).length:=by omega
   have e:(L s).drop i=(L s)[i]::(L s).drop (i+1):=List.drop_eq_getElem_cons hi;have hx:(s.extract i (i+t.size)).toList=((L s).drop i).take (L t).length:=by rw[yJ,hlt]
   by_cases h:((L s).drop i).take (L t).length=L t
   ·have e2:idx (L t) ((L s).drop i)=some 0:=by
     have:(L t).isPrefixOf ((L s)[i]::(L s).drop (i+1))=true:=by rw[tB,← e];simpa using h
     rw[e];simp only[idx,this,if_true]
    rw[e2];refine Ev.step (f:=fun _=>some (i:Int)) (fun k=>?_) (by simpa [zS] using Ev.now (i:Int));simp only[fI.l0];rw[w64 (n:=(i:Int)+t.size) bA bA,if_pos bA,if_pos bA,if_pos bA];rw[show ((i:Int)+(t.size:Int)).toNat=i+t.size from by omega,show ((i:Nat):Int).toNat=i from by omega,hx,if_pos (by rw[h,L_toList])]
   have e2:idx (L t) ((L s).drop i)=(idx (L t) ((L s).drop (i+1))).map (· + 1):=by
    have:(L t).isPrefixOf ((L s)[i]::(L s).drop (i+1))=false:=by rw[tB,← e];simpa using h
    rw[e];simp only[idx,this];rfl
   have e3:(idx (L t) ((L s).drop i)).map (· + i)=(idx (L t) ((L s).drop (i+1))).map (· + (i+1)):=by
    rw[e2,Option.map_map];congr 1;funext x;simp only[Function.comp];omega
   rw[e3];refine Ev.step (f:=fun k=>fI.l0 k s t ((i+1:Nat):Int)) (fun k=>?_) (ih (i+1) bA bA);simp only[fI.l0];rw[w64 (n:=(i:Int)+t.size) bA bA,if_pos bA,if_pos bA,if_pos bA];rw[show ((i:Int)+(t.size:Int)).toNat=i+t.size from by omega,show ((i:Nat):Int).toNat=i from by omega,hx,if_neg (by rw[L_toList];exact h),w64 bA bA];rfl
  rw[vH (L t) _ (by simp;omega)];refine Ev.step (f:=fun _=>some (-1)) (fun k=>?_) (Ev.now _);simp only[fI.l0];rw[if_neg (by rw[w64 bA bA];omega)]
theorem aEi (s t:ByteArray) (hs:s.size≤140737488355328) (ht:t.size≤140737488355328) (ht0:0 < t.size):Ev (fun k=>fI.f k s t) (zS (idx (L t) (L s))):=by
 have h:=aA1 s t hs ht ht0 s.size 0 bA bA;simp only[List.drop_zero,Nat.add_zero] at h;have e:(idx (L t) (L s)).map (fun x=>x)=idx (L t) (L s):=by cases idx (L t) (L s) <;> rfl
 rw[e] at h;exact h
theorem zG (s t:ByteArray) (r:Int) (w:World) (hs:s.size≤140737488355328) (ht:t.size≤140737488355328) (ht0:0 < t.size) (hr:zS (idx (L t) (L s))=r) :
 Calls Tryz.prog 153 #[.string s,.string t] w fun e w'=>e = .returned (.int .i64 r)∧eW w w':=by
 obtain ⟨k,hk⟩:=(aEi s t hs ht ht0).rounds;exact fI.calls k s t r w (by rw[hk,hr])
theorem idx_one (c:UInt8):∀ l:List UInt8,(idx [c] l=none∧∀ x∈l,x≠c)∨∃ n,idx [c] l=some n∧n < l.length∧l=l.take n++c::l.drop (n+1)∧∀ x∈l.take n,x≠c
 | []=>.inl ⟨rfl,dY⟩
 | a::r=>by
  by_cases h:a=c
  ·subst h;exact .inr ⟨0,by simp[idx,List.isPrefixOf],dY,dY,dY⟩
  have hp:List.isPrefixOf [c] (a::r)=false:=by simp[List.isPrefixOf];exact fun e=>h e.symm
  rcases idx_one c r with ⟨h1,h2⟩ | ⟨n,h1,h2,h3,h4⟩
  ·left;refine ⟨by simp[idx,hp,h1],?_⟩;intro x hx;rcases List.mem_cons.1 hx with rfl | hx
   ·exact h
   exact h2 x hx
  right;refine ⟨n+1,by simp[idx,hp,h1],by simp;omega,?_,?_⟩
  ·simp only[List.take_succ_cons,List.drop_succ_cons,List.cons_append];congr 1
  intro x hx;simp only[List.take_succ_cons,List.mem_cons] at hx;rcases hx with rfl | hx
  ·exact h
  exact h4 x hx
end Go.Proofs.YtcdgldnphhidlaaGreatDoor.Index
namespace Go.Proofs.YtcdgldnphhidlaaGreatDoor.Norm
open Go.RowKit Go.ZW.PrintWords Go.Proofs.YtcdgldnphhidlaaGreatDoor.Base Go.Proofs.YtcdgldnphhidlaaGreatDoor.Lower Go.Proofs.YtcdgldnphhidlaaGreatDoor.Index
theorem oQ (a b:ByteArray):bytesOf (a++b)=bytesOf a++bytesOf b:=by simp[bytesOf]
theorem aDs (a:ByteArray):strOfNums (bytesOf a)=a:=by
 apply L_inj;have e:L (strOfNums (bytesOf a))=(bytesOf a).map fun n=>UInt8.ofNat n.toNat:=strOfNums_data _;rw[e,bytesOf,List.map_map]
 conv=>rhs;rw[← List.map_id (L a)]
 refine List.map_congr_left fun b _=>?_
 simp
theorem aB1 (l:List UInt8) (h:∀ x∈l,x≠32):l.map jF=l:=by
 conv=>rhs;rw[← List.map_id l]
 refine List.map_congr_left fun b hb=>?_;unfold jF;rw[if_neg (h b hb)];rfl
theorem info5:(Tryz.prog.info? 5).map (fun i=>(i.zero,i.size,i.bytes))=some (some (.int .u8 0),1,1):=by kernel_rfl
def strLen:Value→Nat
 | .string r=>r.size
 | _=>0
theorem aA8 (s:ByteArray) (w:World) (hs:s.size≤140737488351232) :
 Calls Tryz.prog 120 #[.string s,.string ⟨#[32]⟩,.string ⟨#[45]⟩] w fun e w'=>e = .returned (.string (hyp s))∧Below w.heap.size w w':=by
 have hinf:=info5;have HINF:=cH hinf;clear hinf;go_enter Tryz.func120,Tryz.ntmps120;go_wp2_with fail
 go_loopw [0,7] (fun sv ov wr=>∃ (rest done:ByteArray),sv = .string rest∧Aside0 (wr.ownsRow w.heap.size 5 1 ov (bytesOf done).length (nums .u8 (bytesOf done)))∧Aside0 (L done++(L rest).map jF=(L s).map jF)∧done.size+rest.size≤140737488351232∧Aside0 (Below w.heap.size w wr))
  (fun sv _ _=>strLen sv)
 case atStart=>exact ⟨s,ByteArray.empty,rfl,⟨aD2 _ _ _ _⟩,⟨by simp[L]⟩,by simp;exact hs,⟨Below.refl _ _⟩⟩
 case round =>
  obtain ⟨rest,done,rfl,HO,HT,hsz,HB⟩:=hrel;have hl:=eK rest;have hld:(bytesOf done).length=done.size:=bytesOf_length done;have hb:=HB.out.size;rcases idx_one 32 (L rest) with ⟨h1,h2⟩ | ⟨n,h1,h2,h3,h4⟩
  ·have e:hyp s=done++rest:=by
    apply L_inj;rw[aD4,← HT.out,iP,aB1 _ h2]
   have HE:=cH e;have hz:=fun w=>zG rest ⟨#[32]⟩ (-1) w bA bH bH (by show zS (idx [32] (L rest)) = -1;rw[h1];rfl);have HLD:=cH hld;clear e h1 h2 hld hl;go_wp2_with fail
   (with_reducible refine (hz _).mono ?_)
   rintro e w' ⟨rfl,⟨nd,rfl⟩⟩
   go_wp2_with (at_builtin;refine pN (w0:=w) w.heap.size rfl _ _ 64 9 5 rfl Tryz.underlying64 Tryz.underlying9 HINF.out _ (bytesOf done) rest rfl rfl (vR HO.out _) ?hb ?hs ?hz ?_)
   case hb=>exact pT HB.out hb (eW.below ⟨⟨_,rfl⟩⟩)
   case hs=>simpa using hb
   case hz=>rw[HLD.out];omega
   intro v1 w1 ho1 hb1 hg1;have hstr:=aEx (P:=Tryz.prog) (src:=64) (dst:=9) Tryz.underlying64 Tryz.underlying5 Tryz.underlying9 ho1;have HO1:=cH ho1;have HB1:=cH hb1;clear ho1 hb1 hg1;obtain ⟨A1,c1,rfl⟩:=gL HO1.out;go_wp2_with fail
   go_ret;exact ⟨by rw[HE.out,← aDs (done++rest),oQ];rfl,HB1.out⟩
  have hn:n < rest.size:=by omega
  have hz:=fun w=>zG rest ⟨#[32]⟩ n w bA bH bH (by show zS (idx [32] (L rest))=n;rw[h1];rfl);have es1:(rest.extract 0 n).size=n:=by rw[← eK,eS];simp;omega
  have es2:(rest.extract (n+1) rest.size).size=rest.size - (n+1):=by rw[← eK,eS];simp;omega
  have eL:L ((done++rest.extract 0 n)++(⟨#[45]⟩:ByteArray))++(L (rest.extract (n+1) rest.size)).map jF=(L s).map jF:=by
   rw[← HT.out,iP,iP,eS,eS];simp only[List.drop_zero,Nat.sub_zero];rw[List.take_of_length_le (l:=(L rest).drop (n+1)) (by simp;omega)]
   conv=>rhs;rw[h3]
   rw[List.map_append,aB1 _ h4,List.map_cons];simp only[List.append_assoc];rfl
  have HE:=cH eL;have HS1:=cH es1;have HS2:=cH es2;have HLD:=cH hld;clear h1 h2 h3 h4 hld hl eL es1 es2;go_wp2_with fail
  (with_reducible refine (hz _).mono ?_)
  rintro e w' ⟨rfl,⟨nd,rfl⟩⟩
  go_wp2_with (at_builtin;refine pN (w0:=w) w.heap.size rfl _ _ 64 9 5 rfl Tryz.underlying64 Tryz.underlying9 HINF.out _ (bytesOf done) (rest.extract 0 n) rfl rfl (vR HO.out _) ?hb ?hs ?hz ?_)
  case hb=>exact pT HB.out hb (eW.below ⟨⟨_,rfl⟩⟩)
  case hs=>simpa using hb
  case hz=>rw[HLD.out,HS1.out];omega
  intro v1 w1 ho1 hb1 hg1;have hsz1:w.heap.size≤w1.heap.size:=hb1.size
  obtain ⟨xs1,hx1⟩:∃ xs1,bytesOf done++bytesOf (rest.extract 0 n)=xs1:=⟨_,rfl⟩
  try rw[← List.length_append] at ho1
  rw[hx1] at ho1;have HX1:=cH hx1;clear hx1;have HO1:=cH ho1;have HB1:=cH hb1;clear ho1 hb1 hg1
  go_wp2_with (at_builtin;refine pN (w0:=w) w.heap.size rfl _ _ 64 9 5 rfl Tryz.underlying64 Tryz.underlying9 HINF.out _ xs1 ⟨#[45]⟩ rfl rfl HO1.out HB1.out ?hs2 ?hz2 ?_)
  case hs2=>exact hsz1
  case hz2=>rw[← HX1.out,← oQ,bytesOf_length,size_append,HS1.out];show _+1≤_;omega
  intro v2 w2 ho2 hb2 hg2;have HO2:=cH ho2;have HB2:=cH hb2;clear ho2 hb2 hg2;obtain ⟨A2,c2,rfl⟩:=gL HO2.out;go_wp2_with fail
  go_roundw
  case rel =>
   refine ⟨rest.extract (n+1) rest.size,(done++rest.extract 0 n)++(⟨#[45]⟩:ByteArray),rfl,⟨?_⟩,HE,?_,HB2⟩
   ·rw[oQ,oQ,HX1.out];simpa using HO2.out
   rw[size_append,size_append,HS1.out,HS2.out];show _+1+_≤_;omega
  case measure=>simp[strLen];omega
theorem normalizeBasic_calls (s:ByteArray) (w:World) (hs:s.size≤140737488351232) (ha:∀ c∈L s,c.toNat≤127) :
 Calls Tryz.prog 68 #[.string s] w fun e w'=>e = .returned (.string (norm s))∧Below w.heap.size w w':=by
 have e:(⟨(Lib.toLowerA s.data.toList).toArray⟩:ByteArray)=low s:=by
  unfold low Lib.toLowerA;congr 2;refine List.map_congr_left fun c _=>?_;unfold Lib.lowerB Lib.isUpperB gZ
  simp[UInt8.le_iff_toNat_le]
 have h1:=fun w=>Tryz.strings_ToLower_ascii s w bA (fun j b hb=>by have:=ha b (List.mem_of_getElem? hb);omega);rw[e] at h1;have hn:norm s=hyp (low s):=rfl;have HN:=cH hn;have hsz:(low s).size≤140737488351232:=by rw[sC];exact hs
 clear hn e;go_enter Tryz.func68,Tryz.ntmps68;go_wp2_with fail
 (with_reducible refine (h1 _).mono ?_)
 rintro e w1 ⟨rfl,HB1⟩;have HB1:=cH HB1;go_wp2_with fail
 (with_reducible refine (aA8 (low s) _ hsz).mono ?_)
 rintro e w2 ⟨rfl,HB2⟩;have HB2:=cH HB2;go_wp2_with fail
 go_ret;exact ⟨by rw[HN.out];rfl,pT HB1.out HB1.out.size HB2.out⟩
end Go.Proofs.YtcdgldnphhidlaaGreatDoor.Norm
namespace Go.Proofs.YtcdgldnphhidlaaGreatDoor.Path
open Go.RowKit Go.ZW.PrintWords Go.Proofs.YtcdgldnphhidlaaGreatDoor.Base
section
variable {w:World} {B b:Nat} {p:eJ} {vk vu vl u:Value}
theorem info9:(Tryz.prog.info? 9).map (fun i=>(i.zero,i.size,i.bytes))=some (some (.string ⟨#[]⟩),1,16):=by kernel_rfl
def iV (p:eJ):List ByteArray:=p.known.map fun x=>sub p.s x.1 x.2
def kB (p:eJ):List ByteArray:=p.unknown.map fun x=>sub p.s x.1 x.2
theorem wL (H:eM w B b p vk vu vl u) (O:iG p):Calls Tryz.prog 110 #[.pointer (some ⟨b,0,none⟩)] w fun e w'=>∃ v,e = .returned v∧eT w' w.heap.size v (iV p)∧Below w.heap.size w w':=by
 have h0:=H.row.at 0 _ rfl;have h6:=H.row.at 6 _ rfl;have o1:=O.sz;have okl:=O.kl;obtain ⟨A,cp,hv⟩:=gL H.ok;rw[hv] at h6;have hb:=H.lt
 obtain ⟨n,hn⟩:∃ n,p.known.length=n:=⟨_,rfl⟩
 have hlen:(iV p).length=n:=by unfold iV;rw[List.length_map];exact hn
 rw[hn] at h6 okl;have hmk:=run_make_row' (P:=Tryz.prog) 22 9 (.string ⟨#[]⟩) 16 Tryz.underlying22 info9 rfl .i64 .i64 n bA bA;have HH:=cH H;have HK:=cH O.kn;have HV:=cH hv;have HL:=cH hlen;have HN:=cH hn;clear H O hv hlen hn;go_enter Tryz.func110,Tryz.ntmps110;go_wp2_with fail
 go_loopg [17] n (fun g i wr=>∃ k:Nat,k≤n∧g=n - k∧i = .int .i64 k∧Aside0 (Row wr w.heap.size (fill (iV p) k))∧Aside0 (Below w.heap.size w wr)∧w.heap.size < wr.heap.size)
 case atStart =>
  refine ⟨0,Nat.zero_le _,rfl,rfl,⟨?_⟩,⟨(Below.refl _ _).alloc (Nat.le_refl _) _⟩,dY⟩;rw[vE,HL.out];exact Row.made w n _ _
 case round =>
  obtain ⟨k,hk,hg,rfl,HR,HB,hsz⟩:=hrel
  by_cases hlt:k < n
  ·have hP:=HH.out.below HB.out;have h0:=hP.row.at 0 _ rfl;have hbr:=hP.lt
   obtain ⟨x,hx⟩:∃ x,p.known[k]? = some x:=⟨_,List.getElem?_eq_getElem (by rw[HN.out];exact hlt)⟩
   obtain ⟨g,c2,hv2,k1,k2⟩:=hP.knownAt k x hx;obtain ⟨q1,q2,q3⟩:=HK.out x (List.mem_of_getElem? hx);rw[HV.out] at hv2;injection hv2 with hA _ hcc
   subst hA hcc;obtain ⟨lo,hlo⟩:=Int.eq_ofNat_of_zero_le (show 0≤x.1 by omega);obtain ⟨hi,hhi⟩:=Int.eq_ofNat_of_zero_le (show 0≤x.2 by omega);rw[hlo] at k1 q1 q2;rw[hhi] at k2 q2 q3;have hgl:g < wr.heap.size:=World.block_lt_of_cell? wr ⟨g,k * 2,none⟩ k1;have hfl:k < (fill (iV p) k).length:=by rw[qP _ _ (by rw[HL.out];omega),HL.out];exact hlt
   have hfr:=HR.out.free k hfl;have hcell:wr.cell? ⟨w.heap.size,k,none⟩=some ((fill (iV p) k)[k]):=(HR.out k hfl).1
   have hel:(iV p)[k]'(by rw[HL.out];exact hlt)=p.s.extract lo hi:=by
    unfold iV;rw[List.getElem_map]
    have:p.known[k]'(by rw[HN.out];exact hlt)=x:=by
     have:=List.getElem?_eq_getElem (l:=p.known) (i:=k) (by rw[HN.out];exact hlt);rw[hx] at this;exact (Option.some.inj this).symm
    rw[this,hlo,hhi];rfl
   have HE:=cH hel
   obtain ⟨old,hold⟩:∃ old,(fill (iV p) k)[k]=old:=⟨_,rfl⟩
   rw[hold] at hcell;clear hel hold hx hlo hhi hP;go_upto_region 5 with fail
   have hal:Below wr.heap.size wr (wr.alloc (.cells #[.int .i64 lo,.int .i64 hi] 92)):=(Below.refl _ _).alloc (Nat.le_refl _) _
   obtain ⟨W,hW⟩:∃ W,wr.alloc (.cells #[.int .i64 lo,.int .i64 hi] 92)=W:=⟨_,rfl⟩
   rw[hW];rw[hW] at hal;have c0:W.cell? ⟨wr.heap.size,0,none⟩=some (.int .i64 lo):=by subst hW;exact (Row.new wr [.int .i64 lo,.int .i64 hi] _).at 0 _ rfl
   have c1:W.cell? ⟨wr.heap.size,1,none⟩=some (.int .i64 hi):=by subst hW;exact (Row.new wr [.int .i64 lo,.int .i64 hi] _).at 1 _ rfl
   have hsW:wr.heap.size < W.heap.size:=by subst hW;simp
   clear hW;have hB2:Below w.heap.size w W.drew:=((HB.out.trans (hal.mono (Nat.le_of_lt hsz)))).drew;have hR2:Row W.drew w.heap.size (fill (iV p) k):=HR.out.step (by exact hal.block _ hsz);have e0:W.drew.cell? ⟨b,0,none⟩=some (.string p.s):=(hal.cell (p:=⟨b,0,none⟩) hbr).trans h0;have er:W.drew.cell? ⟨w.heap.size,k,none⟩=some old:=(hal.cell (p:=⟨w.heap.size,k,none⟩) hsz).trans hcell;have ef:W.drew.frozen? ⟨w.heap.size,k,none⟩=false:=(hal.frozen (p:=⟨w.heap.size,k,none⟩) hsz).trans hfr;have d0:W.drew.cell? ⟨wr.heap.size,0,none⟩=some (.int .i64 lo):=c0;have d1:W.drew.cell? ⟨wr.heap.size,1,none⟩=some (.int .i64 hi):=c1;have hs2:w.heap.size < W.drew.heap.size:=Nat.lt_trans hsz hsW;refine wp_region_still_tail 12 bB bB ?_
   change wpStill _ _ W.drew (fun a'=>wpList _ _ _ _ a' W.drew) _ _
   obtain ⟨V,hV⟩:∃ V,W.drew=V:=⟨_,rfl⟩
   rw[hV] at hB2 hR2 e0 er ef d0 d1 hs2;rw[hV];clear hV c0 c1 hal hsW k1 k2 h0 hcell hfr hbr;have HB3:=cH hB2;have HR3:=cH hR2;have HF3:=cH hfl;clear hB2 hR2 hfl HH HK HV HN HR HB;simp only[List.take_succ_cons,List.take_zero,List.drop_succ_cons,List.drop_zero]
   repeat still_step
   refine wpStill_nil ?_;go_wp2_with fail
   go_roundg (n - (k+1))
   case rel =>
    refine ⟨k+1,aQ,rfl,aZ,⟨?_⟩,⟨?_⟩,?_⟩
    ·have:=HR3.out.set k (.string (p.s.extract lo hi)) HF3.out;rw[← HE.out,xN] at this;rw[HE.out] at this;exact this
    ·exact HB3.out.setCell (Nat.le_refl _) _
    simpa using hs2
   case measure=>omega
  have:k=n:=by omega
  subst this;have hR2:=HR.out;rw[← HL.out,xM] at hR2;go_wp2_with fail
  go_ret;refine ⟨_,rfl,?_,HB.out⟩;rw[← HL.out];exact eT.of_row hR2 _ (Nat.le_refl _)
theorem rV (H:eM w B b p vk vu vl u) (O:iG p):Calls Tryz.prog 111 #[.pointer (some ⟨b,0,none⟩)] w fun e w'=>∃ v,e = .returned v∧eT w' w.heap.size v (kB p)∧Below w.heap.size w w':=by
 have h0:=H.row.at 0 _ rfl;have h6:=H.row.at 7 _ rfl;have o1:=O.sz;have okl:=O.ul;obtain ⟨A,cp,hv⟩:=gL H.ou;rw[hv] at h6;have hb:=H.lt
 obtain ⟨n,hn⟩:∃ n,p.unknown.length=n:=⟨_,rfl⟩
 have hlen:(kB p).length=n:=by unfold kB;rw[List.length_map];exact hn
 rw[hn] at h6 okl;have hmk:=run_make_row' (P:=Tryz.prog) 22 9 (.string ⟨#[]⟩) 16 Tryz.underlying22 info9 rfl .i64 .i64 n bA bA;have HH:=cH H;have HK:=cH O.un;have HV:=cH hv;have HL:=cH hlen;have HN:=cH hn;clear H O hv hlen hn;go_enter Tryz.func111,Tryz.ntmps111;go_wp2_with fail
 go_loopg [17] n (fun g i wr=>∃ k:Nat,k≤n∧g=n - k∧i = .int .i64 k∧Aside0 (Row wr w.heap.size (fill (kB p) k))∧Aside0 (Below w.heap.size w wr)∧w.heap.size < wr.heap.size)
 case atStart =>
  refine ⟨0,Nat.zero_le _,rfl,rfl,⟨?_⟩,⟨(Below.refl _ _).alloc (Nat.le_refl _) _⟩,dY⟩;rw[vE,HL.out];exact Row.made w n _ _
 case round =>
  obtain ⟨k,hk,hg,rfl,HR,HB,hsz⟩:=hrel
  by_cases hlt:k < n
  ·have hP:=HH.out.below HB.out;have h0:=hP.row.at 0 _ rfl;have hbr:=hP.lt
   obtain ⟨x,hx⟩:∃ x,p.unknown[k]? = some x:=⟨_,List.getElem?_eq_getElem (by rw[HN.out];exact hlt)⟩
   obtain ⟨g,c2,hv2,k1,k2⟩:=hP.unknownAt k x hx;obtain ⟨q1,q2,q3⟩:=HK.out x (List.mem_of_getElem? hx);rw[HV.out] at hv2;injection hv2 with hA _ hcc
   subst hA hcc;obtain ⟨lo,hlo⟩:=Int.eq_ofNat_of_zero_le (show 0≤x.1 by omega);obtain ⟨hi,hhi⟩:=Int.eq_ofNat_of_zero_le (show 0≤x.2 by omega);rw[hlo] at k1 q1 q2;rw[hhi] at k2 q2 q3;have hgl:g < wr.heap.size:=World.block_lt_of_cell? wr ⟨g,k * 2,none⟩ k1;have hfl:k < (fill (kB p) k).length:=by rw[qP _ _ (by rw[HL.out];omega),HL.out];exact hlt
   have hfr:=HR.out.free k hfl;have hcell:wr.cell? ⟨w.heap.size,k,none⟩=some ((fill (kB p) k)[k]):=(HR.out k hfl).1
   have hel:(kB p)[k]'(by rw[HL.out];exact hlt)=p.s.extract lo hi:=by
    unfold kB;rw[List.getElem_map]
    have:p.unknown[k]'(by rw[HN.out];exact hlt)=x:=by
     have:=List.getElem?_eq_getElem (l:=p.unknown) (i:=k) (by rw[HN.out];exact hlt);rw[hx] at this;exact (Option.some.inj this).symm
    rw[this,hlo,hhi];rfl
   have HE:=cH hel
   obtain ⟨old,hold⟩:∃ old,(fill (kB p) k)[k]=old:=⟨_,rfl⟩
   rw[hold] at hcell;clear hel hold hx hlo hhi hP;go_upto_region 5 with fail
   have hal:Below wr.heap.size wr (wr.alloc (.cells #[.int .i64 lo,.int .i64 hi] 92)):=(Below.refl _ _).alloc (Nat.le_refl _) _
   obtain ⟨W,hW⟩:∃ W,wr.alloc (.cells #[.int .i64 lo,.int .i64 hi] 92)=W:=⟨_,rfl⟩
   rw[hW];rw[hW] at hal;have c0:W.cell? ⟨wr.heap.size,0,none⟩=some (.int .i64 lo):=by subst hW;exact (Row.new wr [.int .i64 lo,.int .i64 hi] _).at 0 _ rfl
   have c1:W.cell? ⟨wr.heap.size,1,none⟩=some (.int .i64 hi):=by subst hW;exact (Row.new wr [.int .i64 lo,.int .i64 hi] _).at 1 _ rfl
   have hsW:wr.heap.size < W.heap.size:=by subst hW;simp
   clear hW;have hB2:Below w.heap.size w W.drew:=((HB.out.trans (hal.mono (Nat.le_of_lt hsz)))).drew;have hR2:Row W.drew w.heap.size (fill (kB p) k):=HR.out.step (by exact hal.block _ hsz);have e0:W.drew.cell? ⟨b,0,none⟩=some (.string p.s):=(hal.cell (p:=⟨b,0,none⟩) hbr).trans h0;have er:W.drew.cell? ⟨w.heap.size,k,none⟩=some old:=(hal.cell (p:=⟨w.heap.size,k,none⟩) hsz).trans hcell;have ef:W.drew.frozen? ⟨w.heap.size,k,none⟩=false:=(hal.frozen (p:=⟨w.heap.size,k,none⟩) hsz).trans hfr;have d0:W.drew.cell? ⟨wr.heap.size,0,none⟩=some (.int .i64 lo):=c0;have d1:W.drew.cell? ⟨wr.heap.size,1,none⟩=some (.int .i64 hi):=c1;have hs2:w.heap.size < W.drew.heap.size:=Nat.lt_trans hsz hsW;refine wp_region_still_tail 12 bB bB ?_
   change wpStill _ _ W.drew (fun a'=>wpList _ _ _ _ a' W.drew) _ _
   obtain ⟨V,hV⟩:∃ V,W.drew=V:=⟨_,rfl⟩
   rw[hV] at hB2 hR2 e0 er ef d0 d1 hs2;rw[hV];clear hV c0 c1 hal hsW k1 k2 h0 hcell hfr hbr;have HB3:=cH hB2;have HR3:=cH hR2;have HF3:=cH hfl;clear hB2 hR2 hfl HH HK HV HN HR HB;simp only[List.take_succ_cons,List.take_zero,List.drop_succ_cons,List.drop_zero]
   repeat still_step
   refine wpStill_nil ?_;go_wp2_with fail
   go_roundg (n - (k+1))
   case rel =>
    refine ⟨k+1,aQ,rfl,aZ,⟨?_⟩,⟨?_⟩,?_⟩
    ·have:=HR3.out.set k (.string (p.s.extract lo hi)) HF3.out;rw[← HE.out,xN] at this;rw[HE.out] at this;exact this
    ·exact HB3.out.setCell (Nat.le_refl _) _
    simpa using hs2
   case measure=>omega
  have:k=n:=by omega
  subst this;have hR2:=HR.out;rw[← HL.out,xM] at hR2;go_wp2_with fail
  go_ret;refine ⟨_,rfl,?_,HB.out⟩;rw[← HL.out];exact eT.of_row hR2 _ (Nat.le_refl _)
end
section
variable {w:World} {B b:Nat} {p:eJ} {vk vu vl u:Value}
def iT (p:eJ):List ByteArray:=p.plangs.map fun i=>fH p i
theorem yC (H:eM w B b p vk vu vl u) (O:iG p):Calls Tryz.prog 146 #[.pointer (some ⟨b,0,none⟩),vl] w fun e w'=>∃ v,e = .returned v∧eT w' w.heap.size v (iT p)∧Below w.heap.size w w':=by
 have okl:=O.ll;obtain ⟨A,cp,hv⟩:=gL H.ol;rw[hv]
 obtain ⟨n,hn⟩:∃ n,p.plangs.length=n:=⟨_,rfl⟩
 have hlen:(iT p).length=n:=by unfold iT;rw[List.length_map];exact hn
 rw[hn] at okl ⊢;have HH:=cH H;have HO:=cH O;have HV:=cH hv;have HL:=cH hlen;have HN:=cH hn
 by_cases hz:n=0
 ·subst hz;have hnil:iT p=[]:=List.eq_nil_of_length_eq_zero hlen;rw[hnil];clear H O hv hlen hn hnil;go_enter Tryz.func146,Tryz.ntmps146;go_wp2_with fail
  go_ret;exact ⟨_,rfl,eT.nil _ _ _ _,Below.refl _ _⟩
 have hz1:((n:Int)==0)=false:=beq_eq_false_iff_ne.2 bA;have hz2:(n==0)=false:=beq_eq_false_iff_ne.2 hz;have hmk:=run_make_row' (P:=Tryz.prog) 22 9 (.string ⟨#[]⟩) 16 Tryz.underlying22 info9 rfl .i64 .i64 n bA bA;clear H O hv hlen hn;go_enter Tryz.func146,Tryz.ntmps146;go_wp2_with fail
 go_loopg [16] n (fun g i wr=>∃ k:Nat,k≤n∧g=n - k∧i = .int .i64 k∧Aside0 (Row wr w.heap.size (fill (iT p) k))∧Aside0 (Below w.heap.size w wr)∧w.heap.size < wr.heap.size)
 case atStart =>
  refine ⟨0,Nat.zero_le _,rfl,rfl,⟨?_⟩,⟨(Below.refl _ _).alloc (Nat.le_refl _) _⟩,dY⟩;rw[vE,HL.out];exact Row.made w n _ _
 case round =>
  obtain ⟨k,hk,hg,rfl,HR,HB,hsz⟩:=hrel
  by_cases hlt:k < n
  ·have hP:=HH.out.below HB.out
   obtain ⟨x,hx⟩:∃ x,p.plangs[k]? = some x:=⟨_,List.getElem?_eq_getElem (by rw[HN.out];exact hlt)⟩
   obtain ⟨g,c2,hv2,k1⟩:=hP.langAt k x hx;rw[HV.out] at hv2;injection hv2 with hA _ hcc
   subst hA hcc;have hfl:k < (fill (iT p) k).length:=by rw[qP _ _ (by rw[HL.out];omega),HL.out];exact hlt
   have hfr:=HR.out.free k hfl;have hcell:wr.cell? ⟨w.heap.size,k,none⟩=some ((fill (iT p) k)[k]):=(HR.out k hfl).1
   have hel:(iT p)[k]'(by rw[HL.out];exact hlt)=fH p x:=by
    unfold iT;rw[List.getElem_map]
    have:p.plangs[k]'(by rw[HN.out];exact hlt)=x:=by
     have:=List.getElem?_eq_getElem (l:=p.plangs) (i:=k) (by rw[HN.out];exact hlt);rw[hx] at this;exact (Option.some.inj this).symm
    rw[this]
   have HE:=cH hel;have c:=gS hP HO.out.toPathIn x
   obtain ⟨old,hold⟩:∃ old,(fill (iT p) k)[k]=old:=⟨_,rfl⟩
   rw[hold] at hcell;have HF:=cH hfl;clear hel hold hx hP hfl;go_wp2_with fail
   (with_reducible refine c.mono ?_)
   rintro e w' ⟨rfl,hb⟩;have er:w'.cell? ⟨w.heap.size,k,none⟩=some old:=(hb.cell (p:=⟨w.heap.size,k,none⟩) hsz).trans hcell;have ef:w'.frozen? ⟨w.heap.size,k,none⟩=false:=(hb.frozen (p:=⟨w.heap.size,k,none⟩) hsz).trans hfr;have hR2:=cH (HR.out.step (hb.block _ hsz));have hB2:=cH (HB.out.trans (hb.mono (Nat.le_of_lt hsz)));have hs2:=Nat.lt_of_lt_of_le hsz hb.size;clear hb hfr hcell HR HB hsz;go_wp2_with fail
   go_roundg (n - (k+1))
   case rel =>
    refine ⟨k+1,aQ,rfl,aZ,⟨?_⟩,⟨?_⟩,?_⟩
    ·have:=hR2.out.set k (.string (fH p x)) HF.out;rw[← HE.out,xN] at this;rw[HE.out] at this;exact this
    ·exact hB2.out.setCell (Nat.le_refl _) _
    simpa using hs2
   case measure=>omega
  have:k=n:=by omega
  subst this;have hR2:=HR.out;rw[← HL.out,xM] at hR2;go_wp2_with fail
  go_ret;refine ⟨_,rfl,?_,HB.out⟩;rw[← HL.out];exact eT.of_row hR2 _ (Nat.le_refl _)
theorem aCu (H:eM w B b p vk vu vl u) (O:iG p):Calls Tryz.prog 109 #[.pointer (some ⟨b,0,none⟩)] w fun e w'=>∃ v,e = .returned v∧eT w' w.heap.size v (iT p)∧Below w.heap.size w w':=by
 have h14:=H.row.at 14 _ rfl;have c:=yC H O;obtain ⟨A,cp,hv⟩:=gL H.ol;rw[hv] at h14 c;clear H O hv;go_enter Tryz.func109,Tryz.ntmps109;go_wp2_with fail
 (with_reducible refine c.mono ?_)
 rintro e w' ⟨v,rfl,hs,hb⟩;have HS:=cH hs;have HB:=cH hb;clear hs hb;obtain ⟨A2,c2,rfl,_⟩:=HS.out;go_wp2_with fail
 go_ret;exact ⟨_,rfl,HS.out,HB.out⟩
def nJ (p:eJ):ByteArray:=match p.known with | []=>frm p.s p.cHigh | x::_=>sub p.s p.cHigh (x.1 - 1)
theorem xZ (H:eM w B b p vk vu vl u) (O:iG p):Calls Tryz.prog 95 #[.pointer (some ⟨b,0,none⟩)] w fun e w'=>e = .returned (.string (nJ p))∧eW w w':=by
 have h0:=H.row.at 0 _ rfl;have h2:=H.row.at 2 _ rfl;have c:=mK H 0;have o1:=O.sz;obtain ⟨o2,o3⟩:=O.ch;obtain ⟨y,hy⟩:=Int.eq_ofNat_of_zero_le (show 0≤p.cHigh by omega);rw[hy] at h2 o2 o3;unfold nJ;rw[hy]
 cases hk:p.known with
 | nil =>
  have e1:mY p 0 = -1:=by unfold mY;rw[hk];rfl
  rw[e1] at c;clear hk e1 H O hy;show Calls _ _ _ _ fun e w'=>e = .returned (.string (p.s.extract y p.s.size))∧eW w w';go_enter Tryz.func95,Tryz.ntmps95;go_wp2_with fail
  (with_reducible refine c.mono ?_)
  rintro e w' ⟨rfl,rfl⟩;go_wp2_with fail
  go_quiet (fail)
  go_wp2_with fail
  go_ret;exact ⟨rfl,⟨_,rfl⟩⟩
 | cons x r =>
  have h6:=H.row.at 6 _ rfl;have hx:p.known[0]? = some x:=by rw[hk];rfl
  obtain ⟨q1,q2,q3⟩:=O.kn x (List.mem_of_getElem? hx);have q4:=O.k0 x hx;obtain ⟨g,cp,hv,k1,_⟩:=H.knownAt 0 x hx;rw[hv] at h6;have e1:mY p 0=0:=by unfold mY;rw[hk];simp
  rw[e1] at c;obtain ⟨lo,hlo⟩:=Int.eq_ofNat_of_zero_le (show 0≤x.1 by omega);rw[hlo] at k1 q1 q2 q4;rw[hy] at q4;have k1' : w.cell? ⟨g,0,none⟩=some (.int .i64 lo):=k1;show Calls _ _ _ _ fun e w'=>e = .returned (.string (sub p.s y (x.1 - 1)))∧eW w w';rw[hlo,show ((lo:Int) - 1)=((lo - 1:Nat):Int) from by omega,jD];have hlen:(0:Int) < p.known.length:=by rw[hk];simp only[List.length_cons];omega
  have hyc:IntKind.i64.wrap ((lo:Int) - 1)=((lo - 1:Nat):Int):=by rw[IntWalk.i64_in _ bA];omega
  have q5:((y:Nat):Int)≤((lo - 1:Nat):Int):=by omega
  have q6:((lo - 1:Nat):Int)≤(p.s.size:Int):=by omega
  have q7:((0:Int) == -1)=false:=rfl;clear hk e1 H O hy hx hlo hv k1 q4 q3;go_enter Tryz.func95,Tryz.ntmps95;go_wp2_with fail
  (with_reducible refine c.mono ?_)
  rintro e w' ⟨rfl,rfl⟩;go_wp2_with fail
  go_quiet (fail)
  go_wp2_with fail
  go_ret;exact ⟨rfl,⟨_,rfl⟩⟩
def rR (p:eJ):ByteArray:=match p.known with | []=>nrm p.trim p.s | x::_=>nrm p.trim (sub p.s 0 (x.1 - 1))
theorem xI (H:eM w B b p vk vu vl u) (O:iG p) (hf:-1≤p.fmt) (hl:-1≤p.lang):Calls Tryz.prog 101 #[.pointer (some ⟨b,0,none⟩)] w fun e w'=>e = .returned (.string (rR p))∧Below w.heap.size w w':=by
 have h0:=H.row.at 0 _ rfl;have h6:=H.row.at 6 _ rfl;have h8:=H.row.at 8 _ rfl;have h9:=H.row.at 9 _ rfl;have o1:=O.sz;have HH:=cH H;unfold rR
 cases hk:p.known with
 | nil =>
  obtain ⟨A,c0,hv⟩:=gL H.ok;rw[hv,hk] at h6;have h6' : w.cell? ⟨b,6,none⟩=some (.slice A 0 c0):=h6;clear hk h6 hv H O;go_enter Tryz.func101,Tryz.ntmps101;go_wp2_with fail
  (with_reducible refine (jJ HH.out _).mono ?_)
  rintro e w' ⟨rfl,rfl⟩;go_wp2_with fail
  go_ret;exact ⟨rfl,Below.refl _ _⟩
 | cons x r =>
  have c:=mK H 0;have hx:p.known[0]? = some x:=by rw[hk];rfl
  obtain ⟨q1,q2,q3⟩:=O.kn x (List.mem_of_getElem? hx);obtain ⟨g,cp,hv,k1,k2⟩:=H.knownAt 0 x hx;rw[hv] at h6;have hb:=H.lt;have e1:mY p 0=0:=by unfold mY;rw[hk];simp
  rw[e1] at c;obtain ⟨lo,hlo⟩:=Int.eq_ofNat_of_zero_le (show 0≤x.1 by omega);obtain ⟨hi,hhi⟩:=Int.eq_ofNat_of_zero_le (show 0≤x.2 by omega);rw[hlo] at k1 q1 q2;rw[hhi] at k2 q2 q3;have k1' : w.cell? ⟨g,0,none⟩=some (.int .i64 lo):=k1;have k2' : w.cell? ⟨g,0+1,none⟩=some (.int .i64 hi):=k2;have k2'' : w.cell? ⟨g,1,none⟩=some (.int .i64 hi):=k2;have hg:g < w.heap.size:=World.block_lt_of_cell? w ⟨g,0,none⟩ k1';show Calls _ _ _ _ fun e w'=>e = .returned (.string (nrm p.trim (sub p.s 0 (x.1 - 1))))∧Below w.heap.size w w';rw[hlo,show ((lo:Int) - 1)=((lo - 1:Nat):Int) from by omega,show (0:Int)=((0:Nat):Int) from rfl,jD]
  obtain ⟨n,hn⟩:∃ n,p.known.length=n:=⟨_,rfl⟩
  have hlen:0 < n:=by rw[← hn,hk];simp
  rw[hn] at h6;have hlen2:((n:Int)==0)=false:=beq_eq_false_iff_ne.2 bA;have hlen3:(n==0)=false:=beq_eq_false_iff_ne.2 bA;have hlen4:(0:Int) < n:=by omega
  have hyc:IntKind.i64.wrap ((lo:Int) - 1)=((lo - 1:Nat):Int):=by rw[IntWalk.i64_in _ bA];omega
  have q6:((lo - 1:Nat):Int)≤(p.s.size:Int):=by omega
  have q7:((0:Int) == -1)=false:=rfl
  obtain ⟨fm,hfm⟩:∃ fm,p.fmt=fm:=⟨_,rfl⟩
  obtain ⟨la,hla⟩:∃ la,p.lang=la:=⟨_,rfl⟩
  rw[hfm] at h9 hf;rw[hla] at h8 hl
  have g1:(fm != -1 && decide (fm < 0))=false:=by
   by_cases t:fm = -1
   ·subst t;rfl
   rw[decide_eq_false bA,Bool.and_false]
  have g2:(la != -1 && decide (la < 0))=false:=by
   by_cases t:la = -1
   ·subst t;rfl
   rw[decide_eq_false bA,Bool.and_false]
  clear hk e1 H O hx hlo hhi hv k1 k2 hn hfm hla;go_enter Tryz.func101,Tryz.ntmps101;go_wp2_with fail
  (with_reducible refine c.mono ?_)
  rintro e w' ⟨rfl,rfl⟩;go_wp2_with fail
  all_goals
   go_quiet ((go_at_call 141;exact Calls.quiet_of_same (jJ ((HH.out.alloc _).drewN _) _)))
   go_wp2_with fail
   go_ret;exact ⟨rfl,eB ((Below.refl _ _).alloc (Nat.le_refl _) _) (eW.below ⟨⟨_,rfl⟩⟩)⟩
end
open Go.RowKit Go.Proofs.YtcdgldnphhidlaaGreatDoor.Base
structure ToldV where
 component:ByteArray
 container:ByteArray
 containerDir:ByteArray
 section_:ByteArray
 name:ByteArray
 nameNoExt:ByteArray
 baseName:ByteArray
 nameNoId:ByteArray
 dir:ByteArray
 path:ByteArray
 pathNoLang:ByteArray
 pathNoId:ByteArray
 pathBefore:ByteArray
 base:ByteArray
 idBase:ByteArray
 ext:ByteArray
 fmt:ByteArray
 kind:ByteArray
 layout:ByteArray
 lang:ByteArray
 custom:ByteArray
 langs:List ByteArray
 ids:List ByteArray
 unk:List ByteArray
 disabled:Bool
 isContent:Bool
 isBundle:Bool
 isBranch:Bool
 isLeaf:Bool
 isData:Bool
 typ:Int
def aGw (t:ToldV) (v1 v2 v3:Value):List Value :=
 [.string t.component,.string t.container,.string t.containerDir,.string t.section_,.string t.name,.string t.nameNoExt,.string t.baseName,.string t.nameNoId,.string t.dir,.string t.path,.string t.pathNoLang,.string t.pathNoId,.string t.pathBefore,.string t.base,.string t.idBase,.string t.ext,.string t.fmt,.string t.kind,.string t.layout,.string t.lang,.string t.custom,v1,v2,v3,.bool t.disabled,.bool t.isContent,.bool t.isBundle,.bool t.isBranch,.bool t.isLeaf,.bool t.isData,.int .i64 t.typ]
def iB (t:ToldV) (v1 v2 v3:Value):Value:=.agg #[.string t.component,.string t.container,.string t.containerDir,.string t.section_,.string t.name,.string t.nameNoExt,.string t.baseName,.string t.nameNoId,.string t.dir,.string t.path,.string t.pathNoLang,.string t.pathNoId,.string t.pathBefore,.string t.base,.string t.idBase,.string t.ext,.string t.fmt,.string t.kind,.string t.layout,.string t.lang,.string t.custom,v1,v2,v3,.bool t.disabled,.bool t.isContent,.bool t.isBundle,.bool t.isBranch,.bool t.isLeaf,.bool t.isData,.int .i64 t.typ]
def fY:List Value:=[.string ⟨#[]⟩,.string ⟨#[]⟩,.string ⟨#[]⟩,.string ⟨#[]⟩,.string ⟨#[]⟩,.string ⟨#[]⟩,.string ⟨#[]⟩,.string ⟨#[]⟩,.string ⟨#[]⟩,.string ⟨#[]⟩,.string ⟨#[]⟩,.string ⟨#[]⟩,.string ⟨#[]⟩,.string ⟨#[]⟩,.string ⟨#[]⟩,.string ⟨#[]⟩,.string ⟨#[]⟩,.string ⟨#[]⟩,.string ⟨#[]⟩,.string ⟨#[]⟩,.string ⟨#[]⟩,.slice none 0 0,.slice none 0 0,.slice none 0 0,.bool false,.bool false,.bool false,.bool false,.bool false,.bool false,.int .i64 0]
section
variable {w:World} {B b:Nat} {p:eJ} {vk vu vl u:Value}
def nI (p:eJ):ByteArray:=if 3≤p.typ∧p.typ≤5 then mA p else jA p
def xQ (p:eJ):ByteArray:=if p.pfmt = -1 then fH p p.fmt else fH p p.pfmt
def yP (p:eJ):ByteArray:=if p.pkind = -1 then fH p p.kind else fH p p.pkind
def qG (p:eJ):ByteArray:=if p.play = -1 then fH p p.lay else fH p p.play
def qA (p:eJ):Bool:=decide (1≤p.typ∧p.typ≤5)
def qY (p:eJ):Bool:=decide (3≤p.typ∧p.typ≤5)
def kE (p:eJ):Bool:=p.typ==4
def lX (p:eJ):Bool:=p.typ==3
def zU (p:eJ):Bool:=p.typ==5
theorem rF (H:eM w B b p vk vu vl u) (O:iG p):Calls Tryz.prog 96 #[.pointer (some ⟨b,0,none⟩)] w fun e w'=>e = .returned (.string (nI p))∧Below w.heap.size w w':=rA H O
theorem wN (H:eM w B b p vk vu vl u) (O:iG p):Calls Tryz.prog 104 #[.pointer (some ⟨b,0,none⟩)] w fun e w'=>e = .returned (.string (xQ p))∧Below w.heap.size w w':=uW H O
theorem aE6 (H:eM w B b p vk vu vl u) (O:iG p):Calls Tryz.prog 105 #[.pointer (some ⟨b,0,none⟩)] w fun e w'=>e = .returned (.string (yP p))∧Below w.heap.size w w':=aD3 H O
theorem aCv (H:eM w B b p vk vu vl u) (O:iG p):Calls Tryz.prog 106 #[.pointer (some ⟨b,0,none⟩)] w fun e w'=>e = .returned (.string (qG p))∧Below w.heap.size w w':=aBf H O
theorem zJ (H:eM w B b p vk vu vl u):Calls Tryz.prog 113 #[.pointer (some ⟨b,0,none⟩)] w fun e w'=>e = .returned (.bool (qA p))∧w'=w:=xY H
theorem aAw (H:eM w B b p vk vu vl u):Calls Tryz.prog 114 #[.pointer (some ⟨b,0,none⟩)] w fun e w'=>e = .returned (.bool (qY p))∧w'=w:=oO H
theorem uS (H:eM w B b p vk vu vl u):Calls Tryz.prog 115 #[.pointer (some ⟨b,0,none⟩)] w fun e w'=>e = .returned (.bool (kE p))∧w'=w:=tN H
theorem wM (H:eM w B b p vk vu vl u):Calls Tryz.prog 116 #[.pointer (some ⟨b,0,none⟩)] w fun e w'=>e = .returned (.bool (lX p))∧w'=w:=nF H
theorem uV (H:eM w B b p vk vu vl u):Calls Tryz.prog 117 #[.pointer (some ⟨b,0,none⟩)] w fun e w'=>e = .returned (.bool (zU p))∧w'=w:=uT H
def gQ (p:eJ):ToldV where
 component:=p.comp
 container:=mA p
 containerDir:=lO p
 section_:=kS p
 name:=wJ p
 nameNoExt:=nJ p
 baseName:=nI p
 nameNoId:=jA p
 dir:=pK p
 path:=nrm p.trim p.s
 pathNoLang:=rT p
 pathNoId:=jH p false false
 pathBefore:=rR p
 base:=nH p
 idBase:=rS p
 ext:=fH p 0
 fmt:=xQ p
 kind:=yP p
 layout:=qG p
 lang:=pE p
 custom:=oG p
 langs:=iT p
 ids:=iV p
 unk:=kB p
 disabled:=p.dis
 isContent:=qA p
 isBundle:=qY p
 isBranch:=kE p
 isLeaf:=lX p
 isData:=zU p
 typ:=p.typ
theorem sI {P:Program} {fn:Func} {tmps:Array Value} {a:Nat} {t:TypeId} {v:Value} {w:World} {x:Addr} (hf:fn.results = #[.cell a t]) (ha:tmps.getD a undef = .pointer (some x)) (hl:(loadVar t x).run P w = .ok v w) :
 (results fn tmps).run P w = .ok v w:=by
 unfold results;rw[hf];have ha' : tmps[a]?.getD undef = .pointer (some x):=by simpa using ha
 simp[ha',hl,asAddr]
theorem Row.there {w:World} {b:Nat} {cs:List Value} (H:Row w b cs):w.there b 0 cs.length:=fun j hj=>by
 rw[Nat.zero_add];exact ⟨by rw[(H j hj).1];rfl,(H j hj).2⟩
theorem aDu {P:Program} {o:Oper} {a:Act} {w:World} {K:Act→World→Prop} {Q:Exit→Act→World→Prop} (t:TypeId) (parts:Array (Nat×Operand)) (cells:Array Value) (ho:o.op = .build t parts)
 (hc:P.built t (parts.map fun (i,x)=>(i,a.eval x)).toList=some cells) (h:K (a.put o.dst (.agg cells)) w):o.wp P a w K Q :=
 wp_build t parts ho (by rw[hc];rfl) (by rw[hc];exact h)
theorem zC (H:eM w B b p vk vu vl u) (O:iG p) (hf:-1≤p.fmt) (hl:-1≤p.lang):Calls Tryz.prog 67 #[.pointer (some ⟨b,0,none⟩)] w fun e w'=>∃ v1 v2 v3,e = .returned (iB (gQ p) v1 v2 v3)∧eT w' w.heap.size v1 (iT p)∧eT w' w.heap.size v2 (iV p)∧eT w' w.heap.size v3 (kB p)∧Below w.heap.size w w':=by
 have HH:=cH H;have HO:=cH O;clear H O;have hB1:Below w.heap.size w (w.alloc (.cells (#[.string ⟨#[]⟩,.string ⟨#[]⟩,.string ⟨#[]⟩,.string ⟨#[]⟩,.string ⟨#[]⟩,.string ⟨#[]⟩,.string ⟨#[]⟩,.string ⟨#[]⟩,.string ⟨#[]⟩,.string ⟨#[]⟩,.string ⟨#[]⟩,.string ⟨#[]⟩,.string ⟨#[]⟩,.string ⟨#[]⟩,.string ⟨#[]⟩,.string ⟨#[]⟩,.string ⟨#[]⟩,.string ⟨#[]⟩,.string ⟨#[]⟩,.string ⟨#[]⟩,.string ⟨#[]⟩,.slice none 0 0,.slice none 0 0,.slice none 0 0,.bool false,.bool false,.bool false,.bool false,.bool false,.bool false,.int .i64 0]) 35)):=(Below.refl _ _).alloc (Nat.le_refl _) _
 have hR1:Row (w.alloc (.cells (#[.string ⟨#[]⟩,.string ⟨#[]⟩,.string ⟨#[]⟩,.string ⟨#[]⟩,.string ⟨#[]⟩,.string ⟨#[]⟩,.string ⟨#[]⟩,.string ⟨#[]⟩,.string ⟨#[]⟩,.string ⟨#[]⟩,.string ⟨#[]⟩,.string ⟨#[]⟩,.string ⟨#[]⟩,.string ⟨#[]⟩,.string ⟨#[]⟩,.string ⟨#[]⟩,.string ⟨#[]⟩,.string ⟨#[]⟩,.string ⟨#[]⟩,.string ⟨#[]⟩,.string ⟨#[]⟩,.slice none 0 0,.slice none 0 0,.slice none 0 0,.bool false,.bool false,.bool false,.bool false,.bool false,.bool false,.int .i64 0]) 35)) w.heap.size fY:=Row.new w fY _;go_enter Tryz.func67,Tryz.ntmps67;go_wp2_with fail
 obtain ⟨w1,hw1⟩:∃ w1,w.alloc (.cells (#[.string ⟨#[]⟩,.string ⟨#[]⟩,.string ⟨#[]⟩,.string ⟨#[]⟩,.string ⟨#[]⟩,.string ⟨#[]⟩,.string ⟨#[]⟩,.string ⟨#[]⟩,.string ⟨#[]⟩,.string ⟨#[]⟩,.string ⟨#[]⟩,.string ⟨#[]⟩,.string ⟨#[]⟩,.string ⟨#[]⟩,.string ⟨#[]⟩,.string ⟨#[]⟩,.string ⟨#[]⟩,.string ⟨#[]⟩,.string ⟨#[]⟩,.string ⟨#[]⟩,.string ⟨#[]⟩,.slice none 0 0,.slice none 0 0,.slice none 0 0,.bool false,.bool false,.bool false,.bool false,.bool false,.bool false,.int .i64 0]) 35)=w1:=⟨_,rfl⟩
 rw[hw1] at hB1 hR1 ⊢;clear hw1;have HH:=cH (HH.out.below hB1);have HB1:=cH hB1;have HR:=cH hR1;have HB:=cH (Below.refl w1.heap.size w1);clear hB1 hR1
 (refine (sL (HH.out.below HB.out)).mono ?_)
 rintro e w' ⟨rfl,rfl⟩;go_wp2_with fail
 (refine (sM (HH.out.below HB.out) HO.out).mono ?_)
 rintro e w' ⟨rfl,hd⟩;replace HB:=cH (eB HB.out (eW.below hd));clear hd;go_wp2_with fail
 (refine (uU (HH.out.below HB.out) HO.out).mono ?_)
 rintro e w' ⟨rfl,hd⟩;replace HB:=cH (eB HB.out (eW.below hd));clear hd;go_wp2_with fail
 (refine (aAx (HH.out.below HB.out) HO.out).mono ?_)
 rintro e w' ⟨rfl,hd⟩;replace HB:=cH (eB HB.out (eW.below hd));clear hd;go_wp2_with fail
 (refine (aD6 (HH.out.below HB.out) HO.out).mono ?_)
 rintro e w' ⟨rfl,hd⟩;replace HB:=cH (eB HB.out (eW.below hd));clear hd;go_wp2_with fail
 (refine (xZ (HH.out.below HB.out) HO.out).mono ?_)
 rintro e w' ⟨rfl,hd⟩;replace HB:=cH (eB HB.out (eW.below hd));clear hd;go_wp2_with fail
 (refine (rF (HH.out.below HB.out) HO.out).mono ?_)
 rintro e w' ⟨rfl,hd⟩;replace HB:=cH (eB HB.out hd);clear hd;go_wp2_with fail
 (refine (pC (HH.out.below HB.out) HO.out).mono ?_)
 rintro e w' ⟨rfl,hd⟩;replace HB:=cH (eB HB.out hd);clear hd;go_wp2_with fail
 (refine (aAd (HH.out.below HB.out) HO.out).mono ?_)
 rintro e w' ⟨rfl,hd⟩;replace HB:=cH (eB HB.out (eW.below hd));clear hd;go_wp2_with fail
 (refine (rH (HH.out.below HB.out)).mono ?_)
 rintro e w' ⟨rfl,rfl⟩;go_wp2_with fail
 (refine (xJ (HH.out.below HB.out) HO.out).mono ?_)
 rintro e w' ⟨rfl,hd⟩;replace HB:=cH (eB HB.out hd);clear hd;go_wp2_with fail
 (refine (sV (HH.out.below HB.out) HO.out).mono ?_)
 rintro e w' ⟨rfl,hd⟩;replace HB:=cH (eB HB.out hd);clear hd;go_wp2_with fail
 (refine (xI (HH.out.below HB.out) HO.out hf hl).mono ?_)
 rintro e w' ⟨rfl,hd⟩;replace HB:=cH (eB HB.out hd);clear hd;go_wp2_with fail
 (refine (xW (HH.out.below HB.out) HO.out).mono ?_)
 rintro e w' ⟨rfl,hd⟩;replace HB:=cH (eB HB.out hd);clear hd;go_wp2_with fail
 (refine (tM (HH.out.below HB.out) HO.out).mono ?_)
 rintro e w' ⟨rfl,hd⟩;replace HB:=cH (eB HB.out hd);clear hd;go_wp2_with fail
 (refine (aE5 (HH.out.below HB.out) HO.out).mono ?_)
 rintro e w' ⟨rfl,hd⟩;replace HB:=cH (eB HB.out hd);clear hd;go_wp2_with fail
 (refine (wN (HH.out.below HB.out) HO.out).mono ?_)
 rintro e w' ⟨rfl,hd⟩;replace HB:=cH (eB HB.out hd);clear hd;go_wp2_with fail
 (refine (aE6 (HH.out.below HB.out) HO.out).mono ?_)
 rintro e w' ⟨rfl,hd⟩;replace HB:=cH (eB HB.out hd);clear hd;go_wp2_with fail
 (refine (aCv (HH.out.below HB.out) HO.out).mono ?_)
 rintro e w' ⟨rfl,hd⟩;replace HB:=cH (eB HB.out hd);clear hd;go_wp2_with fail
 (refine (aD5 (HH.out.below HB.out) HO.out).mono ?_)
 rintro e w' ⟨rfl,hd⟩;replace HB:=cH (eB HB.out hd);clear hd;go_wp2_with fail
 (refine (aBe (HH.out.below HB.out) HO.out).mono ?_)
 rintro e w' ⟨rfl,hd⟩;replace HB:=cH (eB HB.out hd);clear hd;go_wp2_with fail
 (refine (aCu (HH.out.below HB.out) HO.out).mono ?_)
 rintro e w' ⟨v21,rfl,hs,hd⟩;have S21:=cH (hs.mono (show w.heap.size+1≤_ from Nat.lt_of_lt_of_le (HR.out.lt bH) HB.out.size));replace HB:=cH (eB HB.out hd);obtain ⟨A21,c21,hv21,_⟩:=S21.out;rw[hv21];replace hv21:=cH hv21;clear hd hs;go_wp2_with fail
 (refine (wL (HH.out.below HB.out) HO.out).mono ?_)
 rintro e w' ⟨v22,rfl,hs,hd⟩;have S22:=cH (hs.mono (show w.heap.size+1≤_ from Nat.lt_of_lt_of_le (HR.out.lt bH) HB.out.size));replace S21:=cH (S21.out.below hd);replace HB:=cH (eB HB.out hd);obtain ⟨A22,c22,hv22,_⟩:=S22.out;rw[hv22];replace hv22:=cH hv22;clear hd hs;go_wp2_with fail
 (refine (rV (HH.out.below HB.out) HO.out).mono ?_)
 rintro e w' ⟨v23,rfl,hs,hd⟩;have S23:=cH (hs.mono (show w.heap.size+1≤_ from Nat.lt_of_lt_of_le (HR.out.lt bH) HB.out.size));replace S21:=cH (S21.out.below hd);replace S22:=cH (S22.out.below hd);replace HB:=cH (eB HB.out hd);obtain ⟨A23,c23,hv23,_⟩:=S23.out;rw[hv23];replace hv23:=cH hv23;clear hd hs;go_wp2_with fail
 (refine (zH (HH.out.below HB.out)).mono ?_)
 rintro e w' ⟨rfl,rfl⟩;go_wp2_with fail
 (refine (zJ (HH.out.below HB.out)).mono ?_)
 rintro e w' ⟨rfl,rfl⟩;go_wp2_with fail
 (refine (aAw (HH.out.below HB.out)).mono ?_)
 rintro e w' ⟨rfl,rfl⟩;go_wp2_with fail
 (refine (uS (HH.out.below HB.out)).mono ?_)
 rintro e w' ⟨rfl,rfl⟩;go_wp2_with fail
 (refine (wM (HH.out.below HB.out)).mono ?_)
 rintro e w' ⟨rfl,rfl⟩;go_wp2_with fail
 (refine (uV (HH.out.below HB.out)).mono ?_)
 rintro e w' ⟨rfl,rfl⟩;go_wp2_with fail
 (refine (tQ (HH.out.below HB.out)).mono ?_)
 rintro e w' ⟨rfl,rfl⟩;go_wp2_with fail
 have hRf:=HR.out.below HB.out (HR.out.lt bH);have ht:World.there _ w.heap.size 0 31:=hRf.there
 obtain ⟨C,hC⟩:∃ C:Array Value,#[.string (p.comp),.string (mA p),.string (lO p),.string (kS p),.string (wJ p),.string (nJ p),.string (nI p),.string (jA p),.string (pK p),.string (nrm p.trim p.s),.string (rT p),.string (jH p false false),.string (rR p),.string (nH p),.string (rS p),.string (fH p 0),.string (xQ p),.string (yP p),.string (qG p),.string (pE p),.string (oG p),.slice A21 (iT p).length c21,.slice A22 (iV p).length c22,.slice A23 (kB p).length c23,.bool (p.dis),.bool (qA p),.bool (qY p),.bool (kE p),.bool (lX p),.bool (zU p),.int .i64 p.typ]=C:=⟨_,rfl⟩
 refine aDu 35 _ C rfl (hC▸by kernel_rfl) ?_;have hs:C.size=31:=by rw[← hC];rfl
 have hl:C.toList.length=31:=by simpa using hs
 have hone:C.all (·.oneCell')=true:=by rw[← hC];kernel_rfl
 have hB4:=HB.out;refine (show ∀ (a:Act) (w:World),wpList _ _ _ _ a w→_ from by assumption) _ _ ?_;refine wpList_store_mid rfl 35 _ _ rfl w.heap.size 0 C rfl rfl (by rw[hs];exact ht) (by rw[hs];kernel_rfl) hone ?_;have hr:=World.rangeAt_setCells_same _ w.heap.size 0 C.toList (by rw[hl];exact ht);have hld:=run_loadVar_mid (P:=Tryz.prog) _ w.heap.size 0 35 C.toList _ hr Tryz.underlying35 rfl (by rw[hl];kernel_rfl);have hbw:Below w'.heap.size w' w':=Below.refl _ _;have hz:w.heap.size < w'.heap.size:=Nat.lt_of_lt_of_le (HR.out.lt bH) HB.out.size;have hfar:∀ k,k≠w.heap.size→(w'.setCells w.heap.size 0 C.toList).heap[k]? = w'.heap[k]?:=fun k hk=>hZ _ _ k hk;have hbel:Below w.heap.size w (w'.setCells w.heap.size 0 C.toList):=below_setCells (Nat.le_refl _) _ _ _ (HB1.out.trans (HB.out.mono HB1.out.size))
 obtain ⟨W,hW⟩:∃ W,w'.setCells w.heap.size 0 C.toList=W:=⟨_,rfl⟩
 rw[hW] at hld hbel hfar ⊢;have s1:=cH (S21.out.far fun k hk _=>hfar k bA);have s2:=cH (S22.out.far fun k hk _=>hfar k bA);have s3:=cH (S23.out.far fun k hk _=>hfar k bA);have HBel:=cH hbel;have HC:=cH hC;clear hC hbel hfar hW hz hbw hr hB4 hone hl hs ht hRf S21 S22 S23;go_wp2_with fail
 refine bodyPost_ret (v:=.agg C) (sI Tryz.results67 rfl (by simpa using hld)) rfl ⟨v21,v22,v23,?_,s1.out.mono (Nat.le_succ _),s2.out.mono (Nat.le_succ _),s3.out.mono (Nat.le_succ _),HBel.out⟩;rw[← HC.out,hv21.out,hv22.out,hv23.out];rfl
end
def oY (t:ToldV) (v1 v2 v3:Value):Array Value:=(aGw t v1 v2 v3).toArray
theorem mF (t:ToldV) (A1 A2 A3:Option Addr) (n1 n2 n3 c1 c2 c3:Nat):(oY t (.slice A1 n1 c1) (.slice A2 n2 c2) (.slice A3 n3 c3)).all (·.oneCell')=true:=by kernel_rfl
def TZ:Array Value:=#[.string ⟨#[]⟩,.string ⟨#[]⟩,.string ⟨#[]⟩,.string ⟨#[]⟩,.string ⟨#[]⟩,.string ⟨#[]⟩,.string ⟨#[]⟩,.string ⟨#[]⟩,.string ⟨#[]⟩,.string ⟨#[]⟩,.string ⟨#[]⟩,.string ⟨#[]⟩,.string ⟨#[]⟩,.string ⟨#[]⟩,.string ⟨#[]⟩,.string ⟨#[]⟩,.string ⟨#[]⟩,.string ⟨#[]⟩,.string ⟨#[]⟩,.string ⟨#[]⟩,.string ⟨#[]⟩,.slice none 0 0,.slice none 0 0,.slice none 0 0,.bool false,.bool false,.bool false,.bool false,.bool false,.bool false,.int .i64 0]
end Go.Proofs.YtcdgldnphhidlaaGreatDoor.Path
namespace Go.Proofs.YtcdgldnphhidlaaGreatDoor.Ext
open Go.RowKit Go.ZW.PrintWords Go.Proofs.YtcdgldnphhidlaaGreatDoor.Base Go.Proofs.YtcdgldnphhidlaaGreatDoor.PCore
def ascii (l:List UInt8):Bool:=l.all fun c=>decide (c.toNat≤127)
theorem yD (c:UInt8) (r:List UInt8):ascii (c::r)=(decide (c.toNat≤127) && ascii r):=rfl
theorem aC0 (s:ByteArray) (hs:s.size≤140737488355328) (d:Nat):∀ i:Nat,s.size - i=d→i≤s.size→Ev (fun k=>fR.l0 k s i) (ascii ((L s).drop i)):=by
 have hl:=eK s
 induction d with
 | zero =>
  intro i h1 h2;have e:(L s).drop i=[]:=List.drop_of_length_le bA;rw[e];refine Ev.step (f:=fun _=>some true) (fun k=>?_) (Ev.now _);simp only[fR.l0];rw[if_neg bA]
 | succ d ih =>
  intro i h1 h2;have hi:i < (L s).length:=by omega
  have hb:=tF s i hi;have e:(L s).drop i=(L s)[i]::(L s).drop (i+1):=List.drop_eq_getElem_cons hi;rw[e]
  by_cases h:(L s)[i].toNat≤127
  ·have e2:ascii ((L s)[i]::(L s).drop (i+1))=ascii ((L s).drop (i+1)):=by rw[yD,decide_eq_true h,Bool.true_and]
   rw[e2];refine Ev.step (f:=fun k=>fR.l0 k s ((i+1:Nat):Int)) (fun k=>?_) (ih (i+1) bA bA);simp only[fR.l0];rw[if_pos bA,if_pos bA,hb,if_neg bA,w64 bA bA];rfl
  have e2:ascii ((L s)[i]::(L s).drop (i+1))=false:=by rw[yD,decide_eq_false h,Bool.false_and]
  rw[e2];refine Ev.step (f:=fun _=>some false) (fun k=>?_) (Ev.now _);simp only[fR.l0];rw[if_pos bA,if_pos bA,hb,if_pos bA]
theorem xL (s:ByteArray) (hs:s.size≤140737488355328):Ev (fun k=>fR.f k s) (ascii (L s)):=by
 have h:=aC0 s hs s.size 0 bA bA;exact h
end Go.Proofs.YtcdgldnphhidlaaGreatDoor.Ext
namespace Go.Proofs.YtcdgldnphhidlaaGreatDoor.Total
open Go.RowKit Go.ZW.PrintWords Go.Proofs.YtcdgldnphhidlaaGreatDoor.Base Go.Proofs.YtcdgldnphhidlaaGreatDoor.PCore Go.Proofs.YtcdgldnphhidlaaGreatDoor.Ext
def oZ {α:Type} (g:Nat→Option α):Prop:=∃ r,Ev g r
theorem oZ.now {α:Type} (r:α):oZ (fun _=>some r):=⟨r,Ev.now r⟩
theorem oZ.succ {α:Type} {g:Nat→Option α} (h:oZ (fun k=>g (k+1))):oZ g:=by
 obtain ⟨r,h⟩:=h;exact ⟨r,Ev.step (fun _=>rfl) h⟩
theorem oZ.ite {α:Type} {c:Prop} [Decidable c] {a b:Nat→Option α} (h1:c→oZ a) (h2:¬ c→oZ b):oZ (fun k=>if c then a k else b k):=by
 by_cases h:c
 ·simpa only [if_pos h] using h1 h
 simpa only [if_neg h] using h2 h
theorem oZ.bind {α β:Type} {g:Nat→Option α} {f:Nat→α→Option β} (h:oZ g) (k:∀ a,Ev g a→oZ (fun n=>f n a)):oZ (fun n=>(g n).bind (f n)):=by
 obtain ⟨a,ha⟩:=h;obtain ⟨r,hr⟩:=k a ha;exact ⟨r,Ev.bind ha hr⟩
theorem oZ.bindC {α β:Type} {x:Option α} {f:Nat→α→Option β} {a:α} (h:x=some a) (k:oZ (fun n=>f n a)):oZ (fun n=>x.bind (f n)):=by
 subst h;exact k
theorem Ev.fun_ {α:Type} {g:Nat→Option α} {a b:α} (h:Ev g a) (h' : Ev g b):a=b:=by
 obtain ⟨K,h⟩:=h;obtain ⟨K',h'⟩:=h';have e1:=h (K+K') bA;have e2:=h' (K+K') bA;rw[e1] at e2;exact Option.some.inj e2
theorem lY {α:Type} (d:α) (l:List α) (i:Nat) (h:i < l.length):gE d l (i:Int)=l[i]:=by
 unfold gE
 simp[h]
theorem qI (l:List S46) (i:Nat) (h:i < l.length):hJ l (i:Int)=l[i]:=by
 unfold hJ
 simp[h]
def MM:Nat:=2147483647
def fits2 (l:List ByteArray):Bool:=decide (l.length≤MM) && l.all fun s=>decide (s.size≤MM)
def fits3 (l:List S46):Bool:=decide (l.length≤MM) && l.all fun s=>decide (s.f0.size≤MM) && decide (s.f1.size≤MM)
theorem aC1 (l:List ByteArray) (hl:l.length≤MM):∀ (n j:Nat),l.length - j=n→j≤l.length→Ev (fun k=>fG.l0 k l (l.length:Int) (j:Int)) ((l.drop j).all fun s=>decide (s.size≤MM)):=by
 unfold MM at *;intro n
 induction n with
 | zero =>
  intro j h1 h2;rw[List.drop_of_length_le bA];refine Ev.step (f:=fun _=>some true) (fun k=>?_) (Ev.now _);simp only[fG.l0];rw[if_neg bA]
 | succ n ih =>
  intro j h1 h2;have hj:j < l.length:=by omega
  rw[List.drop_eq_getElem_cons hj,List.all_cons]
  by_cases c:l[j].size≤2147483647
  ·rw[decide_eq_true c,Bool.true_and];refine Ev.step (fun k=>?_) (ih (j+1) bA bA);simp only[fG.l0];rw[if_pos bA,if_pos bA,if_pos bA,lY _ _ _ hj,if_neg bA,w64 bA bA];rfl
  rw[decide_eq_false c,Bool.false_and];refine Ev.step (f:=fun _=>some false) (fun k=>?_) (Ev.now _);simp only[fG.l0];rw[if_pos bA,if_pos bA,if_pos bA,lY _ _ _ hj,if_pos bA]
theorem ev_fits2 (l:List ByteArray):Ev (fun k=>fG.f k l) (fits2 l):=by
 unfold fG.f fits2
 by_cases c:l.length≤MM
 ·have:=aC1 l c l.length 0 bA bA;rw[decide_eq_true c,Bool.true_and];refine Ev.congr (fun k=>?_) this;unfold MM at c;rw[if_neg bA];rfl
 rw[decide_eq_false c,Bool.false_and];refine Ev.congr (fun k=>?_) (Ev.now _);unfold MM at c;rw[if_pos bA]
theorem aC2 (l:List S46) (hl:l.length≤MM):∀ (n j:Nat),l.length - j=n→j≤l.length→Ev (fun k=>fV.l0 k l (l.length:Int) (j:Int)) ((l.drop j).all fun s=>decide (s.f0.size≤MM) && decide (s.f1.size≤MM)):=by
 unfold MM at *;intro n
 induction n with
 | zero =>
  intro j h1 h2;rw[List.drop_of_length_le bA];refine Ev.step (f:=fun _=>some true) (fun k=>?_) (Ev.now _);simp only[fV.l0];rw[if_neg bA]
 | succ n ih =>
  intro j h1 h2;have hj:j < l.length:=by omega
  rw[List.drop_eq_getElem_cons hj,List.all_cons]
  have e4:mC.f l[j].f0 l[j].f1=some (decide (l[j].f0.size≤2147483647) && decide (l[j].f1.size≤2147483647)):=by
   unfold mC.f
   by_cases c1:l[j].f0.size≤2147483647
   ·by_cases c2:l[j].f1.size≤2147483647
    ·rw[if_neg bA,if_neg bA,decide_eq_true c1,decide_eq_true c2];rfl
    rw[if_neg bA,if_pos bA,decide_eq_true c1,decide_eq_false c2];rfl
   rw[if_pos bA,decide_eq_false c1];rfl
  cases c:(decide (l[j].f0.size≤2147483647) && decide (l[j].f1.size≤2147483647)) with
  | true =>
   rw[Bool.true_and];refine Ev.step (fun k=>?_) (ih (j+1) bA bA);simp only[fV.l0];rw[if_pos bA,if_pos bA,if_pos bA,qI _ _ hj,e4,c,w64 bA bA];rfl
  | false =>
   rw[Bool.false_and];refine Ev.step (f:=fun _=>some false) (fun k=>?_) (Ev.now _);simp only[fV.l0];rw[if_pos bA,if_pos bA,if_pos bA,qI _ _ hj,e4,c];rfl
theorem aF8 (l:List S46):Ev (fun k=>fV.f k l) (fits3 l):=by
 unfold fV.f fits3
 by_cases c:l.length≤MM
 ·have:=aC2 l c l.length 0 bA bA;rw[decide_eq_true c,Bool.true_and];refine Ev.congr (fun k=>?_) this;unfold MM at c;rw[if_neg bA];rfl
 rw[decide_eq_false c,Bool.false_and];refine Ev.congr (fun k=>?_) (Ev.now _);unfold MM at c;rw[if_pos bA]
def fits1 (a b:List ByteArray) (c:List S46) (d:List ByteArray):Bool:=fits2 a && (fits2 b && (fits3 c && fits2 d))
theorem ev_fits1 (a b:List ByteArray) (c:List S46) (d:List ByteArray):Ev (fun k=>kX.f k a b c d) (fits1 a b c d):=by
 unfold kX.f fits1;refine Ev.bind (ev_fits2 a) ?_;cases fits2 a
 ·exact Ev.now _
 simp only[if_true,Bool.true_and];refine Ev.bind (ev_fits2 b) ?_;cases fits2 b
 ·exact Ev.now _
 simp only[if_true,Bool.true_and];refine Ev.bind (aF8 c) ?_;cases fits3 c
 ·exact Ev.now _
 simp only[if_true,Bool.true_and];refine Ev.bind (ev_fits2 d) ?_;cases fits2 d
 ·exact Ev.now _
 exact Ev.now _
def wt (l:List ByteArray):Nat:=(l.map ByteArray.size).sum
def wt3 (l:List S46):Nat:=(l.map fun s=>1+s.f0.size+s.f1.size).sum
theorem aFi (l:List ByteArray) (hl:fits2 l=true):∀ (n j a:Nat),l.length - j=n→j≤l.length→a≤MM+j * MM→Ev (fun k=>gF.l0 k (a:Int) l (l.length:Int) (j:Int)) (decide (a+wt (l.drop j)≤2000)):=by
 unfold fits2 at hl;simp only[Bool.and_eq_true,decide_eq_true_eq,List.all_eq_true] at hl;obtain ⟨hl1,hl2⟩:=hl;unfold MM at *;intro n
 induction n with
 | zero =>
  intro j a h1 h2 h3;rw[List.drop_of_length_le bA];refine Ev.step (f:=fun _=>some (decide ((a:Int)≤2000))) (fun k=>?_) ?_
  ·simp only[gF.l0];rw[if_neg bA]
  have:decide ((a:Int)≤2000)=decide (a+wt []≤2000):=by unfold wt;simp;omega
  rw[this];exact Ev.now _
 | succ n ih =>
  intro j a h1 h2 h3;have hj:j < l.length:=by omega
  have hz:=hl2 l[j] (List.getElem_mem hj);rw[List.drop_eq_getElem_cons hj];have e:a+wt (l[j]::l.drop (j+1))=(a+l[j].size)+wt (l.drop (j+1)):=by simp only[wt,List.map_cons,List.sum_cons];omega
  rw[e];have hm:(j+1) * 2147483647=j * 2147483647+2147483647:=by omega
  have hjj:j * 2147483647≤2147483647 * 2147483647:=by omega
  refine Ev.step (fun k=>?_) (ih (j+1) (a+l[j].size) bA bA bA);simp only[gF.l0];rw[if_pos bA,if_pos bA,if_pos bA,lY _ _ _ hj,w64 (n:=(j:Int)+1) bA bA,w64 bA bA];rfl
def fewB (l:List ByteArray):Bool:=decide (l.length+wt l≤2000)
theorem rZ (l:List ByteArray) (hl:fits2 l=true):Ev (fun k=>gF.f k l) (fewB l):=by
 have h9:=hl;unfold fits2 at h9;simp only[Bool.and_eq_true,decide_eq_true_eq] at h9;exact aFi l hl l.length 0 l.length bA bA bA
def yY (a b:List ByteArray) (c:List S46) (d:List ByteArray) (x y:ByteArray):Bool:=decide (x.size+y.size+wt3 c≤2000) && (fewB a && (fewB b && fewB d))
theorem aC3 (a b:List ByteArray) (c:List S46) (d:List ByteArray) (h:fits1 a b c d=true):∀ (n j x:Nat),c.length - j=n→j≤c.length→x+wt3 (c.drop j)≤9223372036854775807 →
 Ev (fun k=>gJ.l0 k (x:Int) c (c.length:Int) (j:Int) a b c d) (decide (x+wt3 (c.drop j)≤2000) && (fewB a && (fewB b && fewB d))):=by
 unfold fits1 at h;simp only[Bool.and_eq_true] at h;obtain ⟨ha,hb,hc,hd⟩:=h;have hc9:=hc;unfold fits3 at hc9;simp only[Bool.and_eq_true,decide_eq_true_eq,List.all_eq_true] at hc9;obtain ⟨hl1,hl2⟩:=hc9;intro n
 induction n with
 | zero =>
  intro j x h1 h2 h3;rw[List.drop_of_length_le bA];have e:decide (x+wt3 []≤2000)=decide ((x:Int)≤2000):=by unfold wt3;simp;omega
  rw[e];refine Ev.step (f:=fun k=>if (x:Int)≤2000 then ((gF.f k a).bind fun t105=>(if t105=true then ((gF.f k b).bind fun t106=>(if t106=true then ((gF.f k d).bind fun t107=>(some t107)) else (some false))) else (some false))) else (some false)) (fun k=>?_) ?_
  ·simp only[gJ.l0];rw[if_neg bA]
  by_cases cx:(x:Int)≤2000
  ·simp only[if_pos cx,decide_eq_true cx,Bool.true_and];refine Ev.bind (rZ a ha) ?_;cases fewB a
   ·exact Ev.now _
   simp only[if_true,Bool.true_and];refine Ev.bind (rZ b hb) ?_;cases fewB b
   ·exact Ev.now _
   simp only[if_true,Bool.true_and];exact Ev.bind (rZ d hd) (Ev.now _)
  simp only[if_neg cx,decide_eq_false cx,Bool.false_and];exact Ev.now _
 | succ n ih =>
  intro j x h1 h2 h3;have hj:j < c.length:=by omega
  have hz:=hl2 c[j] (List.getElem_mem hj);unfold MM at *;rw[List.drop_eq_getElem_cons hj] at h3 ⊢;have e:x+wt3 (c[j]::c.drop (j+1))=(x+(1+c[j].f0.size+c[j].f1.size))+wt3 (c.drop (j+1)):=by simp only[wt3,List.map_cons,List.sum_cons];omega
  rw[e] at h3 ⊢;refine Ev.step (fun k=>?_) (ih (j+1) (x+(1+c[j].f0.size+c[j].f1.size)) bA bA bA);simp only[gJ.l0];rw[if_pos bA,if_pos bA,if_pos bA,qI _ _ hj,w64 (n:=(j:Int)+1) bA bA,w64 (n:=1+(c[j].f0.size:Int)) bA bA,w64 (n:=1+(c[j].f0.size:Int)+(c[j].f1.size:Int)) bA bA,w64 bA bA];have e1:(x:Int)+(1+(c[j].f0.size:Int)+(c[j].f1.size:Int))=((x+(1+c[j].f0.size+c[j].f1.size):Nat):Int):=by omega
  rw[e1];rfl
theorem aBu (a b:List ByteArray) (c:List S46) (d:List ByteArray) (x y:ByteArray) (h:fits1 a b c d=true) (hxy:x.size+y.size+wt3 c≤9223372036854775807):Ev (fun k=>gJ.f k a b c d x y) (yY a b c d x y):=by
 have e:=aC3 a b c d h c.length 0 (x.size+y.size) bA bA (by rw[List.drop_zero];exact hxy);refine Ev.congr (fun k=>?_) e;unfold gJ.f;rw[w64 bA bA];rfl
end Go.Proofs.YtcdgldnphhidlaaGreatDoor.Total
