/- Texts that the law leans on: Do3, New. Condition: as told at each. -/
import Derived.Test.YtjlaamcklhdhaaaGreatDoorQ15
namespace Go.Proofs.YtjlaamcklhdhaaaGreatDoor.Path
open Go.RowKit Go.Proofs.YtjlaamcklhdhaaaGreatDoorW.PrintWords Go.Proofs.YtjlaamcklhdhaaaGreatDoor.Base Go.Proofs.YtjlaamcklhdhaaaGreatDoor.PCore
section
variable {E:Env} {comp:ByteArray} {sk:List Nat} {nd:Int} {i:Nat} {d:DoV}
theorem doStep_other (h1:d.p.s.data.toList[i]?≠some 46) (h2:d.p.s.data.toList[i]?≠some 47):doStep E comp sk nd i d=d:=by
 unfold doStep;rw[if_neg h1,if_neg h2]
theorem doStep_skip (h1:d.p.s.data.toList[i]? = some 46) (h2:isSk sk i=true):doStep E comp sk nd i d=d:=by
 unfold doStep;rw[if_pos h1,if_pos h2]
theorem doStep_dot (h1:d.p.s.data.toList[i]? = some 46) (h2:isSk sk i=false):doStep E comp sk nd i d = { d with p:=mId E d.p comp i d.ld nd false,ld:=i }:=by
 unfold doStep;rw[if_pos h1,if_neg (by rw[h2];simp)]
theorem doStep_first {q:PathV} (h1:d.p.s.data.toList[i]? = some 47) (hc:d.p.cHigh = -1) (hq:q=if 0 < d.ld then mId E d.p comp i d.ld nd true else d.p) :
 doStep E comp sk nd i d = { d with p:=if 0 < i then { q with cHigh:=((i:Int)+1),sec:=i } else { q with cHigh:=((i:Int)+1) },sc:=d.sc+1 }:=by
 unfold doStep;rw[if_neg (by rw[h1];intro h;cases h),if_pos h1];simp only[hc,if_true,← hq]
theorem doStep_again (h1:d.p.s.data.toList[i]? = some 47) (hc:d.p.cHigh≠-1) :
 doStep E comp sk nd i d = { d with p:=if 0 < i then { (if d.p.cLow = -1 then { d.p with cLow:=((i:Int)+1) } else d.p) with sec:=i } else (if d.p.cLow = -1 then { d.p with cLow:=((i:Int)+1) } else d.p),sc:=d.sc+1 }:=by
 unfold doStep;rw[if_neg (by rw[h1];intro h;cases h),if_pos h1];simp only[hc,if_false]
end
theorem mNamed_short {p:PathV} {a n:Int} (h:¬ p.cHigh≤p.nEnd) (ha:p.cHigh=a) (hn:(p.s.size:Int)=n):{ p with nLow:=a,nHigh:=n }=mNamed p:=by
 subst ha hn;unfold mNamed;rw[if_neg h]
theorem mNamed_long {p:PathV} {a:Int} (h:p.cHigh≤p.nEnd) (ha:p.cHigh=a):{ p with nLow:=a,nHigh:=p.nEnd }=mNamed p:=by
 subst ha;unfold mNamed;rw[if_pos h]
section
variable {E:Env} {p:PathV} {sc:Nat} {comp:ByteArray}
theorem mSort1_index (hk:p.known≠[]) (h:p.nLow < p.nHigh) (hi:((isCon p.comp || isArch p.comp) && E.cont (mIdStr p 0))=true) (hb:(sub p.s p.nLow p.nHigh).toList=tIndex):{ p with typ:=3,sec:=if sc=2 then 0 else p.sec }=mSort1 E sc p:=by
 unfold mSort1;rw[if_neg hk];simp only;rw[if_pos h,if_pos hi,if_pos hb]
theorem mSort1_uindex (hk:p.known≠[]) (h:p.nLow < p.nHigh) (hi:((isCon p.comp || isArch p.comp) && E.cont (mIdStr p 0))=true) (hb:(sub p.s p.nLow p.nHigh).toList=tUIndex):{ p with typ:=4 }=mSort1 E sc p:=by
 unfold mSort1;rw[if_neg hk];simp only;rw[if_pos h,if_pos hi,if_neg (by rw[hb];decide),if_pos hb]
theorem mSort1_single (hk:p.known≠[]) (h:p.nLow < p.nHigh) (hi:((isCon p.comp || isArch p.comp) && E.cont (mIdStr p 0))=true) (hb:(sub p.s p.nLow p.nHigh).toList≠tIndex) (hb2:(sub p.s p.nLow p.nHigh).toList≠tUIndex):{ p with typ:=2 }=mSort1 E sc p:=by
 unfold mSort1;rw[if_neg hk];simp only;rw[if_pos h,if_pos hi,if_neg hb,if_neg hb2]
theorem mSort1_data (hk:p.known≠[]) (h:p.nLow < p.nHigh) (hi:((isCon p.comp || isArch p.comp) && E.cont (mIdStr p 0))=false) (hb:(sub p.s p.nLow p.nHigh).toList=tContent) (he:(mIdStr p 0).toList=tGotmpl):{ p with typ:=5 }=mSort1 E sc p:=by
 unfold mSort1;rw[if_neg hk];simp only;rw[if_pos h,if_neg (by rw[hi];simp),if_pos ⟨hb,he⟩]
theorem mSort1_none (hk:p.known≠[]) (h:p.nLow < p.nHigh) (hi:((isCon p.comp || isArch p.comp) && E.cont (mIdStr p 0))=false) (hb:¬ ((sub p.s p.nLow p.nHigh).toList=tContent∧(mIdStr p 0).toList=tGotmpl)):p=mSort1 E sc p:=by
 unfold mSort1;rw[if_neg hk];simp only;rw[if_pos h,if_neg (by rw[hi];simp),if_neg hb]
theorem mSort1_same (E:Env) (sc:Nat) (p:PathV):∃ t c,mSort1 E sc p = { p with typ:=t,sec:=c }:=by
 unfold mSort1;simp only
 repeat' split
 all_goals exact ⟨_,_,rfl⟩
theorem mSort2_same (comp:ByteArray) (p:PathV):∃ t,mSort2 comp p = { p with typ:=t }:=by
 unfold mSort2
 repeat' split
 all_goals exact ⟨_,rfl⟩
theorem mSort2_no (h:(decide (p.typ < 6) && isLay comp)=false):p=mSort2 comp p:=by
 unfold mSort2;rw[if_neg];rintro ⟨h1,h2⟩;rw[h2,decide_eq_true h1] at h;cases h
theorem mSort2_base (h:(decide (p.typ < 6) && isLay comp)=true) (hb:(p.base != -1)=true):{ p with typ:=9 }=mSort2 comp p:=by
 unfold mSort2;simp only[Bool.and_eq_true,decide_eq_true_eq] at h;rw[if_pos h,if_pos (by simpa using hb)]
theorem mSort2_else (h:(decide (p.typ < 6) && isLay comp)=true) (hb:(p.base != -1)=false) {T:ByteArray} (ht:nrm p.trim p.s=T) :
 mSort2 comp p=if hasSub (L T) tShort then { p with typ:=7 } else if hasSub (L T) tMarkup then { p with typ:=6 } else if tPartials.isPrefixOf (L T) then { p with typ:=8 } else p:=by
 unfold mSort2;simp only[Bool.and_eq_true,decide_eq_true_eq] at h;rw[if_pos h,if_neg (by simpa using hb),ht];rfl
theorem mSort3_no (h:((p.typ==7) && (p.lay != -1))=false):p=mSort3 p:=by
 unfold mSort3;rw[if_neg];rintro ⟨h1,h2,_⟩;rw[h1] at h
 simp at h
 exact h2 h
theorem mSort3_if (h:((p.typ==7) && (p.lay != -1))=true) {j:Nat} {x:Int×Int} (hj:p.lay=(j:Int)) (hx:p.known[j]? = some x):mSort3 p=if x.1=p.cHigh then { p with lay:=-1 } else p:=by
 unfold mSort3;simp only[Bool.and_eq_true,beq_iff_eq,bne_iff_ne] at h;have e:p.known.getD p.lay.toNat (0,0)=x:=by rw[hj,Int.toNat_natCast,List.getD_eq_getElem?_getD,hx];rfl
 rw[e]
 by_cases c:x.1=p.cHigh
 ·rw[if_pos c,if_pos ⟨h.1,h.2,c⟩]
 ·rw[if_neg c,if_neg (fun g=>c g.2.2)]
end
def Apart (b:Nat) (vk vu vl:Value) (k:Nat):Prop:=k≠b∧some k≠vk.ownBlock∧some k≠vu.ownBlock∧some k≠vl.ownBlock
section
variable {w w' : World} {base b:Nat} {vk vu vl vk' vu' vl' v u:Value} {xs:List Int} {p:PathV} {B:Nat}
theorem skip_moved (h:(Kd.int .i64).R 3 w base (Apart b vk vu vl) v xs) (m:Moved w w' b vk vu vl vk' vu' vl'):(Kd.int .i64).R 3 w' base (Apart b vk' vu' vl') v xs:=by
 have h1:=Kd.R_bound h;refine Kd.R_mono (Kd.R_move h1 (fun k hk=>m.block k hk.2.2.1 hk.1.1 hk.1.2.1 hk.1.2.2.1 hk.1.2.2.2)) (fun k hk=>?_);obtain ⟨_,_,f1,f2,f3⟩:=m.far hk.2.2.1 hk.1.1 hk.1.2.1 hk.1.2.2.1 hk.1.2.2.2;exact ⟨hk.1.1,f1,f2,f3⟩
theorem skip_new (H:PathAt w B b p vk vu vl u) (h:(Kd.int .i64).R 3 w' w.heap.size (fun _=>True) v xs):(Kd.int .i64).R 3 w' w.heap.size (Apart b vk vu vl) v xs :=
 Kd.R_mono (Kd.R_bound h) (fun _ hk=>H.new_ne hk.2.1)
theorem skip_below (h:(Kd.int .i64).R 3 w base (Apart b vk vu vl) v xs) (hb:Below w.heap.size w w'):(Kd.int .i64).R 3 w' base (Apart b vk vu vl) v xs:=Kd.R_below h hb
end
theorem dotsF_length (l:List UInt8) (a n:Nat):(dotsF l a n).length≤n:=by unfold dotsF;refine Nat.le_trans (List.length_filter_le _ _) ?_;simp
theorem skF_length (l:List UInt8):∀ (g i:Nat),(skF l g i).length≤l.length - i
 | 0,i=>by simp[skF]
 | g+1,i=>by
  have h1:=skF_length l g (i+1);unfold skF;split
  ·simp
  ·split
   ·split
    ·rename_i e he
     obtain ⟨q1,q2⟩:=wEndF_lt _ _ _ _ he;have h2:=skF_length l g (e+1);have h3:=dotsF_length l (i+2) (e - (i+2));rw[List.length_append];omega
    ·omega
   ·omega
theorem mem_mText (l:List UInt8) (c:UInt8) (h:c∈mText l):c=47∨c∈l:=by
 have h1:∀ c,c∈mLead l→c=47∨c∈l:=by
  intro c h;unfold mLead at h;split at h
  ·exact .inl (by simpa using h)
  ·split at h
   ·exact .inr h
   ·rcases List.mem_cons.1 h with h | h
    ·exact .inl h
    ·exact .inr h
 unfold mText at h;simp only at h;split at h
 ·exact h1 c (List.dropLast_subset _ h)
 ·exact h1 c h
theorem asc_mText (s:ByteArray) (h:asc s):asc ⟨(mText (L s)).toArray⟩:=by
 intro j c hc
 have hm:c∈mText (L s):=by
  have:(⟨(mText (L s)).toArray⟩:ByteArray).data.toList=mText (L s):=by simp
  rw[this] at hc;exact List.mem_of_getElem? hc
 rcases mem_mText _ _ hm with h1 | h1
 ·rw[h1];decide
 ·obtain ⟨k,hk⟩:=List.mem_iff_getElem?.1 h1;exact h k c hk
end Go.Proofs.YtjlaamcklhdhaaaGreatDoor.Path
namespace Go.Proofs.YtjlaamcklhdhaaaGreatDoor.Path
open Go.RowKit Go.Proofs.YtjlaamcklhdhaaaGreatDoorW.PrintWords Go.Proofs.YtjlaamcklhdhaaaGreatDoor.Base
def pathZero:PathV where
 s:=⟨#[]⟩
 cLow:=-1
 cHigh:=-1
 sec:=-1
 comp:=⟨#[]⟩
 typ:=0
 known:=[]
 unknown:=[]
 lang:=-1
 fmt:=-1
 kind:=-1
 lay:=-1
 base:=-1
 cust:=-1
 plangs:=[]
 pfmt:=-1
 pkind:=-1
 play:=-1
 nLow:=0
 nHigh:=0
 nEnd:=-1
 dis:=false
 trim:=false
theorem Row.eq {w:World} {b:Nat} {cs cs' : List Value} (R:Row w b cs) (h:cs=cs'):Row w b cs':=h▸R
section
variable {w:World} {b:Nat} {p:PathV} {vu u:Value}
set_option maxRecDepth 100000 in
set_option maxHeartbeats 1600000 in
theorem reset_calls {A A2:Option Addr} {n c n2 c2:Nat} (R:Row w b (cells p (.slice A n c) vu (.slice A2 n2 c2) u)) :
 Calls Tryz.prog 115 #[.pointer (some ⟨b,0,none⟩)] w fun e w'=>e = .returned (.tuple #[])∧Row w' b (cells pathZero (.slice A 0 c) vu (.slice A2 0 c2) (.pointer none))∧Below b w w':=by
 have r0:=R.at 0 _ rfl;have f0:=R.free 0 (by simp[cells]);have r1:=R.at 1 _ rfl;have f1:=R.free 1 (by simp[cells]);have r2:=R.at 2 _ rfl;have f2:=R.free 2 (by simp[cells]);have r3:=R.at 3 _ rfl;have f3:=R.free 3 (by simp[cells]);have r4:=R.at 4 _ rfl;have f4:=R.free 4 (by simp[cells]);have r5:=R.at 5 _ rfl;have f5:=R.free 5 (by simp[cells]);have r6:=R.at 6 _ rfl;have f6:=R.free 6 (by simp[cells]);have r8:=R.at 8 _ rfl;have f8:=R.free 8 (by simp[cells]);have r9:=R.at 9 _ rfl;have f9:=R.free 9 (by simp[cells]);have r10:=R.at 10 _ rfl;have f10:=R.free 10 (by simp[cells]);have r11:=R.at 11 _ rfl;have f11:=R.free 11 (by simp[cells]);have r12:=R.at 12 _ rfl;have f12:=R.free 12 (by simp[cells]);have r13:=R.at 13 _ rfl;have f13:=R.free 13 (by simp[cells]);have r14:=R.at 14 _ rfl;have f14:=R.free 14 (by simp[cells])
 have r15:=R.at 15 _ rfl;have f15:=R.free 15 (by simp[cells]);have r16:=R.at 16 _ rfl;have f16:=R.free 16 (by simp[cells]);have r17:=R.at 17 _ rfl;have f17:=R.free 17 (by simp[cells]);have r18:=R.at 18 _ rfl;have f18:=R.free 18 (by simp[cells]);have r19:=R.at 19 _ rfl;have f19:=R.free 19 (by simp[cells]);have r20:=R.at 20 _ rfl;have f20:=R.free 20 (by simp[cells]);have r21:=R.at 21 _ rfl;have f21:=R.free 21 (by simp[cells]);have r22:=R.at 22 _ rfl;have f22:=R.free 22 (by simp[cells]);have r23:=R.at 23 _ rfl;have f23:=R.free 23 (by simp[cells]);have r24:=R.at 24 _ rfl;have f24:=R.free 24 (by simp[cells]);have r25:=R.at 25 _ rfl;have f25:=R.free 25 (by simp[cells]);have HR:=Aside0.mk R;clear R;go_enter Tryz.func115,Tryz.ntmps115;go_wp2_with fail
 refine ⟨rfl,.tuple #[],by simp[results,Tryz.results115],rfl,Row.eq (((((((((((((((((((((((((HR.out.set 0 (.string ⟨#[]⟩) (by simp[cells])).set 1 (.int .i64 (-1)) (by simp[cells])).set 2 (.int .i64 (-1)) (by simp[cells])).set 3 (.int .i64 (-1)) (by simp[cells])).set 4 (.string ⟨#[]⟩) (by simp[cells])).set 5 (.int .i64 0) (by simp[cells])).set 6 (.slice A 0 c) (by simp[cells])).set 8 (.int .i64 (-1)) (by simp[cells])).set 9 (.int .i64 (-1)) (by simp[cells])).set 10 (.int .i64 (-1)) (by simp[cells])).set 11 (.int .i64 (-1)) (by simp[cells])).set 12 (.int .i64 (-1)) (by simp[cells])).set 13 (.int .i64 (-1)) (by simp[cells])).set 14 (.slice A2 0 c2) (by simp[cells])).set 15 (.slice none 0 0) (by simp[cells])).set 16 (.slice none 0 0) (by simp[cells])).set 17 (.int .i64 (-1)) (by simp[cells])).set 18 (.int .i64 (-1)) (by simp[cells])).set 19 (.int .i64 (-1)) (by simp[cells])).set 20 (.int .i64 0) (by simp[cells])).set 21 (.int .i64 0) (by simp[cells])).set 22 (.int .i64 (-1)) (by simp[cells])).set 23 (.bool false) (by simp[cells])).set 24 (.bool false) (by simp[cells])).set 25 (.pointer none) (by simp[cells])) (by kernel_rfl),?_⟩
 exact ((((((((((((((((((((((((((Below.refl b w).setCell (p:=⟨b,0,none⟩) (Nat.le_refl _) _).setCell (p:=⟨b,1,none⟩) (Nat.le_refl _) _).setCell (p:=⟨b,2,none⟩) (Nat.le_refl _) _).setCell (p:=⟨b,3,none⟩) (Nat.le_refl _) _).setCell (p:=⟨b,4,none⟩) (Nat.le_refl _) _).setCell (p:=⟨b,5,none⟩) (Nat.le_refl _) _).setCell (p:=⟨b,6,none⟩) (Nat.le_refl _) _).setCell (p:=⟨b,8,none⟩) (Nat.le_refl _) _).setCell (p:=⟨b,9,none⟩) (Nat.le_refl _) _).setCell (p:=⟨b,10,none⟩) (Nat.le_refl _) _).setCell (p:=⟨b,11,none⟩) (Nat.le_refl _) _).setCell (p:=⟨b,12,none⟩) (Nat.le_refl _) _).setCell (p:=⟨b,13,none⟩) (Nat.le_refl _) _).setCell (p:=⟨b,14,none⟩) (Nat.le_refl _) _).setCell (p:=⟨b,15,none⟩) (Nat.le_refl _) _).setCell (p:=⟨b,16,none⟩) (Nat.le_refl _) _).setCell (p:=⟨b,17,none⟩) (Nat.le_refl _) _).setCell (p:=⟨b,18,none⟩) (Nat.le_refl _) _).setCell (p:=⟨b,19,none⟩) (Nat.le_refl _) _).setCell (p:=⟨b,20,none⟩) (Nat.le_refl _) _).setCell (p:=⟨b,21,none⟩) (Nat.le_refl _) _).setCell (p:=⟨b,22,none⟩) (Nat.le_refl _) _).setCell (p:=⟨b,23,none⟩) (Nat.le_refl _) _).setCell (p:=⟨b,24,none⟩) (Nat.le_refl _) _).setCell (p:=⟨b,25,none⟩) (Nat.le_refl _) _)
theorem PathAt.fresh {w:World} {b:Nat} {p:PathV} (R:Row w b (cells p (.slice none 0 0) (.slice none 0 0) (.slice none 0 0) u)) (h1:p.known=[]) (h2:p.unknown=[]) (h3:p.plangs=[]):PathAt w b b p (.slice none 0 0) (.slice none 0 0) (.slice none 0 0) u:=by
 refine ⟨Nat.le_refl _,R,?_,?_,?_,(fun h=>by cases h),(fun h=>by cases h),(fun h=>by cases h),.inl rfl⟩
 ·rw[h1];exact ⟨rfl,.inl ⟨rfl,rfl⟩⟩
 ·rw[h2];exact ⟨rfl,.inl ⟨rfl,rfl⟩⟩
 ·rw[h3];exact ⟨rfl,.inl ⟨rfl,rfl⟩⟩
def zeroCells:List Value:=cells { pathZero with cLow:=0,cHigh:=0,sec:=0,lang:=0,fmt:=0,kind:=0,lay:=0,base:=0,cust:=0,pfmt:=0,pkind:=0,play:=0,nEnd:=0 } (.slice none 0 0) (.slice none 0 0) (.slice none 0 0) (.pointer none)
set_option maxRecDepth 100000 in
set_option maxHeartbeats 1600000 in
theorem newPath_calls (w:World) (v:Value) (comp:ByteArray):Calls Tryz.prog 102 #[v,.string comp] w fun e w'=>e = .returned (.pointer (some ⟨w.heap.size,0,none⟩))∧PathAt w' w.heap.size w.heap.size { pathZero with comp:=comp } (.slice none 0 0) (.slice none 0 0) (.slice none 0 0) (.pointer none)∧Below w.heap.size w w':=by
 have hR:=Row.new w zeroCells 73;have hB:Below w.heap.size w (w.alloc (.cells zeroCells.toArray 73)):=(Below.refl _ _).alloc (Nat.le_refl _) _;have hs:w.heap.size < (w.alloc (.cells zeroCells.toArray 73)).heap.size:=by simp
 simp only[zeroCells,cells,pathZero] at hR hB hs;go_enter Tryz.func102,Tryz.ntmps102;go_wp2_with fail
 refine (reset_calls (p:={ pathZero with cLow:=0,cHigh:=0,sec:=0,lang:=0,fmt:=0,kind:=0,lay:=0,base:=0,cust:=0,pfmt:=0,pkind:=0,play:=0,nEnd:=0 }) (A:=none) (A2:=none) (n:=0) (c:=0) (n2:=0) (c2:=0) hR).mono ?_;rintro e w' ⟨rfl,hr,hb⟩;have HB:=Aside0.mk (hB.trans hb);have h4:=hr.at 4 _ rfl;have f4:=hr.free 4 (by simp[cells]);have HR:=Aside0.mk hr;clear hR hB hs hr hb;go_wp2_with fail
 go_ret;refine ⟨rfl,PathAt.fresh (Row.eq (HR.out.set 4 (.string comp) (by simp[cells])) (by kernel_rfl)) rfl rfl rfl,HB.out.setCell (Nat.le_refl _) _⟩
end
end Go.Proofs.YtjlaamcklhdhaaaGreatDoor.Path
