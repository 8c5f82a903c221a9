/- Texts that the law leans on: Do3, New. Condition: as told at each. -/
import Derived.Test.YtbkobfoaphcamaaGreatDoorQa
import Derived.Test.YtbkobfoaphcamaaGreatDoorQ14
set_option linter.unusedVariables false
set_option linter.unusedSimpArgs false
namespace Go.Proofs.YtbkobfoaphcamaaGreatDoor.Path
open Go.RowKit Go.Proofs.YtbkobfoaphcamaaGreatDoorW.PrintWords Go.Proofs.YtbkobfoaphcamaaGreatDoor.Base Go.Proofs.YtbkobfoaphcamaaGreatDoor.PCore
section
variable {E:Env} {comp:ByteArray} {sk:List Nat} {nd:Int} {i:Nat} {d:DoV}
theorem aBg (h1:d.p.s.data.toList[i]?≠some 46) (h2:d.p.s.data.toList[i]?≠some 47):iU E comp sk nd i d=d:=by
 unfold iU;rw[if_neg h1,if_neg h2]
theorem wA (h1:d.p.s.data.toList[i]? = some 46) (h2:kS sk i=true):iU E comp sk nd i d=d:=by
 unfold iU;rw[if_pos h1,if_pos h2]
theorem sZ (h1:d.p.s.data.toList[i]? = some 46) (h2:kS sk i=false):iU E comp sk nd i d = { d with p:=mId E d.p comp i d.ld nd false,ld:=i }:=by
 unfold iU;rw[if_pos h1,if_neg (by rw[h2];simp)]
theorem pP {q:eQ} (h1:d.p.s.data.toList[i]? = some 47) (hc:d.p.cHigh = -1) (hq:q=if 0 < d.ld then mId E d.p comp i d.ld nd true else d.p) :
 iU E comp sk nd i d = { d with p:=if 0 < i then { q with cHigh:=((i:Int)+1),sec:=i } else { q with cHigh:=((i:Int)+1) },sc:=d.sc+1 }:=by
 unfold iU;rw[if_neg (by rw[h1];intro h;cases h),if_pos h1];simp only[hc,if_true,← hq]
theorem pO (h1:d.p.s.data.toList[i]? = some 47) (hc:d.p.cHigh≠-1) :
 iU E comp sk nd i d = { d with p:=if 0 < i then { (if d.p.cLow = -1 then { d.p with cLow:=((i:Int)+1) } else d.p) with sec:=i } else (if d.p.cLow = -1 then { d.p with cLow:=((i:Int)+1) } else d.p),sc:=d.sc+1 }:=by
 unfold iU;rw[if_neg (by rw[h1];intro h;cases h),if_pos h1];simp only[hc,if_false]
end
theorem aB5 {p:eQ} {a n:Int} (h:¬ p.cHigh≤p.nEnd) (ha:p.cHigh=a) (hn:(p.s.size:Int)=n):{ p with nLow:=a,nHigh:=n }=gR p:=by
 subst ha hn;unfold gR;rw[if_neg h]
theorem aDc {p:eQ} {a:Int} (h:p.cHigh≤p.nEnd) (ha:p.cHigh=a):{ p with nLow:=a,nHigh:=p.nEnd }=gR p:=by
 subst ha;unfold gR;rw[if_pos h]
section
variable {E:Env} {p:eQ} {sc:Nat} {comp:ByteArray}
theorem uX (hk:p.known≠[]) (h:p.nLow < p.nHigh) (hi:((kA p.comp || kV p.comp) && E.cont (fO p 0))=true) (hb:(sub p.s p.nLow p.nHigh).toList=nY):{ p with typ:=3,sec:=if sc=2 then 0 else p.sec }=iM E sc p:=by
 unfold iM;rw[if_neg hk];simp only;rw[if_pos h,if_pos hi,if_pos hb]
theorem tV (hk:p.known≠[]) (h:p.nLow < p.nHigh) (hi:((kA p.comp || kV p.comp) && E.cont (fO p 0))=true) (hb:(sub p.s p.nLow p.nHigh).toList=mZ):{ p with typ:=4 }=iM E sc p:=by
 unfold iM;rw[if_neg hk];simp only;rw[if_pos h,if_pos hi,if_neg (by rw[hb];decide),if_pos hb]
theorem tU (hk:p.known≠[]) (h:p.nLow < p.nHigh) (hi:((kA p.comp || kV p.comp) && E.cont (fO p 0))=true) (hb:(sub p.s p.nLow p.nHigh).toList≠nY) (hb2:(sub p.s p.nLow p.nHigh).toList≠mZ):{ p with typ:=2 }=iM E sc p:=by
 unfold iM;rw[if_neg hk];simp only;rw[if_pos h,if_pos hi,if_neg hb,if_neg hb2]
theorem aDi (hk:p.known≠[]) (h:p.nLow < p.nHigh) (hi:((kA p.comp || kV p.comp) && E.cont (fO p 0))=false) (hb:(sub p.s p.nLow p.nHigh).toList=lT) (he:(fO p 0).toList=mY):{ p with typ:=5 }=iM E sc p:=by
 unfold iM;rw[if_neg hk];simp only;rw[if_pos h,if_neg (by rw[hi];simp),if_pos ⟨hb,he⟩]
theorem wD (hk:p.known≠[]) (h:p.nLow < p.nHigh) (hi:((kA p.comp || kV p.comp) && E.cont (fO p 0))=false) (hb:¬ ((sub p.s p.nLow p.nHigh).toList=lT∧(fO p 0).toList=mY)):p=iM E sc p:=by
 unfold iM;rw[if_neg hk];simp only;rw[if_pos h,if_neg (by rw[hi];simp),if_neg hb]
theorem aDj (E:Env) (sc:Nat) (p:eQ):∃ t c,iM E sc p = { p with typ:=t,sec:=c }:=by
 unfold iM;simp only
 repeat' split
 all_goals exact ⟨_,_,rfl⟩
theorem aDl (comp:ByteArray) (p:eQ):∃ t,lM comp p = { p with typ:=t }:=by
 unfold lM
 repeat' split
 all_goals exact ⟨_,rfl⟩
theorem aF1 (h:(decide (p.typ < 6) && eW comp)=false):p=lM comp p:=by
 unfold lM;rw[if_neg];rintro ⟨h1,h2⟩;rw[h2,decide_eq_true h1] at h;cases h
theorem aDk (h:(decide (p.typ < 6) && eW comp)=true) (hb:(p.base != -1)=true):{ p with typ:=9 }=lM comp p:=by
 unfold lM;simp only[Bool.and_eq_true,decide_eq_true_eq] at h;rw[if_pos h,if_pos (by simpa using hb)]
theorem qH (h:(decide (p.typ < 6) && eW comp)=true) (hb:(p.base != -1)=false) {T:ByteArray} (ht:nrm p.trim p.s=T) :
 lM comp p=if fH (L T) gC then { p with typ:=7 } else if fH (L T) kD then { p with typ:=6 } else if jH.isPrefixOf (L T) then { p with typ:=8 } else p:=by
 unfold lM;simp only[Bool.and_eq_true,decide_eq_true_eq] at h;rw[if_pos h,if_neg (by simpa using hb),ht];rfl
theorem aF2 (h:((p.typ==7) && (p.lay != -1))=false):p=nP p:=by
 unfold nP;rw[if_neg];rintro ⟨h1,h2,_⟩;rw[h1] at h
 simp at h
 exact h2 h
theorem zW (h:((p.typ==7) && (p.lay != -1))=true) {j:Nat} {x:Int×Int} (hj:p.lay=(j:Int)) (hx:p.known[j]? = some x):nP p=if x.1=p.cHigh then { p with lay:=-1 } else p:=by
 unfold nP;simp only[Bool.and_eq_true,beq_iff_eq,bne_iff_ne] at h;have e:p.known.getD p.lay.toNat (0,0)=x:=by rw[hj,Int.toNat_natCast,List.getD_eq_getElem?_getD,hx];rfl
 rw[e]
 by_cases c:x.1=p.cHigh
 ·rw[if_pos c,if_pos ⟨h.1,h.2,c⟩]
 rw[if_neg c,if_neg (fun g=>c g.2.2)]
end
def Apart (b:Nat) (vk vu vl:Value) (k:Nat):Prop:=k≠b∧some k≠vk.ownBlock∧some k≠vu.ownBlock∧some k≠vl.ownBlock
section
variable {w w' : World} {base b:Nat} {vk vu vl vk' vu' vl' v u:Value} {xs:List Int} {p:eQ} {B:Nat}
theorem kB (h:(Kd.int .i64).R 3 w base (Apart b vk vu vl) v xs) (m:fG w w' b vk vu vl vk' vu' vl'):(Kd.int .i64).R 3 w' base (Apart b vk' vu' vl') v xs:=by
 have h1:=Kd.R_bound h;refine Kd.R_mono (Kd.R_move h1 (fun k hk=>m.block k hk.2.2.1 hk.1.1 hk.1.2.1 hk.1.2.2.1 hk.1.2.2.2)) (fun k hk=>?_);obtain ⟨_,_,f1,f2,f3⟩:=m.far hk.2.2.1 hk.1.1 hk.1.2.1 hk.1.2.2.1 hk.1.2.2.2;exact ⟨hk.1.1,f1,f2,f3⟩
theorem aHc (H:eP w B b p vk vu vl u) (h:(Kd.int .i64).R 3 w' w.heap.size (fun _=>True) v xs):(Kd.int .i64).R 3 w' w.heap.size (Apart b vk vu vl) v xs :=
 Kd.R_mono (Kd.R_bound h) (fun _ hk=>H.new_ne hk.2.1)
theorem yH (h:(Kd.int .i64).R 3 w base (Apart b vk vu vl) v xs) (hb:Below w.heap.size w w'):(Kd.int .i64).R 3 w' base (Apart b vk vu vl) v xs:=Kd.R_below h hb
end
theorem aBi (l:List UInt8) (a n:Nat):(kE l a n).length≤n:=by unfold kE;refine Nat.le_trans (List.length_filter_le _ _) ?_;simp
theorem tM (l:List UInt8):∀ (g i:Nat),(skF l g i).length≤l.length - i
 | 0,i=>by simp[skF]
 | g+1,i=>by
  have h1:=tM l g (i+1);unfold skF;split
  ·simp
  split
  ·split
   ·rename_i e he
    obtain ⟨q1,q2⟩:=qD _ _ _ _ he;have h2:=tM l g (e+1);have h3:=aBi l (i+2) (e - (i+2));rw[List.length_append];omega
   omega
  omega
theorem mem_mText (l:List UInt8) (c:UInt8) (h:c∈iJ l):c=47∨c∈l:=by
 have h1:∀ c,c∈kT l→c=47∨c∈l:=by
  intro c h;unfold kT at h;split at h
  ·exact .inl (by simpa using h)
  split at h
  ·exact .inr h
  rcases List.mem_cons.1 h with h | h
  ·exact .inl h
  exact .inr h
 unfold iJ at h;simp only at h;split at h
 ·exact h1 c (List.dropLast_subset _ h)
 exact h1 c h
theorem aFk (s:ByteArray) (h:asc s):asc ⟨(iJ (L s)).toArray⟩:=by
 intro j c hc
 have hm:c∈iJ (L s):=by
  have:(⟨(iJ (L s)).toArray⟩:ByteArray).data.toList=iJ (L s):=by simp
  rw[this] at hc;exact List.mem_of_getElem? hc
 rcases mem_mText _ _ hm with h1 | h1
 ·rw[h1];decide
 obtain ⟨k,hk⟩:=List.mem_iff_getElem?.1 h1;exact h k c hk
end Go.Proofs.YtbkobfoaphcamaaGreatDoor.Path
namespace Go.Proofs.YtbkobfoaphcamaaGreatDoor.Path
open Go.RowKit Go.Proofs.YtbkobfoaphcamaaGreatDoorW.PrintWords Go.Proofs.YtbkobfoaphcamaaGreatDoor.Base
def gJ:eQ where
 s:=⟨#[]⟩
 cLow:=-1
 cHigh:=-1
 sec:=-1
 comp:=⟨#[]⟩
 typ:=0
 known:=[]
 unknown:=[]
 lang:=-1
 fmt:=-1
 kind:=-1
 lay:=-1
 base:=-1
 cust:=-1
 plangs:=[]
 pfmt:=-1
 pkind:=-1
 play:=-1
 nLow:=0
 nHigh:=0
 nEnd:=-1
 dis:=false
 trim:=false
theorem Row.eq {w:World} {b:Nat} {cs cs' : List Value} (R:Row w b cs) (h:cs=cs'):Row w b cs':=h▸R
section
variable {w:World} {b:Nat} {p:eQ} {vu u:Value}
set_option maxRecDepth 100000 in
set_option maxHeartbeats 1600000 in
theorem aDs {A A2:Option Addr} {n c n2 c2:Nat} (R:Row w b (cells p (.slice A n c) vu (.slice A2 n2 c2) u)) :
 Calls Tryz.prog 125 #[.pointer (some ⟨b,0,none⟩)] w fun e w'=>e = .returned (.tuple #[])∧Row w' b (cells gJ (.slice A 0 c) vu (.slice A2 0 c2) (.pointer none))∧Below b w w':=by
 have r0:=R.at 0 _ rfl;have f0:=R.free 0 bG;have r1:=R.at 1 _ rfl;have f1:=R.free 1 bG;have r2:=R.at 2 _ rfl;have f2:=R.free 2 bG;have r3:=R.at 3 _ rfl;have f3:=R.free 3 bG;have r4:=R.at 4 _ rfl;have f4:=R.free 4 bG;have r5:=R.at 5 _ rfl;have f5:=R.free 5 bG;have r6:=R.at 6 _ rfl;have f6:=R.free 6 bG;have r8:=R.at 8 _ rfl;have f8:=R.free 8 bG;have r9:=R.at 9 _ rfl;have f9:=R.free 9 bG;have r10:=R.at 10 _ rfl;have f10:=R.free 10 bG;have r11:=R.at 11 _ rfl;have f11:=R.free 11 bG;have r12:=R.at 12 _ rfl;have f12:=R.free 12 bG;have r13:=R.at 13 _ rfl;have f13:=R.free 13 bG;have r14:=R.at 14 _ rfl;have f14:=R.free 14 bG
 have r15:=R.at 15 _ rfl;have f15:=R.free 15 bG;have r16:=R.at 16 _ rfl;have f16:=R.free 16 bG;have r17:=R.at 17 _ rfl;have f17:=R.free 17 bG;have r18:=R.at 18 _ rfl;have f18:=R.free 18 bG;have r19:=R.at 19 _ rfl;have f19:=R.free 19 bG;have r20:=R.at 20 _ rfl;have f20:=R.free 20 bG;have r21:=R.at 21 _ rfl;have f21:=R.free 21 bG;have r22:=R.at 22 _ rfl;have f22:=R.free 22 bG;have r23:=R.at 23 _ rfl;have f23:=R.free 23 bG;have r24:=R.at 24 _ rfl;have f24:=R.free 24 bG;have r25:=R.at 25 _ rfl;have f25:=R.free 25 bG;have HR:=cD R;clear R;go_enter Tryz.func125,Tryz.ntmps125;go_wp2_with fail
 refine ⟨rfl,.tuple #[],by simp[results,Tryz.results125],rfl,Row.eq (((((((((((((((((((((((((HR.out.set 0 (.string ⟨#[]⟩) bG).set 1 (.int .i64 (-1)) bG).set 2 (.int .i64 (-1)) bG).set 3 (.int .i64 (-1)) bG).set 4 (.string ⟨#[]⟩) bG).set 5 (.int .i64 0) bG).set 6 (.slice A 0 c) bG).set 8 (.int .i64 (-1)) bG).set 9 (.int .i64 (-1)) bG).set 10 (.int .i64 (-1)) bG).set 11 (.int .i64 (-1)) bG).set 12 (.int .i64 (-1)) bG).set 13 (.int .i64 (-1)) bG).set 14 (.slice A2 0 c2) bG).set 15 (.slice none 0 0) bG).set 16 (.slice none 0 0) bG).set 17 (.int .i64 (-1)) bG).set 18 (.int .i64 (-1)) bG).set 19 (.int .i64 (-1)) bG).set 20 (.int .i64 0) bG).set 21 (.int .i64 0) bG).set 22 (.int .i64 (-1)) bG).set 23 (.bool false) bG).set 24 (.bool false) bG).set 25 (.pointer none) bG) bB,?_⟩
 exact ((((((((((((((((((((((((((Below.refl b w).setCell (p:=⟨b,0,none⟩) (Nat.le_refl _) _).setCell (p:=⟨b,1,none⟩) (Nat.le_refl _) _).setCell (p:=⟨b,2,none⟩) (Nat.le_refl _) _).setCell (p:=⟨b,3,none⟩) (Nat.le_refl _) _).setCell (p:=⟨b,4,none⟩) (Nat.le_refl _) _).setCell (p:=⟨b,5,none⟩) (Nat.le_refl _) _).setCell (p:=⟨b,6,none⟩) (Nat.le_refl _) _).setCell (p:=⟨b,8,none⟩) (Nat.le_refl _) _).setCell (p:=⟨b,9,none⟩) (Nat.le_refl _) _).setCell (p:=⟨b,10,none⟩) (Nat.le_refl _) _).setCell (p:=⟨b,11,none⟩) (Nat.le_refl _) _).setCell (p:=⟨b,12,none⟩) (Nat.le_refl _) _).setCell (p:=⟨b,13,none⟩) (Nat.le_refl _) _).setCell (p:=⟨b,14,none⟩) (Nat.le_refl _) _).setCell (p:=⟨b,15,none⟩) (Nat.le_refl _) _).setCell (p:=⟨b,16,none⟩) (Nat.le_refl _) _).setCell (p:=⟨b,17,none⟩) (Nat.le_refl _) _).setCell (p:=⟨b,18,none⟩) (Nat.le_refl _) _).setCell (p:=⟨b,19,none⟩) (Nat.le_refl _) _).setCell (p:=⟨b,20,none⟩) (Nat.le_refl _) _).setCell (p:=⟨b,21,none⟩) (Nat.le_refl _) _).setCell (p:=⟨b,22,none⟩) (Nat.le_refl _) _).setCell (p:=⟨b,23,none⟩) (Nat.le_refl _) _).setCell (p:=⟨b,24,none⟩) (Nat.le_refl _) _).setCell (p:=⟨b,25,none⟩) (Nat.le_refl _) _)
theorem eP.fresh {w:World} {b:Nat} {p:eQ} (R:Row w b (cells p (.slice none 0 0) (.slice none 0 0) (.slice none 0 0) u)) (h1:p.known=[]) (h2:p.unknown=[]) (h3:p.plangs=[]):eP w b b p (.slice none 0 0) (.slice none 0 0) (.slice none 0 0) u:=by
 refine ⟨Nat.le_refl _,R,?_,?_,?_,(fun h=>by cases h),(fun h=>by cases h),(fun h=>by cases h),.inl rfl⟩
 ·rw[h1];exact ⟨rfl,.inl ⟨rfl,rfl⟩⟩
 ·rw[h2];exact ⟨rfl,.inl ⟨rfl,rfl⟩⟩
 rw[h3];exact ⟨rfl,.inl ⟨rfl,rfl⟩⟩
def zeroCells:List Value:=cells { gJ with cLow:=0,cHigh:=0,sec:=0,lang:=0,fmt:=0,kind:=0,lay:=0,base:=0,cust:=0,pfmt:=0,pkind:=0,play:=0,nEnd:=0 } (.slice none 0 0) (.slice none 0 0) (.slice none 0 0) (.pointer none)
set_option maxRecDepth 100000 in
set_option maxHeartbeats 1600000 in
theorem tW (w:World) (v:Value) (comp:ByteArray):Calls Tryz.prog 107 #[v,.string comp] w fun e w'=>e = .returned (.pointer (some ⟨w.heap.size,0,none⟩))∧eP w' w.heap.size w.heap.size { gJ with comp:=comp } (.slice none 0 0) (.slice none 0 0) (.slice none 0 0) (.pointer none)∧Below w.heap.size w w':=by
 have hR:=Row.new w zeroCells 86;have hB:Below w.heap.size w (w.alloc (.cells zeroCells.toArray 86)):=(Below.refl _ _).alloc (Nat.le_refl _) _;have hs:w.heap.size < (w.alloc (.cells zeroCells.toArray 86)).heap.size:=by simp
 simp only[zeroCells,cells,gJ] at hR hB hs;go_enter Tryz.func107,Tryz.ntmps107;go_wp2_with fail
 refine (aDs (p:={ gJ with cLow:=0,cHigh:=0,sec:=0,lang:=0,fmt:=0,kind:=0,lay:=0,base:=0,cust:=0,pfmt:=0,pkind:=0,play:=0,nEnd:=0 }) (A:=none) (A2:=none) (n:=0) (c:=0) (n2:=0) (c2:=0) hR).mono ?_;rintro e w' ⟨rfl,hr,hb⟩;have HB:=cD (hB.trans hb);have h4:=hr.at 4 _ rfl;have f4:=hr.free 4 bG;have HR:=cD hr;clear hR hB hs hr hb;go_wp2_with fail
 go_ret;refine ⟨rfl,eP.fresh (Row.eq (HR.out.set 4 (.string comp) bG) bB) rfl rfl rfl,HB.out.setCell (Nat.le_refl _) _⟩
end
end Go.Proofs.YtbkobfoaphcamaaGreatDoor.Path
