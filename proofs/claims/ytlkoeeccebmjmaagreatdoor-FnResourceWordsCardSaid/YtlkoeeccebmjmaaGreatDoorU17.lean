/- Texts that the law leans on: SFns, Words0, Ans0, Slashes, Spec4, Ans1, Ans3. Condition: as told at each. -/
import Derived.Test.YtlkoeeccebmjmaaGreatDoorUa
import Derived.Test.YtlkoeeccebmjmaaGreatDoorU16
set_option linter.unusedVariables false
set_option linter.unusedSimpArgs false
set_option maxRecDepth 100000
set_option maxHeartbeats 16000000
namespace Go.Proofs.YtlkoeeccebmjmaaGreatDoor.Path
open Go.RowKit Go.ZW.PrintWords Go.Proofs.YtlkoeeccebmjmaaGreatDoor.Base Go.Proofs.YtlkoeeccebmjmaaGreatDoor.Total Go.Proofs.YtlkoeeccebmjmaaGreatDoor.Ext Go.Proofs.YtlkoeeccebmjmaaGreatDoor.Lower Go.Proofs.YtlkoeeccebmjmaaGreatDoor.PCore
theorem aBy {α:Type} (F:Nat→Nat→Option Bool) (p:α→Bool) (l:List α) (hend:∀ k,F (k+1) l.length=some false) (hhit:∀ (j:Nat) (h:j < l.length),p l[j]=true→∀ k,F (k+1) j=some true) (hmiss:∀ (j:Nat) (h:j < l.length),p l[j]=false→∀ k,F (k+1) j=F k (j+1)):∀ (n j:Nat),l.length - j=n→j≤l.length→Ev (fun k=>F k j) ((l.drop j).any p):=by
 intro n
 induction n with
 | zero =>
  intro j h1 h2;obtain rfl:j=l.length:=by omega
  rw[List.drop_length];exact Ev.step (f:=fun _=>some false) (fun k=>hend k) (Ev.now _)
 | succ n ih =>
  intro j h1 h2;have hi:j < l.length:=by omega
  rw[List.drop_eq_getElem_cons hi,List.any_cons]
  cases c:p l[j] with
  | true =>
   rw[Bool.true_or];exact Ev.step (f:=fun _=>some true) (fun k=>hhit j hi c k) (Ev.now _)
  | false =>
   rw[Bool.false_or];exact Ev.step (fun k=>hmiss j hi c k) (ih (j+1) bA bA)
theorem aBx (l:List ByteArray) (s:ByteArray) (hl:l.length≤1000000):Ev (fun k=>fG.f k l s) (listed l s):=by
 refine aBy (fun k j=>fG.l0 k l s (j:Int)) (fun x=>x.toList==s.toList) l (fun k=>?_) (fun j h c k=>?_) (fun j h c k=>?_) l.length 0 bA bA
 ·simp only[fG.l0];rw[if_neg bA]
 ·simp only[fG.l0];rw[if_pos bA,if_pos bA,oG _ _ _ h,if_pos (beq_iff_eq.1 c)]
 simp only[fG.l0];rw[if_pos bA,if_pos bA,oG _ _ _ h,if_neg (by simpa using c),w64 bA bA];rfl
theorem aB1 (st:fM) (s:ByteArray) (hl:st.fmts.length≤1000000):Ev (fun k=>fO.f k (st.fmts.map mkF) s) (gZ st s):=by
 have e:gZ st s=(st.fmts.map mkF).any fun x=>x.f0.toList==s.toList:=by unfold gZ;rw[List.any_map];rfl
 have hl' : (st.fmts.map mkF).length≤1000000:=by rw[List.length_map];exact hl
 rw[e];generalize st.fmts.map mkF=l at hl';refine aBy (fun k j=>fO.l0 k l s (j:Int)) (fun x=>x.f0.toList==s.toList) l (fun k=>?_) (fun j h c k=>?_) (fun j h c k=>?_) l.length 0 bA bA
 ·simp only[fO.l0];rw[if_neg bA]
 ·simp only[fO.l0];rw[if_pos bA,if_pos bA,oF _ _ h,if_pos (beq_iff_eq.1 c)]
 simp only[fO.l0];rw[if_pos bA,if_pos bA,oF _ _ h,if_neg (by simpa using c),w64 bA bA];rfl
theorem aF6 (st:fM) (s e:ByteArray) (hl:st.fmts.length≤1000000):Ev (fun k=>fK.f k (st.fmts.map mkF) s e) (jU st s e):=by
 have he:jU st s e=(st.fmts.map mkF).any fun x=>x.f0.toList==s.toList && x.f1.toList==e.toList:=by unfold jU;rw[List.any_map];rfl
 have hl' : (st.fmts.map mkF).length≤1000000:=by rw[List.length_map];exact hl
 rw[he];generalize st.fmts.map mkF=l at hl';refine aBy (fun k j=>fK.l0 k l s e (j:Int)) (fun x=>x.f0.toList==s.toList && x.f1.toList==e.toList) l (fun k=>?_) (fun j h c k=>?_) (fun j h c k=>?_) l.length 0 bA bA
 ·simp only[fK.l0];rw[if_neg bA]
 ·simp only[Bool.and_eq_true,beq_iff_eq] at c;simp only[fK.l0];rw[if_pos bA,if_pos bA,oF _ _ h,if_pos c.1,if_pos c.2]
 simp only[fK.l0];rw[if_pos bA,if_pos bA,oF _ _ h]
 by_cases c1:l[j].f0.toList=s.toList
 ·have c2:¬ l[j].f1.toList=e.toList:=by intro h2;rw[c1,h2] at c;simp at c
  rw[if_pos c1,if_neg c2,w64 bA bA];rfl
 rw[if_neg c1,w64 bA bA];rfl
theorem aAr (s t:ByteArray):iN.f s t=some ((L t).isPrefixOf (L s)):=by
 unfold iN.f
 have e:∀ r:Bool,(r=true↔(L t) <+: (L s))→(L t).isPrefixOf (L s)=r:=by
  intro r h;rw[Bool.eq_iff_iff,List.isPrefixOf_iff_prefix,h]
 by_cases c:(s.size:Int)≥(t.size:Int)
 ·rw[if_pos c,if_pos bA,if_pos bA];refine congrArg some (e _ ?_).symm;rw[L_toList,L_toList,eR,beq_iff_eq,Int.toNat_natCast,List.drop_zero,Nat.sub_zero,← eF];exact ⟨fun h=>h▸List.take_prefix _ _,fun h=>(List.prefix_iff_eq_take.1 h).symm⟩
 rw[if_neg c];refine congrArg some (e _ ?_).symm;refine ⟨(fun h=>by cases h),fun h=>?_⟩;have:=h.length_le;rw[eF,eF] at this;omega
theorem yK (s:ByteArray) (hs:s.size≤4000000000):iM.f s=some (low s):=by unfold iM.f;rw[if_pos bA]
theorem aE6 (s:ByteArray) (hs:s.size≤1000000):iM.f s=some (low s):=yK s bA
theorem aGp (x pre:ByteArray) (hx:x.size≤1000000):nY.f x pre=some (if gU x pre=true then gX x pre else ⟨#[]⟩,gU x pre):=by
 unfold nY.f;rw[aE6 x hx,Option.bind_some,aAr,Option.bind_some];have e:(L pre).isPrefixOf (L (low x))=gU x pre:=rfl;rw[e]
 cases h:gU x pre with
 | false=>rfl
 | true =>
  have:=(List.isPrefixOf_iff_prefix.1 (e.trans h)).length_le;rw[eF,eF,pX] at this;rw[if_pos rfl,if_pos bA,if_pos bA,if_pos rfl];rfl
theorem aDj (s:ByteArray) (hs:s.size≤4000000000):kX.f s=some (isKind s):=by
 unfold kX.f;rw[yK s hs,Option.bind_some,L_toList,← oH];show _=some (oM (Lib.toLowerA (L s)));generalize Lib.toLowerA (L s)=l;unfold oM
 by_cases c1:l=[104,111,109,101]
 ·subst c1;rfl
 by_cases c2:l=[112,97,103,101]
 ·subst c2;rfl
 by_cases c3:l=[115,101,99,116,105,111,110]
 ·subst c3;rfl
 by_cases c4:l=[116,97,120,111,110,111,109,121]
 ·subst c4;rfl
 by_cases c5:l=[116,101,114,109]
 ·subst c5;rfl
 rw[if_neg c1,if_neg c2,if_neg c3,if_neg c4,if_neg c5,beq_eq_false_iff_ne.2 c1,beq_eq_false_iff_ne.2 c2,beq_eq_false_iff_ne.2 c3,beq_eq_false_iff_ne.2 c4,beq_eq_false_iff_ne.2 c5]
 simp
theorem aC8 (a b:ByteArray):nX.f a b=some (chooseB a b):=by
 unfold nX.f chooseB
 by_cases c:a=⟨#[]⟩
 ·subst c;rw[if_pos rfl,if_pos (by rw[L_toList];rfl)]
 rw[if_neg c,if_neg (fun h=>c (L_inj (by rw[← L_toList,h];rfl)))]
theorem aF8 (s t:ByteArray) (hs:s.size≤1000000) (ht:t.size≤1000000):∀ (g i:Nat),s.size+1 - i≤g→i≤s.size+1→Ev (fun k=>fN.l0 k s t (i:Int)) (xJ (L s) (L t) g i):=by
 have hl:=eF s;have hlt:=eF t;intro g
 induction g with
 | zero =>
  intro i h1 h2;refine Ev.step (f:=fun _=>some false) (fun k=>?_) (Ev.now _);simp only[fN.l0];rw[if_neg (by rw[w64 bA bA];omega)]
 | succ g ih =>
  intro i h1 h2;unfold xJ
  by_cases c:s.size < i+t.size
  ·rw[if_pos bA];refine Ev.step (f:=fun _=>some false) (fun k=>?_) (Ev.now _);simp only[fN.l0];rw[if_neg (by rw[w64 bA bA];omega)]
  rw[if_neg bA];have hx:(s.extract i (i+t.size)).toList=((L s).drop i).take (L t).length:=by rw[L_toList,eR,hlt];congr 1;omega
  by_cases h:((L s).drop i).take (L t).length=L t
  ·rw[h,beq_self_eq_true,Bool.true_or];refine Ev.step (f:=fun _=>some true) (fun k=>?_) (Ev.now _);simp only[fN.l0];rw[w64 (n:=(i:Int)+t.size) bA bA,if_pos bA,if_pos bA,if_pos bA,if_pos ?_];rw[Int.toNat_natCast,show ((i:Int)+(t.size:Int)).toNat=i+t.size by omega,hx,h,L_toList]
  have:(((L s).drop i).take (L t).length==L t)=false:=by simpa using h
  rw[this,Bool.false_or];refine Ev.step (fun k=>?_) (ih (i+1) bA bA);simp only[fN.l0];rw[w64 (n:=(i:Int)+t.size) bA bA,if_pos bA,if_pos bA,if_pos bA,if_neg ?_,w64 bA bA]
  ·rfl
  rw[Int.toNat_natCast,show ((i:Int)+(t.size:Int)).toNat=i+t.size by omega,hx,L_toList];exact h
structure xC (st:fM):Prop where
 l:st.langs.length≤1000000
 d:st.dis.length≤1000000
 f:st.fmts.length≤1000000
 c:st.cont.length≤1000000
 lz:∀ x∈st.langs,x.size≤1000000
 dz:∀ x∈st.dis,x.size≤1000000
 cz:∀ x∈st.cont,x.size≤1000000
structure mG (w:World) (st:fM) (vl vd vf vc:Value):Prop where
 l:fA w 0 vl st.langs
 d:fA w 0 vd st.dis
 f:mV w 0 vf st.fmts
 c:fA w 0 vc st.cont
theorem mG.below {w w' : World} {st:fM} {vl vd vf vc:Value} (H:mG w st vl vd vf vc) (hb:Below w.heap.size w w'):mG w' st vl vd vf vc:=⟨H.l.below hb,H.d.below hb,H.f.below hb,H.c.below hb⟩
section
variable {w:World}
theorem nW {v:Value} {l:List ByteArray} (H:fA w 0 v l) (hl:l.length≤1000000) (s:ByteArray):Calls Tryz.prog 120 #[v,.string s] w fun e w'=>e = .returned (.bool (listed l s))∧Below w.heap.size w w':=by
 obtain ⟨k,hk⟩:=(aBx l s hl).rounds;obtain ⟨A0,c0,rfl,h0,r0⟩:=H.kd bA
 exact (fG.calls k A0 c0 l s _ w r0 h0 hk).mono fun _ _ ⟨h1,h2⟩=>⟨h1,h2.below⟩
theorem aDy {v:Value} {st:fM} (H:mV w 0 v st.fmts) (hl:st.fmts.length≤1000000) (s:ByteArray):Calls Tryz.prog 116 #[v,.string s] w fun e w'=>e = .returned (.bool (gZ st s))∧Below w.heap.size w w':=by
 obtain ⟨k,hk⟩:=(aB1 st s hl).rounds;obtain ⟨A0,c0,rfl,h0,r0⟩:=H.kd bA
 exact (fO.calls k A0 c0 _ s _ w r0 h0 hk).mono fun _ _ ⟨h1,h2⟩=>⟨h1,h2.below⟩
theorem aBm {v:Value} {st:fM} (H:mV w 0 v st.fmts) (hl:st.fmts.length≤1000000) (s e:ByteArray):Calls Tryz.prog 140 #[v,.string s,.string e] w fun x w'=>x = .returned (.bool (jU st s e))∧Below w.heap.size w w':=by
 obtain ⟨k,hk⟩:=(aF6 st s e hl).rounds;obtain ⟨A0,c0,rfl,h0,r0⟩:=H.kd bA
 exact (fK.calls k A0 c0 _ s e _ w r0 h0 hk).mono fun _ _ ⟨h1,h2⟩=>⟨h1,h2.below⟩
theorem aCy (s t:ByteArray) (w:World):Calls Tryz.prog 122 #[.string s,.string t] w fun e w'=>e = .returned (.bool ((L t).isPrefixOf (L s)))∧Below w.heap.size w w' :=
 (iN.calls s t _ w (aAr s t)).mono fun _ _ ⟨h1,h2⟩=>⟨h1,h2.below⟩
theorem pT (x pre:ByteArray) (hx:x.size≤1000000) (w:World):Calls Tryz.prog 138 #[.string x,.string pre] w fun e w'=>e = .returned (.tuple #[.string (if gU x pre=true then gX x pre else ⟨#[]⟩),.bool (gU x pre)])∧Below w.heap.size w w' :=
 nY.calls x pre _ _ w (aGp x pre hx)
theorem vO (x:ByteArray) (hx:x.size≤1000000) (w:World):Calls Tryz.prog 123 #[.string x] w fun e w'=>e = .returned (.string (low x))∧Below w.heap.size w w':=lower_calls x w bA
theorem uY (x:ByteArray) (hx:x.size≤1000000) (w:World):Calls Tryz.prog 139 #[.string x] w fun e w'=>e = .returned (.bool (isKind x))∧Below w.heap.size w w' :=
 kX.calls x _ w (aDj x bA)
theorem rN (a b:ByteArray) (w:World):Calls Tryz.prog 115 #[.string a,.string b] w fun e w'=>e = .returned (.string (chooseB a b))∧Below w.heap.size w w' :=
 (nX.calls a b _ w (aC8 a b)).mono fun _ _ ⟨h1,h2⟩=>⟨h1,h2.below⟩
theorem rS (s t:ByteArray) (hs:s.size≤1000000) (ht:t.size≤1000000) (w:World):Calls Tryz.prog 57 #[.string s,.string t] w fun e w'=>e = .returned (.bool (fC (L s) (L t)))∧Below w.heap.size w w':=by
 have h:=aF8 s t hs ht (s.size+1) 0 bA bA;obtain ⟨k,hk⟩:=h.rounds
 exact (fN.calls k s t _ w (by unfold fC;rw[eF];exact hk)).mono fun _ _ ⟨h1,h2⟩=>⟨h1,h2.below⟩
theorem aH8 {v:Value} {l:List ByteArray} (H:fA w 0 v l) (hl:l.length≤1000000) (s:ByteArray):Calls Tryz.prog 120 #[v,.string s] w fun e w'=>e = .returned (.bool (listed l s))∧∃ m,w'=w.drewN m:=by
 obtain ⟨k,hk⟩:=(aBx l s hl).rounds;obtain ⟨A0,c0,rfl,h0,r0⟩:=H.kd bA
 exact (fG.calls k A0 c0 l s _ w r0 h0 hk).mono fun _ _ ⟨h1,h2⟩=>⟨h1,h2.out⟩
theorem aIk {v:Value} {st:fM} (H:mV w 0 v st.fmts) (hl:st.fmts.length≤1000000) (s:ByteArray):Calls Tryz.prog 116 #[v,.string s] w fun e w'=>e = .returned (.bool (gZ st s))∧∃ m,w'=w.drewN m:=by
 obtain ⟨k,hk⟩:=(aB1 st s hl).rounds;obtain ⟨A0,c0,rfl,h0,r0⟩:=H.kd bA
 exact (fO.calls k A0 c0 _ s _ w r0 h0 hk).mono fun _ _ ⟨h1,h2⟩=>⟨h1,h2.out⟩
theorem aBb (s:ByteArray) (hs:s.size≤1000000) (w:World):Calls Tryz.prog 111 #[.string s] w fun e w'=>∃ x,e = .returned (.tuple #[.string x,.bool (iI (L s))])∧(iI (L s)=true→x=fR s)∧x.size≤s.size∧Below w.heap.size w w':=by
 obtain ⟨x,h1,h2,h3⟩:=tS s hs;refine (jR.calls s x _ w h1).mono ?_;rintro e w' ⟨rfl,hb⟩;refine ⟨x,rfl,fun h=>L_inj ?_,h3,hb.below⟩;rw[h2 h];unfold inner fR;rw[eR,eF];congr 1
end
open Go.RowKit Go.ZW.PrintWords Go.Proofs.YtlkoeeccebmjmaaGreatDoor.Base Go.Proofs.YtlkoeeccebmjmaaGreatDoor.Total Go.Proofs.YtlkoeeccebmjmaaGreatDoor.Lower
structure oX (r:RV) (k:Nat):Prop where
 ids:r.ids.length≤k
 unk:r.unk.length≤k
 langs:r.langs.length≤k
 marks:r.marks.length≤k
 lay:r.layAt < (r.ids.length:Int)
theorem oX.zero:oX lA 0:=⟨Nat.le_refl _,Nat.le_refl _,Nat.le_refl _,Nat.le_refl _,by decide⟩
theorem oX.word {r:RV} {k:Nat} (h:oX r k) (st:fM) (comp:ByteArray) (sc:Bool) (pts:Nat) (w:ByteArray) (m:Int):oX (mC st comp sc pts r w m) (k+1):=by
 obtain ⟨h1,h2,h3,h4,h5⟩:=h;unfold mC oY lW jK jL RV.id
 repeat' split
 all_goals
  refine ⟨?_,?_,?_,?_,?_⟩ <;> simp only[List.length_append,List.length_singleton,List.length_set] <;> omega
section
variable (st:fM) (comp:ByteArray) (sc:Bool) (name:ByteArray) (cuts:List Nat)
def dK (k:Nat):RV×Nat:=(cuts.reverse.take k).foldl (nG st comp sc cuts.length name) (lA,name.size)
theorem zI:dK st comp sc name cuts 0=(lA,name.size):=rfl
theorem rC (k:Nat) (h:k < cuts.length):dK st comp sc name cuts (k+1)=nG st comp sc cuts.length name (dK st comp sc name cuts k) (cuts[cuts.length - 1 - k]' bA):=by
 unfold dK;rw[List.take_succ_eq_append_getElem (by rw[List.length_reverse];exact h),List.foldl_append,List.getElem_reverse];rfl
theorem aBq (k:Nat) (h:k < cuts.length):(dK st comp sc name cuts (k+1)).2=cuts[cuts.length - 1 - k]' bA:=by
 rw[rC _ _ _ _ _ k h];rfl
theorem tC:∀ k,k≤cuts.length→oX (dK st comp sc name cuts k).1 k
 | 0,_=>oX.zero
 | k+1,h=>by
  rw[rC _ _ _ _ _ k bA];exact (tC k bA).word ..
theorem aHk (r:RV) (pts:Nat) (w:ByteArray) (m:Int):(mC st comp sc pts r w m).ids≠[]:=by
 unfold mC;split
 ·simp[oY,RV.id]
 exact aFg (by assumption) pts w m
theorem aEu (k:Nat) (h0:0 < k) (h:k≤cuts.length):(dK st comp sc name cuts k).1.ids≠[]:=by
 obtain ⟨j,rfl⟩:∃ j,k=j+1:=⟨k - 1,aR⟩
 rw[rC _ _ _ _ _ j bA];show (mC _ _ _ _ _ _ _).ids≠[];apply aHk
theorem tD (h:cuts≠[]):gL st comp sc name cuts=mC st comp sc cuts.length (dK st comp sc name cuts cuts.length).1 (name.extract 0 (dK st comp sc name cuts cuts.length).2) (-1):=by
 unfold gL dK;rw[if_neg h,List.take_of_length_le (by rw[List.length_reverse];exact Nat.le_refl _)]
theorem aJc (hup:cuts.Pairwise (· < ·)) (hlt:∀ c∈cuts,c < name.size) (k:Nat) (h:k < cuts.length):cuts[cuts.length - 1 - k]' bA+1≤(dK st comp sc name cuts k).2∧(dK st comp sc name cuts k).2≤name.size:=by
 cases k with
 | zero=>exact ⟨hlt _ (List.getElem_mem _),Nat.le_refl _⟩
 | succ k =>
  rw[aBq _ _ _ _ _ k bA];refine ⟨?_,Nat.le_of_lt (hlt _ (List.getElem_mem _))⟩;exact List.pairwise_iff_getElem.1 hup _ _ _ _ bA
theorem aIc (hlt:∀ c∈cuts,c < name.size) (h:cuts≠[]):(dK st comp sc name cuts cuts.length).2≤name.size:=by
 obtain ⟨j,hj⟩:∃ j,cuts.length=j+1:=⟨cuts.length - 1,by have:=List.length_pos_iff.2 h;omega⟩
 rw[hj,aBq _ _ _ _ _ j bA];exact Nat.le_of_lt (hlt _ (List.getElem_mem _))
end
theorem aGl (m:List Int) (N:Int) (k:Nat) (h:k < m.length):kH (m.take (k+1)) N=if 0≤m[k]∧m[k] < kH (m.take k) N then m[k] else kH (m.take k) N:=by
 rw[List.take_succ_eq_append_getElem h,xP]
theorem aEh (m:List Int) (N:Nat):0≤kH m (N:Int)∧kH m (N:Int)≤(N:Int):=by
 have:∀ (l:List Int) (e:Int),0≤e→e≤(N:Int)→0≤l.foldl (fun e m=>if 0≤m∧m < e then m else e) e∧l.foldl (fun e m=>if 0≤m∧m < e then m else e) e≤(N:Int):=by
  intro l
  induction l with
  | nil=>intro e h1 h2;exact ⟨h1,h2⟩
  | cons a l ih =>
   intro e h1 h2;rw[List.foldl_cons];split
   ·exact ih _ bA bA
   exact ih _ h1 h2
 exact this m N bA bA
structure pV (x:WV):Prop where
 path:x.path.size≤1000000
 head:(L x.path)[0]? = some 47
 name:x.name.size≤x.path.size
 nEnd:x.nEnd≤x.name.size
 ext:x.ids≠[]→x.ext.size+1≤x.name.size
 extz:x.ext.size≤1000000
 ids:x.ids.length≤2000000
 unk:x.unk.length≤2000000
 langs:x.langs.length≤2000000
def slI (l:List UInt8) (n:Nat):Int:=match slB l n with | some j=>(j:Int) | none=>-1
theorem aDg (p:ByteArray) (hp:p.size≤1000000):∀ n:Nat,n≤p.size→Ev (fun k=>eU.l0 k p ((n:Int) - 1)) (slI (L p) n):=by
 have hl:=eF p;intro n
 induction n with
 | zero =>
  intro _;refine Ev.step (f:=fun _=>some (-1)) (fun k=>?_) (Ev.now _);simp only[eU.l0];rw[if_neg bA]
 | succ n ih =>
  intro h;have hn:n < (L p).length:=by omega
  have hb:=sR p n hn;have e:((n+1:Nat):Int) - 1=(n:Int):=by omega
  rw[e];unfold slI slB
  by_cases c:(L p)[n]=47
  ·rw[if_pos (by rw[List.getElem?_eq_getElem hn,c])];refine Ev.step (f:=fun _=>some (n:Int)) (fun k=>?_) (Ev.now _);simp only[eU.l0];rw[if_pos bA,if_pos bA,if_pos bA,if_pos (by rw[hb];exact (tW _ 47 bG).2 c)]
  rw[if_neg (by rw[List.getElem?_eq_getElem hn];intro h2;injection h2 with h2;exact c h2)];refine Ev.step (fun k=>?_) (ih bA);simp only[eU.l0];rw[if_pos bA,if_pos bA,if_pos bA,if_neg (by rw[hb];exact fun h2=>c ((tW _ 47 bG).1 h2)),w64 bA bA]
theorem xG (p:ByteArray) (hp:p.size≤1000000):Ev (fun k=>eU.f k p (p.size:Int)) (slI (L p) p.size):=by
 refine Ev.congr (fun k=>?_) (aDg p hp p.size (Nat.le_refl _));unfold eU.f;rw[w64 bA bA]
theorem vN (l:List UInt8):∀ (n j:Nat),slB l n=some j→j < n
 | 0,j,h=>by cases h
 | n+1,j,h=>by
  unfold slB at h;split at h
  ·injection h with h;omega
  have:=vN l n j h;omega
theorem aBz (p:ByteArray) (hp:p.size≤1000000):Ev (fun k=>kJ.f k p) (iB p):=by
 unfold kJ.f;refine Ev.bind (xG p hp) ?_;unfold iB slI
 cases h:slB (L p) p.size with
 | none=>dsimp only;exact Ev.congr (fun k=>by rw[if_pos bA]) (Ev.now _)
 | some j =>
  have:=vN _ _ _ h
  cases j with
  | zero=>dsimp only;exact Ev.congr (fun k=>by rw[if_pos bA]) (Ev.now _)
  | succ a=>dsimp only;exact Ev.congr (fun k=>by rw[if_neg bA,if_pos bA,if_pos bA];rfl) (Ev.now _)
theorem zK (p:ByteArray) (hp:p.size≤1000000) (h0:(L p)[0]? = some 47):Ev (fun k=>jE.f k p) (jB p):=by
 unfold jE.f;refine Ev.bind (xG p hp) ?_;unfold jB slI
 cases h:slB (L p) p.size with
 | none=>dsimp only;exact Ev.congr (fun k=>by rw[if_pos bA]) (Ev.now _)
 | some j =>
  have hj:=vN _ _ _ h
  cases j with
  | zero=>dsimp only;exact Ev.congr (fun k=>by rw[if_pos bA]) (Ev.now _)
  | succ a =>
   dsimp only
   have hz:(p.extract 0 (a+1)).size≤1000000:=by rw[ByteArray.size_extract];omega
   obtain ⟨r,hr,h1,_,_⟩:=oZ (p.extract 0 (a+1)) hz ⟨0,by rw[eR,List.drop_zero,List.getElem?_take_of_lt bA];exact h0⟩;have:r=lastB (p.extract 0 (a+1)):=L_inj (h1.trans (kD _).symm);subst this;refine Ev.congr (fun k=>?_) (Ev.bind hr (Ev.now _));rw[if_neg bA,if_pos bA,if_pos bA];rfl
theorem tZ (t:Int):iF.f t=some (jM t):=by
 unfold iF.f jM
 by_cases c:3≤t
 ·rw[if_pos c];congr 1;exact decide_eq_decide.2 ⟨fun h=>⟨c,h⟩,fun h=>h.2⟩
 rw[if_neg c];congr 1;exact (decide_eq_false (fun h=>c h.1)).symm
section
variable {x:WV} (O:pV x)
include O
theorem aAc:lQ.f x.comp x.path x.name (x.nEnd:Int) x.ids x.unk x.langs x.ext x.fmt x.kind x.lay x.lang x.cust x.dis x.typ=some (rB x):=by
 have:=O.name;have:=O.path;unfold lQ.f rB;rw[w64 bA bA,if_pos bA,if_pos bA];congr 2;omega
omit O in
theorem head_size (x:WV):(rB x).size≤x.path.size:=by unfold rB;rw[ByteArray.size_extract];omega
theorem aAk:gE.f x.comp x.path x.name (x.nEnd:Int) x.ids x.unk x.langs x.ext x.fmt x.kind x.lay x.lang x.cust x.dis x.typ=some (kK x):=by
 have h1:=O.name;have h2:=O.path;have h3:=O.nEnd;have h4:=head_size x;unfold gE.f kK
 by_cases c:x.ids=[]
 ·rw[if_pos (by rw[c];rfl),if_pos c]
 rw[if_neg (by intro h;exact c (List.eq_nil_of_length_eq_zero bA)),if_neg c,aAc O,Option.bind_some,if_pos bA,if_pos bA,Int.toNat_natCast,if_pos (by rw[ByteArray.size_extract];omega)]
theorem aGg:(kK x).size≤2000000:=by
 have h1:=O.name;have h2:=O.path;have h4:=head_size x;unfold kK;split
 ·omega
 rw[size_append,ByteArray.size_extract];omega
theorem aDz:jF.f x.comp x.path x.name (x.nEnd:Int) x.ids x.unk x.langs x.ext x.fmt x.kind x.lay x.lang x.cust x.dis x.typ=some (mE x):=by
 have h1:=O.name;have h2:=O.path;have h3:=O.nEnd;have h4:=head_size x;have h5:=O.extz;have hd:(⟨#[46]⟩:ByteArray).size=1:=rfl;unfold jF.f mE
 by_cases c:x.lang=⟨#[]⟩
 ·rw[if_pos (by rw[c,L_toList];rfl),if_pos c]
 rw[if_neg (fun h=>c (L_inj (by rw[← L_toList,h];rfl))),if_neg c,aAc O,Option.bind_some,if_pos bA,if_pos bA,Int.toNat_natCast,if_pos (by rw[ByteArray.size_extract];omega),if_pos (by rw[size_append,ByteArray.size_extract];omega),if_pos (by rw[size_append,size_append,ByteArray.size_extract];omega)]
theorem aC7 (s:ByteArray) (hs:s.size≤1000000) (hn:x.name.size≤s.size):mD.f x.comp x.path x.name (x.nEnd:Int) x.ids x.unk x.langs x.ext x.fmt x.kind x.lay x.lang x.cust x.dis x.typ s=some (kS x s):=by
 have h5:=O.extz;unfold mD.f kS
 by_cases c:x.ids=[]
 ·rw[if_pos (by rw[c];rfl),if_pos c]
 have h6:=O.ext c;rw[if_neg (by intro h;exact c (List.eq_nil_of_length_eq_zero bA)),if_neg c,w64 (n:=(s.size:Int) - (x.ext.size:Int)) bA bA,w64 bA bA,if_pos bA,if_pos bA];congr 2;omega
theorem tF (b:Bool):Ev (fun k=>gM.j0 k b x.comp x.path x.name (x.nEnd:Int) x.ids x.unk x.langs x.ext x.fmt x.kind x.lay x.lang x.cust x.dis x.typ) (if b=true then ⟨#[]⟩ else if x.ids=[] then x.path else if jM x.typ=true then (if iB x.path=⟨#[47]⟩ then ⟨#[]⟩ else iB x.path) else if x.typ=2 then kK x else if x.ids.length=1 then x.path else kK x++⟨#[46]⟩++x.ext):=by
 have h5:=O.extz;have h6:=aGg O;have hd:(⟨#[46]⟩:ByteArray).size=1:=rfl
 have e0:(x.ids.length:Int)=0↔x.ids=[]:=⟨fun h=>List.eq_nil_of_length_eq_zero bA,fun h=>by rw[h];rfl⟩
 have e1:(iB x.path).toList=([47]:List UInt8)↔iB x.path=⟨#[47]⟩:=⟨fun h=>L_inj (by rw[← L_toList,h];rfl),fun h=>by rw[h,L_toList];rfl⟩
 refine Ev.step (f:=fun k=>_) (fun k=>rfl) ?_;simp only[gM.j0]
 cases b with
 | true=>exact Ev.now _
 | false =>
  simp only[Bool.false_eq_true,if_false]
  by_cases c:x.ids=[]
  ·simp only[if_pos (e0.2 c),if_pos c];exact Ev.now _
  simp only[if_neg (fun h=>c (e0.1 h)),if_neg c,tZ,Option.bind_some]
  by_cases c2:jM x.typ=true
  ·simp only[if_pos c2];refine Ev.bind (aBz x.path O.path) ?_
   by_cases c3:iB x.path=⟨#[47]⟩
   ·simp only[if_pos (e1.2 c3),if_pos c3];exact Ev.now _
   simp only[if_neg (fun h=>c3 (e1.1 h)),if_neg c3];exact Ev.now _
  simp only[if_neg c2,aAk O,Option.bind_some]
  by_cases c4:x.typ=2
  ·simp only[if_pos c4];exact Ev.now _
  simp only[if_neg c4]
  by_cases c5:x.ids.length=1
  ·simp only[if_pos (show (x.ids.length:Int)=1 by omega),if_pos c5];exact Ev.now _
  simp only[if_neg (show ¬ (x.ids.length:Int)=1 by omega),if_neg c5];rw[show (fun (_:Nat)=>if (kK x).size+1≤9223372036854775807 then if (kK x++(⟨#[46]⟩:ByteArray)).size+x.ext.size≤9223372036854775807 then some ((kK x++(⟨#[46]⟩:ByteArray))++x.ext) else none else none)=fun _=>some (kK x++⟨#[46]⟩++x.ext) from by funext _;rw[if_pos bA,if_pos (by rw[size_append];omega)]];exact Ev.now _
theorem aF5:Ev (fun k=>gM.f k x.comp x.path x.name (x.nEnd:Int) x.ids x.unk x.langs x.ext x.fmt x.kind x.lay x.lang x.cust x.dis x.typ) (lR x):=by
 have e0:(x.ids.length:Int)=0↔x.ids=[]:=⟨fun h=>List.eq_nil_of_length_eq_zero bA,fun h=>by rw[h];rfl⟩
 have e1:x.path.toList=([47]:List UInt8)↔x.path=⟨#[47]⟩:=⟨fun h=>L_inj (by rw[← L_toList,h];rfl),fun h=>by rw[h,L_toList];rfl⟩
 unfold gM.f lR
 by_cases c:x.ids=[]
 ·simp only[if_pos (e0.2 c),if_pos c]
  by_cases c1:x.path=⟨#[47]⟩
  ·simp only[if_pos (e1.2 c1)]
   by_cases c2:x.typ≥2
   ·simp only[if_pos c2];have h:=tF O (decide (x.typ≤5));rw[if_pos c] at h
    by_cases c3:x.typ≤5
    ·rw[if_pos (decide_eq_true c3)] at h;rw[if_pos ⟨c1,c2,c3⟩];exact h
    rw[if_neg (by rw[decide_eq_false c3];decide)] at h;rw[if_neg (fun h2=>c3 h2.2.2)];exact h
   simp only[if_neg c2];have h:=tF O false;rw[if_neg bG,if_pos c] at h;rw[if_neg (fun h2=>c2 h2.2.1)];exact h
  simp only[if_neg (fun h=>c1 (e1.1 h))];have h:=tF O false;rw[if_neg bG,if_pos c] at h;rw[if_neg (fun h2=>c1 h2.1)];exact h
 simp only[if_neg (fun h=>c (e0.1 h)),if_neg c];have h:=tF O false;rw[if_neg bG,if_neg c] at h;exact h
end
open Go.RowKit Go.ZW.PrintWords Go.Proofs.YtlkoeeccebmjmaaGreatDoor.Base Go.Proofs.YtlkoeeccebmjmaaGreatDoor.Lower
theorem aEg (c:UInt8):lT (jI c)=47↔c=47:=by
 have hn:∀ d:UInt8,d=47↔d.toNat=47:=fun d=>⟨fun h=>by rw[h];rfl,fun h=>UInt8.toNat_inj.1 h⟩
 by_cases h1:65≤c.toNat∧c.toNat≤90
 ·have e1:jI c=c+32:=by unfold jI;rw[if_pos h1]
  have e2:(c+32).toNat=c.toNat+32:=by
   rw[UInt8.toNat_add,show (32:UInt8).toNat=32 from rfl];omega
  have e3:c+32≠32:=by
   intro h;have:=congrArg UInt8.toNat h;rw[e2,show (32:UInt8).toNat=32 from rfl] at this;omega
  have e4:lT (c+32)=c+32:=by unfold lT;rw[if_neg e3]
  rw[e1,e4,hn,hn,e2];omega
 have e1:jI c=c:=by unfold jI;rw[if_neg h1]
 rw[e1];unfold lT
 by_cases h2:c=32
 ·rw[if_pos h2,h2];decide
 rw[if_neg h2]
theorem aA5 {l:List UInt8} (h:∀ i:Nat,¬ (l[i]? = some 47∧l[i+1]? = some 47)):∀ i:Nat,¬ ((iE l)[i]? = some 47∧(iE l)[i+1]? = some 47):=by
 have hlead:∀ i:Nat,¬ ((kR l)[i]? = some 47∧(kR l)[i+1]? = some 47):=by
  intro i;unfold kR;split
  ·rintro ⟨_,h2⟩;simp at h2
  split
  ·exact h i
  rename_i h0 h1
  rintro ⟨h2,h3⟩
  cases i with
  | zero =>
   rw[List.getElem?_cons_succ,← List.head?_eq_getElem?] at h3;exact h1 h3
  | succ i =>
   rw[List.getElem?_cons_succ] at h2 h3;exact h i ⟨h2,h3⟩
 intro i;unfold iE;simp only;split
 ·rintro ⟨h2,h3⟩
  have e:∀ k:Nat,(kR l).dropLast[k]? = some 47→(kR l)[k]? = some 47:=by
   intro k hk;rw[List.getElem?_dropLast] at hk;split at hk
   ·exact hk
   cases hk
  exact hlead i ⟨e _ h2,e _ h3⟩
 exact hlead i
theorem aCl {s:ByteArray} (h:∀ i:Nat,¬ ((L s)[i]? = some 47∧(L s)[i+1]? = some 47)):∀ i:Nat,¬ ((L (norm s))[i]? = some 47∧(L (norm s))[i+1]? = some 47):=by
 intro i;rw[aFs,List.getElem?_map,List.getElem?_map,Option.map_eq_some_iff,Option.map_eq_some_iff];rintro ⟨⟨a,h1,h2⟩,⟨b,h3,h4⟩⟩;rw[(aEg a).1 h2] at h1;rw[(aEg b).1 h4] at h3;exact h i ⟨h1,h3⟩
def tH (l:List UInt8):Nat→Int→Int
 | 0,c=>c
 | i+1,c=>tH l i (if l[i]? = some 47∧c = -1 then (i:Int)+1 else c)
def xQ (l:List UInt8):Nat→Int→Int
 | 0,s=>s
 | i+1,s=>xQ l i (if l[i]? = some 47∧0 < i then (i:Int) else s)
def cntF (l:List UInt8):Nat→Nat
 | 0=>0
 | i+1=>cntF l i+(if l[i]? = some 47 then 1 else 0)
theorem uQ {E:Env} {comp:ByteArray} {sk:List Nat} {nd:Int} {l:List UInt8}:∀ (i:Nat) (d:DoV),d.p.cHigh≠-1→d.p.s.data.toList=l →
 (iX E comp sk nd i d).p = { d.p with cLow:=tH l i d.p.cLow,sec:=xQ l i d.p.sec }∧(iX E comp sk nd i d).sc=d.sc+cntF l i
 | 0,d,_,_=>⟨rfl,rfl⟩
 | i+1,d,h,hl=>by
  have key:(iO E comp sk nd i d).p = { d.p with cLow:=if l[i]? = some 47∧d.p.cLow = -1 then (i:Int)+1 else d.p.cLow,sec:=if l[i]? = some 47∧0 < i then (i:Int) else d.p.sec }∧(iO E comp sk nd i d).sc=d.sc+(if l[i]? = some 47 then 1 else 0):=by
   unfold iO;rw[xM h,hl]
   by_cases c1:l[i]? = some 46
   ·have c2:¬ l[i]? = some 47:=by rw[c1];decide
    have n1:¬ (l[i]? = some 47∧d.p.cLow = -1):=fun h=>c2 h.1;have n2:¬ (l[i]? = some 47∧0 < i):=fun h=>c2 h.1;rw[if_pos c1,if_neg n1,if_neg n2,if_neg c2];split <;> exact ⟨rfl,rfl⟩
   rw[if_neg c1]
   by_cases c2:l[i]? = some 47
   ·rw[if_pos c2,if_neg h,if_pos c2];refine ⟨?_,rfl⟩;simp only
    by_cases c3:d.p.cLow = -1
    ·have m1:l[i]? = some 47∧d.p.cLow = -1:=⟨c2,c3⟩
     by_cases c4:0 < i
     ·have m2:l[i]? = some 47∧0 < i:=⟨c2,c4⟩
      rw[if_pos c3,if_pos c4,if_pos m1,if_pos m2]
     have m2:¬ (l[i]? = some 47∧0 < i):=fun h=>c4 h.2;rw[if_pos c3,if_neg c4,if_pos m1,if_neg m2]
    have m1:¬ (l[i]? = some 47∧d.p.cLow = -1):=fun h=>c3 h.2
    by_cases c4:0 < i
    ·have m2:l[i]? = some 47∧0 < i:=⟨c2,c4⟩
     rw[if_neg c3,if_pos c4,if_neg m1,if_pos m2]
    have m2:¬ (l[i]? = some 47∧0 < i):=fun h=>c4 h.2;rw[if_neg c3,if_neg c4,if_neg m1,if_neg m2]
   have n1:¬ (l[i]? = some 47∧d.p.cLow = -1):=fun h=>c2 h.1;have n2:¬ (l[i]? = some 47∧0 < i):=fun h=>c2 h.1;rw[if_neg c2,if_neg n1,if_neg n2,if_neg c2];exact ⟨rfl,rfl⟩
  obtain ⟨k1,k2⟩:=key;have e:=uQ (E:=E) (comp:=comp) (sk:=sk) (nd:=nd) (l:=l) i (iO E comp sk nd i d) (by rw[k1];exact h) (by rw[k1];exact hl);show (iX E comp sk nd i (iO E comp sk nd i d)).p=_∧(iX E comp sk nd i (iO E comp sk nd i d)).sc=_;rw[e.1,e.2,k1,k2];refine ⟨rfl,?_⟩;show d.sc+(if l[i]? = some 47 then 1 else 0)+cntF l i=d.sc+(cntF l i+if l[i]? = some 47 then 1 else 0);omega
theorem aBr {E:Env} {comp:ByteArray} {nd:Int}:∀ (cs:List Nat) (d:DoV),(cs.foldl (mB E comp nd) d).sc=d.sc
 | [],_=>rfl
 | c::cs,d=>aBr cs (mB E comp nd d c)
theorem vU {E:Env} {comp:ByteArray} {p:eG} {q:Nat} {n:List UInt8}:Same p (lX E comp p q n):=by
 have hD:Same p (nV E comp p (q+1) n).p:=sL ((eS n).reverse.map (q+1 + ·)) ⟨p,0,0⟩;unfold lX;split
 ·exact hD.trans (qO _ _ _ _ _ _ _)
 exact hD
theorem aDq (E:Env) (comp s:ByteArray):∃ (T:ByteArray) (q:Nat) (pre n:List UInt8) (d:DoV),L T=iE (L s)∧mX (L T) pre n∧pre.length=q+1∧(L T)[q]? = some 47∧hJ E comp s=tK E comp d∧In2 T comp 0 d ∧
 d.p = { lX E comp (jP { gC with comp:=comp } T) q n with cHigh:=(q:Int)+1,cLow:=tH (L T) q (-1),sec:=xQ (L T) q (if 0 < q then (q:Int) else -1) }∧d.sc=1+cntF (L T) q:=by
 obtain ⟨T,d,hT,hl,h2,h3,h4,h5⟩:=aDp E comp s;have h0:(L T)[0]? = some 47:=by rw[hl,← List.head?_eq_getElem?];exact mText_head _
 have S:=aCv (L T) ⟨0,h0⟩
 obtain ⟨pre,hpre⟩:∃ x,(L T).take (behind (L T))=x:=⟨_,rfl⟩
 obtain ⟨n,hn⟩:∃ x,(L T).drop (behind (L T))=x:=⟨_,rfl⟩
 rw[hpre,hn] at S;obtain ⟨q,hq⟩:=S.slash;have hpl:pre.length=q.length+1:=by rw[hq];simp
 have h47:(L T)[q.length]? = some 47:=by rw[S.eq,hq,List.append_assoc,List.getElem?_append_right (Nat.le_refl _),Nat.sub_self];rfl
 have hr:=aE8 (E:=E) (comp:=comp) (p:=jP { gC with comp:=comp } T) S;rw[hpl] at hr
 obtain ⟨D,hD⟩:∃ D,nV E comp (jP { gC with comp:=comp } T) (q.length+1) n=D:=⟨_,rfl⟩
 have hD' : ((eS n).reverse.map (q.length+1 + ·)).foldl (mB E comp ((eS n).length:Int)) ⟨jP { gC with comp:=comp } T,0,0⟩=D:=hD;rw[hD'] at hr;have hsame:Same (jP { gC with comp:=comp } T) D.p:=by rw[← hD'];exact sL ((eS n).reverse.map (q.length+1 + ·)) ⟨jP { gC with comp:=comp } T,0,0⟩
 have hsc0:D.sc=0:=by rw[← hD'];exact aBr ((eS n).reverse.map (q.length+1 + ·)) ⟨jP { gC with comp:=comp } T,0,0⟩
 have hch:D.p.cHigh = -1:=hsame.cHigh;have hst:D.p.s.data.toList[q.length]? = some 47:=by rw[hsame.s];exact h47
 have hws:=vU (E:=E) (comp:=comp) (p:=jP { gC with comp:=comp } T) (q:=q.length) (n:=n)
 obtain ⟨P,hP⟩:∃ P,lX E comp (jP { gC with comp:=comp } T) q.length n=P:=⟨_,rfl⟩
 rw[hP] at hws
 have hP' : (if 0 < D.ld then mId E D.p comp q.length D.ld ((eS n).length:Int) true else D.p)=P:=by
  rw[← hP];unfold lX;rw[hD]
 have hPc:P.cLow = -1:=hws.cLow;have hPs:P.sec = -1:=hws.sec
 have hstep:(iO E comp (lP (jP { gC with comp:=comp } T).s.data.toList) ((eS n).length:Int) q.length D).p = { P with cHigh:=(q.length:Int)+1,sec:=if 0 < q.length then (q.length:Int) else -1 } ∧
  (iO E comp (lP (jP { gC with comp:=comp } T).s.data.toList) ((eS n).length:Int) q.length D).sc=1:=by
  unfold iO;rw[if_neg (by rw[hst];decide),if_pos hst,if_pos hch,hP'];refine ⟨?_,by show D.sc+1=1;rw[hsc0]⟩
  by_cases c:0 < q.length
  ·simp only[if_pos c]
  simp only[if_neg c];rw[← hPs]
 obtain ⟨e1,e2⟩:=hstep;have hrest:=uQ (E:=E) (comp:=comp) (sk:=lP (jP { gC with comp:=comp } T).s.data.toList) (nd:=((eS n).length:Int)) (l:=L T) q.length (iO E comp (lP (jP { gC with comp:=comp } T).s.data.toList) ((eS n).length:Int) q.length D) (by rw[e1];show (q.length:Int)+1≠-1;omega) (by rw[e1];show L P.s=L T;rw[hws.s];rfl);have hdd:d=iX E comp (lP (jP { gC with comp:=comp } T).s.data.toList) ((eS n).length:Int) q.length (iO E comp (lP (jP { gC with comp:=comp } T).s.data.toList) ((eS n).length:Int) q.length D):=by rw[h5,hr];rfl
 refine ⟨T,q.length,pre,n,d,hl,S,hpl,h47,h2,h3,?_,?_⟩
 ·rw[hdd,hrest.1,e1,hP];show ({ P with cHigh:=(q.length:Int)+1,cLow:=tH (L T) q.length P.cLow,sec:=_ }:eG)=_;rw[hPc]
 rw[hdd,hrest.2,e2]
section
variable {l:List UInt8}
theorem xS {q:Nat} (h:l[q]? = some 47):∀ m:Nat,q < m→(∀ j,q < j→j < m→l[j]?≠some 47)→slB l m=some q
 | 0,hm,_=>by omega
 | m+1,hm,hn=>by
  unfold slB
  by_cases c:m=q
  ·rw[if_pos (by rw[c];exact h),c]
  rw[if_neg (hn m bA bA)];exact xS h m bA (fun j h1 h2=>hn j h1 bA)
theorem aCu:∀ (m:Nat) {j:Nat},slB l m=some j→l[j]? = some 47∧j < m∧∀ i,j < i→i < m→l[i]?≠some 47
 | 0,j,h=>by cases h
 | m+1,j,h=>by
  unfold slB at h;split at h
  ·rename_i hm
   injection h with h
   subst h;exact ⟨hm,aR,fun i h1 h2=>by omega⟩
  rename_i hm
  obtain ⟨a,b,c⟩:=aCu m h;refine ⟨a,aR,fun i h1 h2=>?_⟩
  by_cases e:i=m
  ·rw[e];exact hm
  exact c i h1 bA
theorem xR (h:l[0]? = some 47):∀ m:Nat,0 < m→∃ j,slB l m=some j
 | 0,hm=>by omega
 | m+1,_=>by
  unfold slB;split
  ·exact ⟨_,rfl⟩
  rename_i hne
  by_cases c:m=0
  ·subst c;exact absurd h hne
  exact xR h m bA
theorem aCc:∀ (i:Nat) (c:Int),c≠-1→tH l i c=c
 | 0,_,_=>rfl
 | i+1,c,h=>by
  unfold tH;rw[if_neg (fun x=>h x.2)];exact aCc i c h
theorem aEd:∀ (i:Nat),tH l i (-1)=match slB l i with | some j=>(j:Int)+1 | none=>-1
 | 0=>rfl
 | i+1=>by
  unfold tH slB
  by_cases c:l[i]? = some 47
  ·rw[if_pos ⟨c,rfl⟩,if_pos c];exact aCc i _ bA
  rw[if_neg (fun x=>c x.1),if_neg c];exact aEd i
theorem zT:∀ (i s:Nat),i≤s→1≤s→l[s]? = some 47→(∀ j,i≤j→1≤j→j < s→l[j]?≠some 47)→∃ f:Nat,xQ l i (s:Int)=(f:Int)∧1≤f∧f≤s∧l[f]? = some 47∧∀ j,1≤j→j < f→l[j]?≠some 47
 | 0,s,_,h1,h2,h3=>⟨s,rfl,h1,Nat.le_refl _,h2,fun j a b=>h3 j bA a b⟩
 | i+1,s,h0,h1,h2,h3=>by
  unfold xQ
  by_cases c:l[i]? = some 47∧0 < i
  ·rw[if_pos c];obtain ⟨f,a1,a2,a3,a4,a5⟩:=zT i i (Nat.le_refl _) bA c.1 (fun j b1 b2 b3=>by omega);exact ⟨f,a1,a2,aR,a4,a5⟩
  rw[if_neg c];refine zT i s bA h1 h2 (fun j b1 b2 b3=>?_)
  by_cases e:j=i
  ·subst e;exact fun h=>c ⟨h,aR⟩
  exact h3 j bA b2 b3
theorem rU:∀ (m:List UInt8) (k:Nat),m[k]? = some 47→(∀ j,j < k→m[j]?≠some 47)→(m.takeWhile fun c=>c != 47)=m.take k
 | [],k,h,_=>by simp at h
 | a::m,0,h,_=>by
  simp only[List.getElem?_cons_zero,Option.some.injEq] at h;subst h;rfl
 | a::m,k+1,h,hn=>by
  have h0:=hn 0 bA;simp only[List.getElem?_cons_zero,ne_eq,Option.some.injEq] at h0;rw[List.takeWhile_cons,if_pos (bne_iff_ne.2 h0),List.take_succ_cons,rU m k (by simpa using h) (fun j hj=>by have:=hn (j+1) bA;simpa using this)]
theorem uO:∀ i:Nat,i≤l.length→cntF l i=kF (l.take i)
 | 0,_=>rfl
 | i+1,h=>by
  have hi:i < l.length:=by omega
  unfold cntF;rw[uO i bA,List.take_succ_eq_append_getElem hi];unfold kF;rw[List.filter_append,List.length_append,List.getElem?_eq_getElem hi]
  by_cases c:l[i]=47
  ·rw[if_pos (by rw[c]),c];rfl
  rw[if_neg (by simpa using c),List.filter_cons,if_neg (by simpa using c)];rfl
theorem aEt {m:List UInt8} (h:∀ j:Nat,m[j]?≠some 47):kF m=0:=by
 unfold kF;rw[List.length_eq_zero_iff,List.filter_eq_nil_iff];intro c hc e;obtain ⟨j,hj⟩:=List.mem_iff_getElem?.1 hc;rw[beq_iff_eq] at e;rw[e] at hj;exact h j hj
theorem aC9 {q:Nat} {pre n:List UInt8} (S:mX l pre n) (hq:pre.length=q+1) (h0:l[0]? = some 47):kF (l.drop 1)=cntF l q∧(cntF l q=0↔q=0):=by
 have hlen:l.length=q+1+n.length:=by rw[S.eq,List.length_append,hq]
 have e1:kF l=cntF l (q+1):=by
  rw[uO _ bA];have e2:l=l.take (q+1)++n:=by rw[S.eq,← hq,List.take_left]
  have e3:kF l=kF (l.take (q+1))+kF n:=by
   conv=>lhs;rw[e2]
   unfold kF;rw[List.filter_append,List.length_append]
  rw[e3,aEt S.no];omega
 obtain ⟨x,hx⟩:=S.slash
 have h47:l[q]? = some 47:=by
  have hxl:x.length=q:=by have:=congrArg List.length hx;simp at this;omega
  rw[S.eq,hx,List.append_assoc,List.getElem?_append_right bA,hxl,Nat.sub_self];rfl
 have e4:cntF l (q+1)=cntF l q+1:=by rw[show cntF l (q+1)=cntF l q+(if l[q]? = some 47 then 1 else 0) from rfl,if_pos h47]
 cases l with
 | nil=>cases h0
 | cons a m =>
  have ha:a=47:=by simpa using h0
  have e5:kF (a::m)=1+kF m:=by
   unfold kF;rw[List.filter_cons,if_pos (by rw[ha];rfl),List.length_cons];omega
  refine ⟨?_,?_⟩
  ·show kF m=_;omega
  constructor
  ·intro h
   by_cases c:q=0
   ·exact c
   exfalso;rw[uO q bA] at h
   obtain ⟨k,rfl⟩:∃ k,q=k+1:=⟨q - 1,aR⟩
   rw[List.take_succ_cons] at h;unfold kF at h;rw[List.filter_cons,if_pos (by rw[ha];rfl)] at h;cases h
  rintro rfl;rfl
end
structure aJk (p:eG) (st:fM) (r:RV):Prop where
 ids:r.ids=kM p
 unk:r.unk=lM p
 ix:zB p p.lang p.fmt p.kind p.cust p.pfmt p.pkind p.play p.plangs (fmt0 st p.comp r.ext) r
 lay:fH p p.lay=r.lay1
 dis:p.dis=r.dis
 ext:fH p 0=r.ext
structure PW (st:fM) (T:ByteArray) (q:Nat) (n:List UInt8) (p:eG) (r:RV) (e:Nat) (sc:Nat) (t:Int):Prop where
 split:∃ pre,mX (L T) pre n∧pre.length=q+1
 head:(L T)[0]? = some 47
 h47:(L T)[q]? = some 47
 no:∀ i:Nat,¬ ((L T)[i]? = some 47∧(L T)[i+1]? = some 47)
 s:p.s=T
 cHigh:p.cHigh=(q:Int)+1
 cLow:p.cLow=tH (L T) q (-1)
 sec:p.sec=if t=3∧sc=2 then 0 else xQ (L T) q (if 0 < q then (q:Int) else -1)
 sc:sc=1+cntF (L T) q
 nLow:p.nLow=(q:Int)+1
 nHigh:p.nHigh=((q+1+e:Nat):Int)
 le:e≤n.length
 rend:kH r.marks (n.length:Int)=(e:Int)
 words:(p.known=[]∧eS n=[]∧r=lA∧e=n.length∧(p.lang = -1∧p.fmt = -1∧p.kind = -1∧p.cust = -1∧p.pfmt = -1∧p.pkind = -1∧p.play = -1∧p.lay = -1∧p.plangs=[]∧p.unknown=[]∧p.dis=false)) ∨
  (p.known≠[]∧eS n≠[]∧aJk p st r∧0 < e∧r.ext≠⟨#[]⟩∧∃ c:Nat,p.known[0]? = some (((q+1+c+1:Nat):Int),(T.size:Int))∧c < n.length∧n[c]? = some 46∧e≤c)
def aFo (st:fM) (comp T:ByteArray) (n:List UInt8) (r:RV) (e:Nat):Int:=mN st comp (L T) (n.take e) (!r.ids.isEmpty) r.ext r.baseof
theorem aJi {st:fM} (SE:qV st) (comp s:ByteArray) (K:oB (eQ comp) ((iE (L s)).drop (behind (iE (L s))))) (hno:∀ i:Nat,¬ ((L s)[i]? = some 47∧(L s)[i+1]? = some 47)) :
 ∃ (T:ByteArray) (q:Nat) (n:List UInt8) (e sc:Nat),T=⟨(iE (L s)).toArray⟩∧n=(L T).drop (behind (L T)) ∧
  PW st T q n (hJ (eJ st) comp s) (gL st comp (fC (L T) fV) (lastB T) (eS n)) e sc (aFo st comp T n (gL st comp (fC (L T) fV) (lastB T) (eS n)) e) ∧
  (hJ (eJ st) comp s).typ=aFo st comp T n (gL st comp (fC (L T) fV) (lastB T) (eS n)) e∧(hJ (eJ st) comp s).comp=comp∧(hJ (eJ st) comp s).trim=false:=by
 obtain ⟨T,q,pre,n,d,hl,S,hpl,h47,hm,hI,hd,hsc⟩:=aDq (eJ st) comp s;have hn:=S.behind;have hTe:T=⟨(iE (L s)).toArray⟩:=L_inj (hl.trans (kD _).symm);rw[← hl,hn.1,← hn.2] at K;have hnm:L (lastB T)=n:=by unfold lastB;rw[kD,hn.1,← hn.2]
 have h0:(L T)[0]? = some 47:=by rw[hl,← List.head?_eq_getElem?];exact mText_head _
 have hnoT:∀ i:Nat,¬ ((L T)[i]? = some 47∧(L T)[i+1]? = some 47):=by rw[hl];exact aA5 hno
 have hsz:T.size=q+1+n.length:=by rw[← eF,S.eq,List.length_append,hpl]
 obtain ⟨p0,hp0⟩:∃ p0,jP { gC with comp:=comp } T=p0:=⟨_,rfl⟩
 have hp0' : p0 = { gC with comp:=comp,s:=T,typ:=if fC (L T) fV then 7 else 0 }:=by rw[← hp0];rfl
 rw[hp0] at hd;have hws:=vU (E:=eJ st) (comp:=comp) (p:=p0) (q:=q) (n:=n)
 obtain ⟨r,hr⟩:∃ r,gL st comp (fC (L T) fV) (lastB T) (eS n)=r:=⟨_,rfl⟩
 obtain ⟨P,hP⟩:∃ P,lX (eJ st) comp p0 q n=P:=⟨_,rfl⟩
 rw[hP] at hws hd;have hPs:P.s=T:=by rw[hws.s,hp0']
 have hPt:P.typ=if fC (L T) fV then 7 else 0:=by rw[hws.typ,hp0']
 have hPc:P.comp=comp:=by rw[hws.comp,hp0']
 have hPr:P.trim=false:=by rw[hws.trim,hp0'];rfl
 -- what the words leave
 obtain ⟨e,he1,he2,he3,hW,hb,hst⟩:∃ e:Nat,P.nEnd=(if eS n=[] then -1 else ((q+1+e:Nat):Int))∧e≤n.length∧kH r.marks (n.length:Int)=(e:Int) ∧
  ((P.known=[]∧eS n=[]∧r=lA∧e=n.length∧P=p0)∨(P.known≠[]∧eS n≠[]∧Rel st comp (fC (L T) fV) T P r∧0 < e∧r.ext≠⟨#[]⟩∧∃ c:Nat,P.known[0]? = some (((q+1+c+1:Nat):Int),(T.size:Int))∧c < n.length∧n[c]? = some 46∧e≤c)) ∧
  (r.baseof=(P.base != -1))∧(fC (L T) fV=true→∀ x,P.known[P.lay.toNat]? = some x→P.lay≠-1→(q:Int)+1 < x.1):=by
  obtain ⟨w1,w2⟩:=aC3 (E:=eJ st) (comp:=comp) S hpl K (p:=p0) (by rw[hp0']) (by rw[hp0'];rfl) (by rw[hp0'];rfl) (by rw[hp0'];rfl)
  by_cases hc:eS n=[]
  ·have hPp:P=p0:=by rw[← hP];exact w1 hc
   have hrz:r=lA:=by rw[← hr];unfold gL;rw[if_pos hc]
   have hk0:P.known=[]:=by rw[hPp,hp0'];rfl
   refine ⟨n.length,by rw[if_pos hc,hPp,hp0'];rfl,Nat.le_refl _,by rw[hrz];rfl,.inl ⟨hk0,hc,hrz,rfl,hPp⟩,by rw[hrz,hPp,hp0'];rfl,fun _ x hx _=>by rw[hk0] at hx;cases hx⟩
  obtain ⟨R,r1,⟨c,r2,r2'⟩,r3,r4⟩:=aGu (st:=st) (sc:=fC (L T) fV) S hpl hnm K SE hp0' hc;rw[hP,hr] at R r1;rw[hP] at r4;rw[hr] at r2' r3;obtain ⟨hup,hlt⟩:=rR S
  have hcpos:0 < c:=by
   have hf:=K.first
   cases hs:eS n with
   | nil=>exact absurd hs hc
   | cons a t =>
    rw[hs] at hf r2 hup;have ha:a≠0:=fun h=>hf (by rw[h];rfl);rcases List.mem_cons.1 r2 with h | h
    ·omega
    have:=(List.pairwise_cons.1 hup).1 c h;omega
  obtain ⟨c0,hc0⟩:∃ c,(eS n).getLast? = some c:=by
   cases h:(eS n).getLast? with
   | none=>exact absurd (List.getLast?_eq_none_iff.1 h) hc
   | some c=>exact ⟨c,rfl⟩
  have hcle:c≤c0:=by
   obtain ⟨fr,hfr⟩:=List.getLast?_eq_some_iff.1 hc0;rw[hfr] at r2 hup;rcases List.mem_append.1 r2 with h | h
   ·exact Nat.le_of_lt ((List.pairwise_append.1 hup).2.2 c h c0 bK)
   rw[List.mem_singleton] at h;omega
  have hH:=w2 c0 hc0;rw[hP] at hH;refine ⟨c,by rw[if_neg hc,r1,r2'];omega,Nat.le_of_lt (hlt c r2),r2',.inr ⟨R.ne,hc,R,hcpos,r3,c0,hH.at_,hlt c0 (List.mem_of_getLast? hc0),(vL n _ _ c0 (List.mem_of_getLast? hc0)).2,hcle⟩,R.base,r4⟩
 have hds:d.p.s=T:=by rw[hd];exact hPs
 have hN:(gI d.p).nLow=(q:Int)+1∧(gI d.p).nHigh=((q+1+e:Nat):Int):=by
  refine ⟨by show d.p.cHigh=_;rw[hd],?_⟩;show (if d.p.cHigh≤d.p.nEnd then d.p.nEnd else (d.p.s.size:Int))=_;rw[hds,hd];show (if (q:Int)+1≤P.nEnd then P.nEnd else (T.size:Int))=_;rw[he1];rcases hW with ⟨_,h,_,h2,_⟩ | ⟨_,h,_⟩
  ·rw[if_pos h,if_neg bA,h2,hsz]
  rw[if_neg h,if_pos bA]
 have hnmt:L (sub (gI d.p).s (gI d.p).nLow (gI d.p).nHigh)=n.take e:=by
  rw[hN.1,hN.2,show (q:Int)+1=((q+1:Nat):Int) by omega,iW,eR];show ((L d.p.s).drop (q+1)).take _=_;rw[hds,S.eq,← hpl,List.drop_left];congr 1;omega
 have hids:r.ids=[]↔d.p.known=[]:=by
  rw[hd];show _↔P.known=[];rcases hW with ⟨h,_,h2,_⟩ | ⟨h,_,R,_⟩
  ·rw[h,h2];simp[lA]
  exact ⟨fun h3=>absurd h3 R.idsNe,fun h3=>absurd h3 h⟩
 have hty:=aGm (st:=st) (comp:=comp) (T:=T) (d:=d) (r:=r) (nm:=n.take e) hds (by rw[hd];exact hPr) (by rw[hd];exact hPc) (by rw[hd];exact hPt) hids
  (by
   intro h;rw[hd] at h ⊢;rcases hW with ⟨h1,_⟩ | ⟨_,_,R,_⟩
   ·exact absurd h1 h
   exact R.ext.str)
  (by rw[hd];exact hb)
  (by
   intro h;rw[hd] at h ⊢;show P.base = -1;rcases hW with ⟨_,_,_,_,h1⟩ | ⟨h1,_⟩
   ·rw[h1,hp0'];rfl
   exact absurd h h1)
  hnmt
  (by
   rw[hN.1,hN.2];constructor
   ·intro h h2;have:=congrArg List.length h2;rw[List.length_take,List.length_nil] at this;omega
   intro h;have:0 < (n.take e).length:=List.length_pos_iff.2 h;rw[List.length_take] at this
   omega)
  (by
   intro hs hlay;rw[hd] at hlay ⊢;show (P.known.getD P.lay.toNat (0,0)).1≠(q:Int)+1;rcases hW with ⟨_,_,_,_,h1⟩ | ⟨_,_,R,_⟩
   ·exfalso;refine hlay ?_;show P.lay = -1;rw[h1,hp0'];rfl
   rcases R.layPos with h | h
   ·exact absurd h hlay
   have hlt:P.lay.toNat < P.known.length:=by omega
   rw[List.getD_eq_getElem?_getD,List.getElem?_eq_getElem hlt,Option.getD_some];have:=hst hs _ (List.getElem?_eq_getElem hlt) hlay
   omega)
 refine ⟨T,q,n,e,d.sc,hTe,by rw[hn.1,← hn.2],?_⟩;rw[hr,hm,hty];refine ⟨⟨⟨pre,S,hpl⟩,h0,h47,hnoT,hds,by show d.p.cHigh=_;rw[hd],by show d.p.cLow=_;rw[hd],?_,hsc,hN.1,hN.2,he2,he3,?_⟩,rfl,by show d.p.comp=comp;rw[hd];exact hPc,by show d.p.trim=false;rw[hd];exact hPr⟩
 ·show (if _∧_ then (0:Int) else d.p.sec)=_;rw[show d.p.sec=xQ (L T) q (if 0 < q then (q:Int) else -1) by rw[hd]];rfl
 obtain ⟨F,hF⟩:∃ F:eG,{ gI d.p with typ:=mN st comp (L T) (n.take e) (!r.ids.isEmpty) r.ext r.baseof,sec:=if mN st comp (L T) (n.take e) (!r.ids.isEmpty) r.ext r.baseof=3∧d.sc=2 then 0 else d.p.sec }=F:=⟨_,rfl⟩
 have hFk:F.known=P.known:=by rw[← hF];show d.p.known=_;rw[hd]
 have hFs:F.s=P.s:=by rw[← hF];show d.p.s=_;rw[hd]
 have hFl:F.lay=P.lay:=by rw[← hF];show d.p.lay=_;rw[hd]
 have hFu:F.unknown=P.unknown:=by rw[← hF];show d.p.unknown=_;rw[hd]
 have hFp:F.plangs=P.plangs:=by rw[← hF];show d.p.plangs=_;rw[hd]
 have hFa:F.lang=P.lang∧F.fmt=P.fmt∧F.kind=P.kind∧F.cust=P.cust∧F.pfmt=P.pfmt∧F.pkind=P.pkind∧F.play=P.play∧F.dis=P.dis∧F.comp=P.comp:=by
  rw[← hF];show d.p.lang=_∧d.p.fmt=_∧d.p.kind=_∧d.p.cust=_∧d.p.pfmt=_∧d.p.pkind=_∧d.p.play=_∧d.p.dis=_∧d.p.comp=_;rw[hd];exact ⟨rfl,rfl,rfl,rfl,rfl,rfl,rfl,rfl,rfl⟩
 obtain ⟨a1,a2,a3,a4,a5,a6,a7,a8,a9⟩:=hFa;rw[hF]
 have hstr:∀ i,fH F i=fH P i:=by
  intro i;unfold fH;rw[hFk,hFs]
 rcases hW with ⟨h1,h2,h3,h4,h5⟩ | ⟨h1,h2,R,h3,h4,c,h5,h6⟩
 ·left;rw[hFk,a1,a2,a3,a4,a5,a6,a7,hFl,hFp,hFu,a8];refine ⟨h1,h2,h3,h4,?_⟩;rw[h5,hp0'];exact ⟨rfl,rfl,rfl,rfl,rfl,rfl,rfl,rfl,rfl,rfl,rfl⟩
 right;rw[hFk]
 have G:Grown P F:=⟨hFs,.inr (.inr ⟨hFk,hFl⟩)⟩
 have hix:=R.ix.grown G;refine ⟨h1,h2,⟨?_,?_,?_,?_,by rw[a8];exact R.dis,by rw[hstr];exact R.ext.str⟩,h3,h4,c,h5,h6⟩
 ·rw[R.ids];unfold kM;rw[hFk,hFs]
 ·rw[R.unk];unfold lM;rw[hFu,hFs]
 ·rw[a1,a2,a3,a4,a5,a6,a7,hFp,a9,hPc];exact hix
 rw[hstr,hFl];rcases R.lay with ⟨h,_,h'⟩ | ⟨_,h,x,hx,h'⟩
 ·rw[h,h'];rfl
 unfold fH;rw[if_neg bA,hx];exact h'
theorem aG1 (d:List UInt8) (k:Nat) (h:k < d.length):kF (d.take (k+1))=kF (d.take k)+if d[k]=47 then 1 else 0:=by
 unfold kF;rw[List.take_succ_eq_append_getElem h,List.filter_append,List.length_append];congr 1
 by_cases c:d[k]=47
 ·rw[if_pos c];simp[c]
 rw[if_neg c];simp[c]
theorem uE:∀ l:List UInt8,(∀ x∈l,(x != 47)=true)→(l.takeWhile fun c=>c != 47)=l
 | [],_=>rfl
 | a::r,h=>by
  rw[List.takeWhile_cons,if_pos (h a (List.mem_cons_self ..)),uE r (fun x hx=>h x (List.mem_cons_of_mem _ hx))]
def rO (p:ByteArray):ByteArray:=⟨(((L p).drop 1).takeWhile fun c=>c != 47).toArray⟩
structure aGv (p:ByteArray) (i fr:Nat) (out:List ByteArray):Prop where
 f1:1≤fr
 fi:fr≤i
 len:out.length=kF (((L p).drop 1).take (i - 1))
 none:out=[]→fr=1∧∀ j:Nat,j < i - 1→((L p).drop 1)[j]?≠some 47
 some_:out≠[]→out.head? = some (rO p)
theorem aD6 (p:ByteArray) (hp:p.size≤1000000):∀ (n i fr:Nat) (out:List ByteArray),p.size - i=n→1≤i→i≤p.size→aGv p i fr out→PEv (fun r=>r.length=kF ((L p).drop 1)+1∧r.head? = some (rO p)) (fun k=>fB.l0 k p out (fr:Int) (i:Int)):=by
 have hl:=eF p;have hd:((L p).drop 1).length=p.size - 1:=by rw[List.length_drop,hl]
 intro n
 induction n with
 | zero =>
  intro i fr out h1 h2 h3 I;have hi:i=p.size:=by omega
  have f1:=I.f1;have fi:=I.fi
  have ho:out.length≤1000000:=by
   rw[I.len];unfold kF;exact Nat.le_trans (List.length_filter_le _ _) (by rw[List.length_take];omega)
  refine PEv.succ ?_
  have e:(fun k=>fB.l0 (k+1) p out (fr:Int) (i:Int))=fun k=>fB.l0 k p (out++[p.extract fr i]) ((i+1:Nat):Int) ((i+1:Nat):Int):=by
   funext k
   simp only[fB.l0];rw[if_pos bA,if_pos bA,if_pos bA,if_pos bA,if_pos bA,w64 bA bA];rfl
  rw[e];refine PEv.succ ?_
  have e2:(fun k=>fB.l0 (k+1) p (out++[p.extract fr i]) ((i+1:Nat):Int) ((i+1:Nat):Int))=fun _=>some (out++[p.extract fr i]):=by
   funext k
   simp only[fB.l0];rw[if_neg bA]
  rw[e2];refine PEv.now ⟨?_,?_⟩
  ·rw[List.length_append,I.len,List.take_of_length_le bA];rfl
  by_cases c:out=[]
  ·obtain ⟨g1,g2⟩:=I.none c;subst c g1;show some (p.extract 1 i)=_;congr 1;refine L_inj ((eR ..).trans (Eq.trans ?_ (kD _).symm));rw[List.take_of_length_le bA];refine (uE _ fun x hx=>?_).symm;obtain ⟨j,hj,rfl⟩:=List.mem_iff_getElem.1 hx;have:=g2 j bA;rw[List.getElem?_eq_getElem hj] at this
   simpa using this
  have:=I.some_ c
  cases out with
  | nil=>exact absurd rfl c
  | cons a r=>exact this
 | succ n ih =>
  intro i fr out h1 h2 h3 I;have f1:=I.f1;have fi:=I.fi;have hi:i < (L p).length:=by omega
  have hb:=sR p i hi;have hk:i - 1 < ((L p).drop 1).length:=by omega
  have hg:((L p).drop 1)[i - 1]'hk=(L p)[i]:=by rw[List.getElem_drop];congr 1;omega
  have hc:=aG1 ((L p).drop 1) (i - 1) hk;rw[hg,show i - 1+1=i+1 - 1 by omega] at hc
  have ho:out.length≤1000000:=by
   rw[I.len];unfold kF;exact Nat.le_trans (List.length_filter_le _ _) (by rw[List.length_take];omega)
  by_cases c:(L p)[i]=47
  ·rw[if_pos c] at hc
   have hf:out=[]→p.extract fr i=rO p:=by
    intro h;obtain ⟨g1,g2⟩:=I.none h;subst g1;refine L_inj ((eR ..).trans (Eq.trans ?_ (kD _).symm));rw[rU _ (i - 1) (by rw[List.getElem?_eq_getElem hk,hg,c]) (fun j hj=>g2 j hj)]
   have I2:aGv p (i+1) (i+1) (out++[p.extract fr i]):=by
    refine ⟨aR,Nat.le_refl _,?_,fun h=>by simp at h,fun _=>?_⟩
    ·rw[hc,List.length_append,I.len];rfl
    by_cases c2:out=[]
    ·subst c2;exact congrArg some (hf rfl)
    have:=I.some_ c2
    cases out with
    | nil=>exact absurd rfl c2
    | cons a r=>exact this
   refine PEv.succ ?_
   have e:(fun k=>fB.l0 (k+1) p out (fr:Int) (i:Int))=fun k=>fB.l0 k p (out++[p.extract fr i]) ((i+1:Nat):Int) ((i+1:Nat):Int):=by
    funext k
    simp only[fB.l0];rw[if_pos bA,if_neg bA,if_pos bA,if_pos bA,if_pos (by rw[hb];exact (tW _ 47 bG).2 c),if_pos bA,if_pos bA,if_pos bA,w64 bA bA];rfl
   rw[e];exact ih (i+1) (i+1) _ bA bA bA I2
  rw[if_neg c] at hc
  have I2:aGv p (i+1) fr out:=by
   refine ⟨f1,aR,by rw[hc];exact I.len,fun h=>⟨(I.none h).1,fun j hj=>?_⟩,I.some_⟩;rcases Nat.lt_or_ge j (i - 1) with h9 | h9
   ·exact (I.none h).2 j h9
   obtain rfl:j=i - 1:=by omega
   rw[List.getElem?_eq_getElem hk,hg];intro h2;injection h2 with h2;exact c h2
  refine PEv.succ ?_
  have e:(fun k=>fB.l0 (k+1) p out (fr:Int) (i:Int))=fun k=>fB.l0 k p out (fr:Int) ((i+1:Nat):Int):=by
   funext k
   simp only[fB.l0];rw[if_pos bA,if_neg bA,if_pos bA,if_pos bA,if_neg (by rw[hb];exact fun h2=>c ((tW _ 47 bG).1 h2)),w64 bA bA];rfl
  rw[e];exact ih (i+1) fr out bA bA bA I2
theorem aHs (p:ByteArray) (hp:p.size≤1000000) (h0:(L p)[0]? = some 47):PEv (fun r=>r.length=kF ((L p).drop 1)+1∧r.head? = some (rO p)) (fun k=>fB.f k p):=by
 have h1:0 < p.size:=by rw[← eF];exact (List.getElem?_eq_some_iff.1 h0).1
 refine aD6 p hp (p.size - 1) 1 1 [] rfl (Nat.le_refl _) bA ⟨Nat.le_refl _,Nat.le_refl _,rfl,fun _=>⟨rfl,fun j hj=>absurd hj bA⟩,fun h=>absurd rfl h⟩
theorem aB2 {x:WV} (O:pV x):Ev (fun k=>jT.f k x.comp x.path x.name (x.nEnd:Int) x.ids x.unk x.langs x.ext x.fmt x.kind x.lay x.lang x.cust x.dis x.typ) (pR x.path x.typ):=by
 obtain ⟨r,hr,h1,h2⟩:=aHs x.path O.path O.head
 have hsec:pR x.path x.typ=if (r.length:Int) < 2 then ⟨#[]⟩ else if (r.length:Int)=2 then (if x.typ=3 then ⟨#[]⟩ else rO x.path) else rO x.path:=by
  unfold pR
  by_cases c:kF ((L x.path).drop 1)=0
  ·rw[if_pos (.inl c),if_pos bA]
  rw[if_neg (show ¬ (r.length:Int) < 2 by omega)]
  by_cases c2:kF ((L x.path).drop 1)=1
  ·rw[if_pos (show (r.length:Int)=2 by omega)]
   by_cases c3:x.typ=3
   ·rw[if_pos (.inr ⟨c2,c3⟩),if_pos c3]
   rw[if_neg (fun h=>h.elim c (fun h=>c3 h.2)),if_neg c3];rfl
  rw[if_neg (show ¬ (r.length:Int)=2 by omega),if_neg (fun h=>h.elim c (fun h=>c2 h.1))];rfl
 have hrd:hE ByteArray.empty r 0=rO x.path:=by
  cases r with
  | nil=>cases h2
  | cons a t=>injection h2
 have hpos:0 < (r.length:Int):=by omega
 unfold jT.f;refine Ev.bind hr ?_;rw[hsec,hrd];simp only[if_pos hpos]
 by_cases c1:(r.length:Int) < 2
 ·simp only[if_pos c1];exact Ev.now _
 simp only[if_neg c1]
 by_cases c2:(r.length:Int)=2
 ·simp only[if_pos c2]
  by_cases c3:x.typ=3
  ·simp only[if_pos c3];exact Ev.now _
  simp only[if_neg c3];exact Ev.now _
 simp only[if_neg c2];exact Ev.now _
theorem fA.kd2 {w:World} {A:Option Addr} {c:Nat} {l:List ByteArray} (H:fA w 0 (.slice A l.length c) l) (hl:l.length≤9223372036854775807):l.length≤c∧Kd.C Kd.string w A l.length l:=by
 obtain ⟨A',c',e,h1,h2⟩:=H.kd hl;injection e with e1 e2 e3
 subst e1 e3;exact ⟨h1,h2⟩
theorem aDb (p:ByteArray) (hp:p.size≤1000000) (w:World):Calls Tryz.prog 101 #[.string p] w fun e w'=>e = .returned (.string (iB p))∧Below w.heap.size w w':=by
 obtain ⟨k,hk⟩:=(aBz p hp).rounds
 exact (kJ.calls k p _ w hk).mono fun _ _ ⟨h1,h2⟩=>⟨h1,dP⟩
theorem wJ (p:ByteArray) (hp:p.size≤1000000) (h0:(L p)[0]? = some 47) (w:World):Calls Tryz.prog 102 #[.string p] w fun e w'=>e = .returned (.string (jB p))∧Below w.heap.size w w':=by
 obtain ⟨k,hk⟩:=(zK p hp h0).rounds
 exact (jE.calls k p _ w hk).mono fun _ _ ⟨h1,h2⟩=>⟨h1,dP⟩
theorem sS (t:Int) (w:World):Calls Tryz.prog 105 #[.int .i64 t] w fun e w'=>e = .returned (.bool (jM t))∧Below w.heap.size w w' :=
 (iF.calls t _ w (tZ t)).mono fun _ _ ⟨h1,h2⟩=>⟨h1,dP⟩
theorem aD5 (p:ByteArray) (hp:p.size≤1000000) (w:World):Calls Tryz.prog 106 #[.string p,.int .i64 (p.size:Int)] w fun e w'=>e = .returned (.int .i64 (slI (L p) p.size))∧Below w.heap.size w w':=by
 obtain ⟨k,hk⟩:=(xG p hp).rounds
 exact (eU.calls k p _ _ w hk).mono fun _ _ ⟨h1,h2⟩=>⟨h1,dP⟩
section
variable {w:World} {x:WV} {A0 A1 A2:Option Addr} {c0 c1 c2:Nat} (O:pV x) (S0:fA w 0 (.slice A0 x.ids.length c0) x.ids) (S1:fA w 0 (.slice A1 x.unk.length c1) x.unk) (S2:fA w 0 (.slice A2 x.langs.length c2) x.langs)
include O S0 S1 S2
theorem sI:Calls Tryz.prog 103 #[.agg #[.string x.comp,.string x.path,.string x.name,.int .i64 (x.nEnd:Int),.slice A0 x.ids.length c0,.slice A1 x.unk.length c1,.slice A2 x.langs.length c2,.string x.ext,.string x.fmt,.string x.kind,.string x.lay,.string x.lang,.string x.cust,.bool x.dis,.int .i64 x.typ]] w fun e w'=>e = .returned (.string (pR x.path x.typ))∧Below w.heap.size w w':=by
 have h0:=S0.kd2 (by have:=O.ids;omega);have h1:=S1.kd2 (by have:=O.unk;omega);have h2:=S2.kd2 (by have:=O.langs;omega);obtain ⟨k,hk⟩:=(aB2 O).rounds
 exact (jT.calls k x.comp x.path x.name (x.nEnd:Int) A0 c0 x.ids A1 c1 x.unk A2 c2 x.langs x.ext x.fmt x.kind x.lay x.lang x.cust x.dis x.typ _ w h0.2 h0.1 h1.2 h1.1 h2.2 h2.1 hk).mono fun _ _ ⟨h1,h2⟩=>⟨h1,dP⟩
theorem vF:Calls Tryz.prog 108 #[.agg #[.string x.comp,.string x.path,.string x.name,.int .i64 (x.nEnd:Int),.slice A0 x.ids.length c0,.slice A1 x.unk.length c1,.slice A2 x.langs.length c2,.string x.ext,.string x.fmt,.string x.kind,.string x.lay,.string x.lang,.string x.cust,.bool x.dis,.int .i64 x.typ]] w fun e w'=>e = .returned (.string (kK x))∧Below w.heap.size w w':=by
 have h0:=S0.kd2 (by have:=O.ids;omega);have h1:=S1.kd2 (by have:=O.unk;omega);have h2:=S2.kd2 (by have:=O.langs;omega)
 exact (gE.calls x.comp x.path x.name (x.nEnd:Int) A0 c0 x.ids A1 c1 x.unk A2 c2 x.langs x.ext x.fmt x.kind x.lay x.lang x.cust x.dis x.typ _ w h0.2 h0.1 h1.2 h1.1 h2.2 h2.1 (aAk O)).mono fun _ _ ⟨h1,h2⟩=>⟨h1,dP⟩
theorem aCk:Calls Tryz.prog 107 #[.agg #[.string x.comp,.string x.path,.string x.name,.int .i64 (x.nEnd:Int),.slice A0 x.ids.length c0,.slice A1 x.unk.length c1,.slice A2 x.langs.length c2,.string x.ext,.string x.fmt,.string x.kind,.string x.lay,.string x.lang,.string x.cust,.bool x.dis,.int .i64 x.typ]] w fun e w'=>e = .returned (.string (mE x))∧Below w.heap.size w w':=by
 have h0:=S0.kd2 (by have:=O.ids;omega);have h1:=S1.kd2 (by have:=O.unk;omega);have h2:=S2.kd2 (by have:=O.langs;omega)
 exact (jF.calls x.comp x.path x.name (x.nEnd:Int) A0 c0 x.ids A1 c1 x.unk A2 c2 x.langs x.ext x.fmt x.kind x.lay x.lang x.cust x.dis x.typ _ w h0.2 h0.1 h1.2 h1.1 h2.2 h2.1 (aDz O)).mono fun _ _ ⟨h1,h2⟩=>⟨h1,dP⟩
theorem aBl:Calls Tryz.prog 109 #[.agg #[.string x.comp,.string x.path,.string x.name,.int .i64 (x.nEnd:Int),.slice A0 x.ids.length c0,.slice A1 x.unk.length c1,.slice A2 x.langs.length c2,.string x.ext,.string x.fmt,.string x.kind,.string x.lay,.string x.lang,.string x.cust,.bool x.dis,.int .i64 x.typ]] w fun e w'=>e = .returned (.string (lR x))∧Below w.heap.size w w':=by
 have h0:=S0.kd2 (by have:=O.ids;omega);have h1:=S1.kd2 (by have:=O.unk;omega);have h2:=S2.kd2 (by have:=O.langs;omega);obtain ⟨k,hk⟩:=(aF5 O).rounds
 exact (gM.calls k x.comp x.path x.name (x.nEnd:Int) A0 c0 x.ids A1 c1 x.unk A2 c2 x.langs x.ext x.fmt x.kind x.lay x.lang x.cust x.dis x.typ _ w h0.2 h0.1 h1.2 h1.1 h2.2 h2.1 hk).mono fun _ _ ⟨h1,h2⟩=>⟨h1,dP⟩
theorem sA (s:ByteArray) (hs:s.size≤1000000) (hn:x.name.size≤s.size):Calls Tryz.prog 104 #[.agg #[.string x.comp,.string x.path,.string x.name,.int .i64 (x.nEnd:Int),.slice A0 x.ids.length c0,.slice A1 x.unk.length c1,.slice A2 x.langs.length c2,.string x.ext,.string x.fmt,.string x.kind,.string x.lay,.string x.lang,.string x.cust,.bool x.dis,.int .i64 x.typ],.string s] w fun e w'=>e = .returned (.string (kS x s))∧Below w.heap.size w w':=by
 have h0:=S0.kd2 (by have:=O.ids;omega);have h1:=S1.kd2 (by have:=O.unk;omega);have h2:=S2.kd2 (by have:=O.langs;omega)
 exact (mD.calls x.comp x.path x.name (x.nEnd:Int) A0 c0 x.ids A1 c1 x.unk A2 c2 x.langs x.ext x.fmt x.kind x.lay x.lang x.cust x.dis x.typ s _ w h0.2 h0.1 h1.2 h1.1 h2.2 h2.1 (aC7 O s hs hn)).mono fun _ _ ⟨h1,h2⟩=>⟨h1,dP⟩
end
end Go.Proofs.YtlkoeeccebmjmaaGreatDoor.Path
