/- Texts that the law leans on: WordsOf, Ans2, SpecParse. Condition: as told at each. -/
import Derived.Test.YtlkoeeccebmjmaaGreatDoorXa
import Derived.Test.YtlkoeeccebmjmaaGreatDoorX20
import Derived.Test.YtlkoeeccebmjmaaGreatDoorX21
set_option linter.unusedVariables false
set_option linter.unusedSimpArgs false
set_option maxRecDepth 100000
set_option maxHeartbeats 16000000
namespace Go.Proofs.YtlkoeeccebmjmaaGreatDoor.Path
open Go.RowKit Go.WideMaps Go.ZW.PrintWords Go.Proofs.YtlkoeeccebmjmaaGreatDoor.Base Go.Proofs.YtlkoeeccebmjmaaGreatDoor.Lower Go.Proofs.YtlkoeeccebmjmaaGreatDoor.Total Go.Proofs.YtlkoeeccebmjmaaGreatDoor.PCore
open Go.ZW.PrintLast
section
variable {w:World} {st:fF} {vl vd vf vc:Value}
theorem aEg (path:ByteArray) (hex:∃ j:Nat,(L path)[j]? = some 47):(eP (L (lastB path))).Pairwise (· < ·)∧(∀ c∈eP (L (lastB path)),c < (lastB path).size)∧(eP (L (lastB path))).length≤(lastB path).size:=by
 have Sp:=aC3 (L path) hex;have hl:L (lastB path)=(L path).drop (behind (L path)):=jQ _;rw[← hl] at Sp;obtain ⟨h1,h2⟩:=rN Sp;refine ⟨h1,fun c hc=>by have:=h2 c hc;rwa[eD] at this,?_⟩;rw[(tI Sp).2,← eD];exact Nat.le_trans (List.length_filter_le _ _) (by rw[List.length_range];exact Nat.le_refl _)
theorem hE.fresh (w:World) (B b:Nat):nN w B b (fun _=>.slice none 0 0) (rX kV):=⟨fun i=>(match i with | 0=>rB _ _ _ _ | 1=>rB _ _ _ _ | 2=>rB _ _ _ _ | 3=>rB _ _ _ _),(fun i e=>by cases e),fun i j _=>.inl rfl⟩
def wv (x:WV) (v0 v1 v2:Value):List Value :=
 [.string x.comp,.string x.path,.string x.name,.int .i64 (x.nEnd:Int),v0,v1,v2,.string x.ext,.string x.fmt,.string x.kind,.string x.lay,.string x.lang,.string x.cust,.bool x.dis,.int .i64 x.typ]
theorem aAx (s:ByteArray) (own:Bool) (h:s.size≤900000):(pathOf s own).size≤1000000:=by
 rw[← eD];unfold pathOf;rw[jQ];have:=mText_length (L (if own=true then s else norm s))
 have h2:(L (if own=true then s else norm s)).length≤900000:=by
  rw[eD];cases own
  ·rw[if_neg bF,norm_size];exact h
  exact h
 first | omega | (simp at this ⊢;omega)
theorem aAw (s:ByteArray) (own:Bool):∃ j:Nat,(L (pathOf s own))[j]? = some 47:=by
 refine ⟨0,?_⟩;unfold pathOf;rw[jQ,← List.head?_eq_getElem?];exact mText_head _
theorem aCi (p:ByteArray):(lastB p).size≤p.size:=by
 rw[← eD,← eD];unfold lastB;rw[jQ,List.length_drop];omega
theorem zY (p:ByteArray) (hp:p.size≤1000000) (hex:∃ j:Nat,(L p)[j]? = some 47) (w:World):Calls Tryz.prog 59 #[.string p] w fun e w'=>e = .returned (.string (lastB p))∧Below w.heap.size w w':=by
 obtain ⟨r,hr,h1,_,_⟩:=oS p hp hex;obtain ⟨k,hk⟩:=hr.rounds;have:r=lastB p:=L_inj (h1.trans (jQ _).symm);subst this
 exact (gR.calls k p _ w hk).mono fun _ _ ⟨h1,h2⟩=>⟨h1,h2.below⟩
theorem aHm (p:ByteArray) (hp:p.size≤1000000) (hex:∃ j:Nat,(L p)[j]? = some 47):∀ j:Nat,(L (lastB p))[j]?≠some 47:=by
 obtain ⟨r,hr,h1,_,h3⟩:=oS p hp hex;have:r=lastB p:=L_inj (h1.trans (jQ _).symm);subst this;exact h3
theorem hE.langAt {w:World} {B b:Nat} {G:RdK} {r:RV} {V:Fin 4→Value} (H:hE w B b G r V) (j:Nat) (h:j < r.langs.length):∃ g cap,V 2 = .slice (some ⟨g,0,none⟩) r.langs.length cap∧w.cell? ⟨g,j,none⟩=some (.string (r.langs[j]'h)):=by
 have ho:=H.langsRow;rcases ho.2 with ⟨_,h0⟩ | ⟨g,c,cur,e,_⟩
 ·omega
 have hb:(V 2).ownBlock=some g:=by rw[e];rfl
 have c1:=ho.cells hb j (.string (r.langs[j]'h)) (by rw[List.getElem?_map,List.getElem?_eq_getElem h];rfl);have ad:∀ j,(⟨g,0,none⟩:Addr).add j=⟨g,j,none⟩:=by intro j;unfold Addr.add;split <;> simp_all
 rw[ad] at c1;exact ⟨g,c,e,c1⟩
def uU (l:List ByteArray) (d:ByteArray):ByteArray:=match l with | []=>d | a::_=>a
theorem aFb:∀ (l:List ByteArray) (d:ByteArray) (h:0 < l.length),l[0]'h=uU l d
 | [],_,h=>by cases h
 | _::_,_,_=>rfl
theorem aFa:∀ (l:List ByteArray) (d:ByteArray),¬ 0 < l.length→d=uU l d
 | [],_,_=>rfl
 | _::_,_,h=>absurd (Nat.succ_pos _) h
theorem aG5 (st:fF) (comp path:ByteArray):wOf st comp path=⟨comp,path,lastB path,(kB (gL st comp (eY (L path) fS) (lastB path) (eP (L (lastB path)))).marks ((lastB path).size:Int)).toNat,(gL st comp (eY (L path) fS) (lastB path) (eP (L (lastB path)))).ids,(gL st comp (eY (L path) fS) (lastB path) (eP (L (lastB path)))).unk,(gL st comp (eY (L path) fS) (lastB path) (eP (L (lastB path)))).langs,(gL st comp (eY (L path) fS) (lastB path) (eP (L (lastB path)))).ext,(if eO comp=true∧chooseB (gL st comp (eY (L path) fS) (lastB path) (eP (L (lastB path)))).fmt (gL st comp (eY (L path) fS) (lastB path) (eP (L (lastB path)))).fmt1=⟨#[]⟩∧eP (L (lastB path))≠[]∧gX st (gL st comp (eY (L path) fS) (lastB path) (eP (L (lastB path)))).ext=true then (gL st comp (eY (L path) fS) (lastB path) (eP (L (lastB path)))).ext else chooseB (gL st comp (eY (L path) fS) (lastB path) (eP (L (lastB path)))).fmt (gL st comp (eY (L path) fS) (lastB path) (eP (L (lastB path)))).fmt1),chooseB (gL st comp (eY (L path) fS) (lastB path) (eP (L (lastB path)))).kind (gL st comp (eY (L path) fS) (lastB path) (eP (L (lastB path)))).kind1,chooseB (gL st comp (eY (L path) fS) (lastB path) (eP (L (lastB path)))).lay (gL st comp (eY (L path) fS) (lastB path) (eP (L (lastB path)))).lay1,uU (gL st comp (eY (L path) fS) (lastB path) (eP (L (lastB path)))).langs (gL st comp (eY (L path) fS) (lastB path) (eP (L (lastB path)))).lang1,(gL st comp (eY (L path) fS) (lastB path) (eP (L (lastB path)))).cust,(gL st comp (eY (L path) fS) (lastB path) (eP (L (lastB path)))).dis,mO st comp (L path) (L ((lastB path).extract 0 (kB (gL st comp (eY (L path) fS) (lastB path) (eP (L (lastB path)))).marks ((lastB path).size:Int)).toNat)) (decide (0 < (gL st comp (eY (L path) fS) (lastB path) (eP (L (lastB path)))).ids.length)) (gL st comp (eY (L path) fS) (lastB path) (eP (L (lastB path)))).ext (gL st comp (eY (L path) fS) (lastB path) (eP (L (lastB path)))).baseof⟩:=by
 have e:∀ l:List ByteArray,decide (0 < l.length) = !l.isEmpty:=by intro l;cases l <;> rfl
 rw[e];unfold wOf uU;rfl
theorem tP {w:World} {B n:Nat} {v:Value} {l:List ByteArray} (h:w.ownsRow B 9 1 v n (l.map Value.string)) (hn:n=l.length):fA w B v l:=by
 subst hn;rcases h.2 with ⟨rfl,h0⟩ | ⟨g,c,cur,e,h2,_,hcap,_⟩
 ·obtain rfl:l=[]:=List.eq_nil_of_length_eq_zero h0;exact ⟨none,0,rfl,Nat.le_refl _,fun hp=>absurd hp bF⟩
 have hb:v.ownBlock=some g:=by rw[e];rfl
 refine ⟨some ⟨g,0,none⟩,c,e,aM,fun hp=>⟨g,0,rfl,h2,fun j hj=>?_⟩⟩;have c1:=h.cells hb j (.string (l[j]'hj)) (by rw[List.getElem?_map,List.getElem?_eq_getElem hj];rfl);have ad:∀ j,(⟨g,0,none⟩:Addr).add j=⟨g,j,none⟩:=by intro j;unfold Addr.add;split <;> simp_all
 rw[ad] at c1;rw[Nat.zero_add];exact c1
theorem hE.markAt {w:World} {B b:Nat} {G:RdK} {r:RV} {V:Fin 4→Value} (H:hE w B b G r V) (j:Nat) (h:j < r.marks.length):∃ g cap,V 3 = .slice (some ⟨g,0,none⟩) r.marks.length cap∧w.cell? ⟨g,j,none⟩=some (.int .i64 (r.marks[j]'h)):=by
 have ho:=H.marksRow;rcases ho.2 with ⟨_,h0⟩ | ⟨g,c,cur,e,_⟩
 ·omega
 have hb:(V 3).ownBlock=some g:=by rw[e];rfl
 have c1:=ho.cells hb j (.int .i64 (r.marks[j]'h)) (by rw[List.getElem?_map,List.getElem?_eq_getElem h];rfl);have ad:∀ j,(⟨g,0,none⟩:Addr).add j=⟨g,j,none⟩:=by intro j;unfold Addr.add;split <;> simp_all
 rw[ad] at c1;exact ⟨g,c,e,c1⟩
def xY (w:World) (b:Nat) (V:Fin 4→Value) (A:Option Addr) (l:List Nat):Prop :=
 ∀ j (h:j < l.length),∃ ad,A=some ad∧ad.block < w.heap.size∧ad.block≠b∧(∀ i,some ad.block≠(V i).ownBlock)∧w.cell? (ad.add j)=some (.int .i64 (l[j]'h:Int))
theorem add_block (a:Addr) (j:Nat):(a.add j).block=a.block:=by unfold Addr.add;split <;> rfl
theorem xY.moved {w w' : World} {b:Nat} {V V' : Fin 4→Value} {A:Option Addr} {l:List Nat} (H:xY w b V A l) (h:gZ w w' b V V'):xY w' b V' A l:=by
 intro j hj;obtain ⟨ad,e,h1,h2,h3,h4⟩:=H j hj;refine ⟨ad,e,Nat.lt_of_lt_of_le h1 h.size,h2,fun i=>nO (h.at_ i) h1 (h3 i),?_⟩;rw[World.cell?_of_block (w:=w) (a:=ad.add j) (by rw[add_block];exact h.block _ h1 h2 h3)];exact h4
theorem pV (l:List Nat) (j:Nat) (h:j < l.length):Go.ZW.PrintWords.rd (ints l) (j:Int)=(l[j]:Int):=by
 unfold Go.ZW.PrintWords.rd ints
 simp[h]
theorem yK (s:ByteArray) (hs:s.size≤1000000) (h47:∀ j:Nat,(L s)[j]?≠some 47) (w:World):Calls Tryz.prog 110 #[.string s] w fun e w'=>∃ A c,e = .returned (.slice A (eP (L s)).length c)∧(∀ b,b < w.heap.size→xY w' b (fun _=>.slice none 0 0) A (eP (L s)))∧Below w.heap.size w w':=by
 obtain ⟨r,hr,h1⟩:=vL s hs h47;subst h1;obtain ⟨k,hk⟩:=hr.rounds;refine (eG.calls k s _ w hk).mono ?_;rintro e w' ⟨v,rfl,h,hb⟩;obtain ⟨A,c,e⟩:=Kd.R_slice h;subst e;have hl:(ints (eP (L s))).length=(eP (L s)).length:=by simp[ints]
 have h2:=(Kd.R_reads' h).2.2;obtain ⟨_,inner,hown,_⟩:=h;refine ⟨A,c,by rw[hl],fun b hbl j hj=>?_,hb⟩;obtain ⟨ad,ea,hc⟩:=Kd.at_int h2 (j:Int) bA bA;rw[Int.toNat_natCast,pV _ _ hj] at hc;have hg:=own_base hown ad.block (by rw[ea];rfl);refine ⟨ad,ea,?_,aM,(fun i e=>by cases e),hc⟩;have:=World.block_lt_of_cell? w' (ad.add j) hc;rwa[add_block] at this
theorem aBi (S:lZ w st vl vd vf vc) (O:sU st) (comp s:ByteArray) (own:Bool) (hs:s.size≤900000) :
 Calls Tryz.prog 50 #[.agg #[vl,vd,vf,vc],.string comp,.string s,.bool own] w fun e w'=>∃ v0 v1 v2,e = .returned (.agg (wv (wOf st comp (pathOf s own)) v0 v1 v2).toArray)∧fA w' w.heap.size v0 (wOf st comp (pathOf s own)).ids∧fA w' w.heap.size v1 (wOf st comp (pathOf s own)).unk∧fA w' w.heap.size v2 (wOf st comp (pathOf s own)).langs∧Below w.heap.size w w':=by
 obtain ⟨path,hpath⟩:∃ p,pathOf s own=p:=⟨_,rfl⟩
 have hpz:path.size≤1000000:=by rw[← hpath];exact aAx s own hs
 have hex:∃ j:Nat,(L path)[j]? = some 47:=by rw[← hpath];exact aAw s own
 obtain ⟨name,hname⟩:∃ p,lastB path=p:=⟨_,rfl⟩
 have hnz:name.size≤path.size:=by rw[← hname];exact aCi path
 have hn47:∀ j:Nat,(L name)[j]?≠some 47:=by rw[← hname];exact aHm path hpz hex
 obtain ⟨sc,hsc⟩:∃ q,eY (L path) fS=q:=⟨_,rfl⟩
 have HS:=bW S;obtain ⟨Al,cl,rfl,_,_⟩:=S.l;obtain ⟨Ad,cd,rfl,_,_⟩:=S.d;obtain ⟨Af,cf,rfl,_,_⟩:=S.f;obtain ⟨Ac,cc,rfl,_,_⟩:=S.c;clear S;have hR1:=Row.new w [.slice Al st.langs.length cl,.slice Ad st.dis.length cd,.slice Af st.fmts.length cf,.slice Ac st.cont.length cc] 25;have hB1:Below w.heap.size w (w.alloc (.cells #[.slice Al st.langs.length cl,.slice Ad st.dis.length cd,.slice Af st.fmts.length cf,.slice Ac st.cont.length cc] 25)):=(Below.refl _ _).alloc (Nat.le_refl _) _;go_enter Tryz.func50,Tryz.ntmps50;go_upto_region 1 with fail
 obtain ⟨w1,hw1⟩:∃ x,w.alloc (.cells #[.slice Al st.langs.length cl,.slice Ad st.dis.length cd,.slice Af st.fmts.length cf,.slice Ac st.cont.length cc] 25)=x:=⟨_,rfl⟩
 rw[hw1] at hR1 hB1 ⊢;have hz1:w1.heap.size=w.heap.size+1:=by rw[← hw1];simp
 clear hw1;have hR2:=Row.new w1 WZ.toList 58;have hB2:Below w1.heap.size w1 (w1.alloc (.cells WZ.toList.toArray 58)):=(Below.refl _ _).alloc (Nat.le_refl _) _;change Code.wp _ _ _ _ (w1.alloc (.cells WZ.toList.toArray 58))
 obtain ⟨w2,hw2⟩:∃ x,w1.alloc (.cells WZ.toList.toArray 58)=x:=⟨_,rfl⟩
 have hz2:w2.heap.size=w.heap.size+2:=by rw[← hw2];simp[hz1]
 rw[hw2] at hR2 hB2 ⊢;rw[hz1] at hR2;clear hw2;have HQ1:=bW (hR1.below hB2 bA);have HQ2:=bW hR2;have HB2:=bW (hB1.trans (hB2.mono bA));have hz2:w2.heap.size=w.heap.size+2:=hz2;have HS2w:=bW (HS.out.below HB2.out);clear hR1 hB1 hR2 hB2 hz1;have cp:=pathOf_calls s own w2 bA;rw[hpath] at cp;go_wp2_with fail
 refine cp.mono ?_;rintro e w3 ⟨rfl,hb3⟩;have HB3:=bW hb3;have HQ13:=bW (HQ1.out.below hb3 bA);have HQ23:=bW (HQ2.out.below hb3 bA);have hz3:w.heap.size+2≤w3.heap.size:=Nat.le_trans bA hb3.size;clear cp hb3 HQ1 HQ2;have cl:=zY path hpz hex w3;rw[hname] at cl;go_wp2_with fail
 refine cl.mono ?_;rintro e w4 ⟨rfl,hb4⟩;have HB4:=bW (eA HB3.out hb4);have HQ14:=bW (HQ13.out.below hb4 bA);have HQ24:=bW (HQ23.out.below hb4 bA);have hz4:w.heap.size+2≤w4.heap.size:=Nat.le_trans hz3 hb4.size;clear cl hb4 HQ13 HQ23;have ch:=fun w=>rO path ⟨#[47,95,115,104,111,114,116,99,111,100,101,115,47]⟩ hpz bF w;have h1:eY (L path) (L (⟨#[47,95,115,104,111,114,116,99,111,100,101,115,47]⟩:ByteArray))=sc:=hsc;simp only[h1] at ch;have hlayc:(comp.toList==[108,97,121,111,117,116,115])=eO comp:=rfl;have rc0:=HQ14.out.at 0 _ rfl;have rc1:=HQ14.out.at 1 _ rfl;have rc2:=HQ14.out.at 2 _ rfl;have rc3:=HQ14.out.at 3 _ rfl;go_upto_region 3 with fail
 refine hY (n:=8) (S:=fun w'=>w'.cell? ⟨w.heap.size,0,none⟩=some (.slice Al st.langs.length cl)∧w'.cell? ⟨w.heap.size,1,none⟩=some (.slice Ad st.dis.length cd)∧w'.cell? ⟨w.heap.size,2,none⟩=some (.slice Af st.fmts.length cf)∧w'.cell? ⟨w.heap.size,3,none⟩=some (.slice Ac st.cont.length cc)) (ds:=[]) _ bB rfl rfl ⟨rc0,rc1,rc2,rc3⟩ (fun hHeld=>?_);refine sA1 1 (some 27) sB1 ?_
 refine sA1 2 (some 28) sB1 ?_
 refine sA1 3 (some 29) sB1 ?_
 refine sC1 0 (some 26) sP1 ?_
 refine sF1 4 (some 30) sG1 (fun K hK=>?_);refine lA Tryz.func57 bB rfl #[.string path,.string ⟨#[47,95,115,104,111,114,116,99,111,100,101,115,47]⟩] bH rfl rfl bI ?_
 with_reducible refine ((ch w4.drew)).mono ?_
 rintro e w5 ⟨rfl,hb5⟩;refine ⟨_,rfl,?_⟩;have r0a:=cell_far (w:=w4.drew) rc0 hb5;have r1a:=cell_far (w:=w4.drew) rc1 hb5;have r2a:=cell_far (w:=w4.drew) rc2 hb5;have r3a:=cell_far (w:=w4.drew) rc3 hb5;refine hK.out _ _ ⟨r0a,r1a,r2a,r3a⟩ (fun hHeld=>?_);clear hK K;refine gJ sJ1 ?_
 refine sA1 5 (some 31) sB1 ?_
 refine sF1 6 (some 32) sG1 (fun K hK=>?_);refine kT (w1:=?_) (v:=?_) bH rfl ?_ ?_;rotate_left 2
 ·go_simp;constructor
  ·rfl
  rfl
 have hRb:Below w5.heap.size w5 (w5.alloc (.cells ([.string ⟨#[]⟩,.string ⟨#[]⟩,.string ⟨#[]⟩,.int .i64 0,.slice none 0 0,.slice none 0 0,.slice none 0 0,.string ⟨#[]⟩,.string ⟨#[]⟩,.string ⟨#[]⟩,.string ⟨#[]⟩,.string ⟨#[]⟩,.string ⟨#[]⟩,.bool false,.int .i64 0,.slice Al st.langs.length cl,.slice Ad st.dis.length cd,.slice Af st.fmts.length cf,.slice Ac st.cont.length cc,.bool (eO comp),.bool sc,.int .i64 0,.slice none 0 0,.string ⟨#[]⟩,.string ⟨#[]⟩,.string ⟨#[]⟩,.string ⟨#[]⟩,.bool false,.bool false,.bool false,.int .i64 (-1)]:List Value).toArray 90)):=(Below.refl _ _).alloc (Nat.le_refl _) _
 refine hK.out _ _ ⟨((hRb.cell (World.block_lt_of_cell? w5 ⟨w.heap.size,0,none⟩ r0a)).trans r0a),((hRb.cell (World.block_lt_of_cell? w5 ⟨w.heap.size,1,none⟩ r1a)).trans r1a),((hRb.cell (World.block_lt_of_cell? w5 ⟨w.heap.size,2,none⟩ r2a)).trans r2a),((hRb.cell (World.block_lt_of_cell? w5 ⟨w.heap.size,3,none⟩ r3a)).trans r3a)⟩ (fun hHeld=>?_);clear hK K;refine gJ sJ1 ?_
 refine sA1 7 (some 11) sB1 ?_
 refine iK bB ?_;change Exit.then _ _ _ _ (w5.alloc (.cells ([.string ⟨#[]⟩,.string ⟨#[]⟩,.string ⟨#[]⟩,.int .i64 0,.slice none 0 0,.slice none 0 0,.slice none 0 0,.string ⟨#[]⟩,.string ⟨#[]⟩,.string ⟨#[]⟩,.string ⟨#[]⟩,.string ⟨#[]⟩,.string ⟨#[]⟩,.bool false,.int .i64 0,.slice Al st.langs.length cl,.slice Ad st.dis.length cd,.slice Af st.fmts.length cf,.slice Ac st.cont.length cc,.bool (eO comp),.bool sc,.int .i64 0,.slice none 0 0,.string ⟨#[]⟩,.string ⟨#[]⟩,.string ⟨#[]⟩,.string ⟨#[]⟩,.bool false,.bool false,.bool false,.int .i64 (-1)]:List Value).toArray 90))
 have hb45:Below w4.heap.size w4 w5:=eA ((Below.refl w4.heap.size w4).drew) hb5;clear hHeld hb5 ch h1 hlayc rc0 rc1 rc2 rc3;go_upto_region 5 with fail
 change Code.wp _ _ _ _ (w5.alloc (.cells ([.string comp,.string path,.string name,.int .i64 (name.size:Int),.slice none 0 0,.slice none 0 0,.slice none 0 0,.string ⟨#[]⟩,.string ⟨#[]⟩,.string ⟨#[]⟩,.string ⟨#[]⟩,.string ⟨#[]⟩,.string ⟨#[]⟩,.bool false,.int .i64 0,.slice Al st.langs.length cl,.slice Ad st.dis.length cd,.slice Af st.fmts.length cf,.slice Ac st.cont.length cc,.bool (eO comp),.bool sc,.int .i64 0,.slice none 0 0,.string ⟨#[]⟩,.string ⟨#[]⟩,.string ⟨#[]⟩,.string ⟨#[]⟩,.bool false,.bool false,.bool false,.int .i64 (-1)]:List Value).toArray 90))
 have hRr:=Row.new w5 [.string comp,.string path,.string name,.int .i64 (name.size:Int),.slice none 0 0,.slice none 0 0,.slice none 0 0,.string ⟨#[]⟩,.string ⟨#[]⟩,.string ⟨#[]⟩,.string ⟨#[]⟩,.string ⟨#[]⟩,.string ⟨#[]⟩,.bool false,.int .i64 0,.slice Al st.langs.length cl,.slice Ad st.dis.length cd,.slice Af st.fmts.length cf,.slice Ac st.cont.length cc,.bool (eO comp),.bool sc,.int .i64 0,.slice none 0 0,.string ⟨#[]⟩,.string ⟨#[]⟩,.string ⟨#[]⟩,.string ⟨#[]⟩,.bool false,.bool false,.bool false,.int .i64 (-1)] 90
 have hbr:Below w5.heap.size w5 (w5.alloc (.cells ([.string comp,.string path,.string name,.int .i64 (name.size:Int),.slice none 0 0,.slice none 0 0,.slice none 0 0,.string ⟨#[]⟩,.string ⟨#[]⟩,.string ⟨#[]⟩,.string ⟨#[]⟩,.string ⟨#[]⟩,.string ⟨#[]⟩,.bool false,.int .i64 0,.slice Al st.langs.length cl,.slice Ad st.dis.length cd,.slice Af st.fmts.length cf,.slice Ac st.cont.length cc,.bool (eO comp),.bool sc,.int .i64 0,.slice none 0 0,.string ⟨#[]⟩,.string ⟨#[]⟩,.string ⟨#[]⟩,.string ⟨#[]⟩,.bool false,.bool false,.bool false,.int .i64 (-1)]:List Value).toArray 90)):=(Below.refl _ _).alloc (Nat.le_refl _) _
 obtain ⟨w6,hw6⟩:∃ x,w5.alloc (.cells ([.string comp,.string path,.string name,.int .i64 (name.size:Int),.slice none 0 0,.slice none 0 0,.slice none 0 0,.string ⟨#[]⟩,.string ⟨#[]⟩,.string ⟨#[]⟩,.string ⟨#[]⟩,.string ⟨#[]⟩,.string ⟨#[]⟩,.bool false,.int .i64 0,.slice Al st.langs.length cl,.slice Ad st.dis.length cd,.slice Af st.fmts.length cf,.slice Ac st.cont.length cc,.bool (eO comp),.bool sc,.int .i64 0,.slice none 0 0,.string ⟨#[]⟩,.string ⟨#[]⟩,.string ⟨#[]⟩,.string ⟨#[]⟩,.bool false,.bool false,.bool false,.int .i64 (-1)]:List Value).toArray 90)=x:=⟨_,rfl⟩
 rw[hw6] at hRr hbr ⊢;clear hw6;have hz5:w.heap.size+2≤w5.heap.size:=Nat.le_trans hz4 hb45.size
 obtain ⟨b,hb⟩:∃ x,w5.heap.size=x:=⟨_,rfl⟩
 rw[hb] at hRr hz5 ⊢;have hb46:Below w4.heap.size w4 w6:=eA hb45 hbr;have HQ16:=bW (HQ14.out.below hb46 bA);have HQ26:=bW (HQ24.out.below hb46 bA);have HB6:=bW (eA HB4.out hb46);have hbb:w2.heap.size≤b:=by omega
 obtain ⟨cuts,hcuts⟩:∃ c,eP (L name)=c:=⟨_,rfl⟩
 obtain ⟨G0,hG0⟩:∃ G:RdK,(⟨comp,path,name,(name.size:Int),⟨#[]⟩,0,.slice Al st.langs.length cl,.slice Ad st.dis.length cd,.slice Af st.fmts.length cf,.slice Ac st.cont.length cc,eO comp,sc,0⟩:RdK)=G:=⟨_,rfl⟩
 have hrd:hE w6 w2.heap.size b G0 kV (fun _=>.slice none 0 0):=⟨hbb,by rw[← hG0];exact hRr,hE.fresh _ _ _⟩
 have HR6:=bW hrd;have HG0:=bW hG0;clear hb45 hbr hz4 hz5 hb46 HQ14 HQ24 HB3 HB4 hRr hrd hb hG0 hz3;have cq:=yK name bA hn47 w6;rw[hcuts] at cq;go_wp2_with fail
 refine cq.mono ?_;rintro e w7 ⟨Ak,ck,rfl,hcr,hb7⟩;have HCR:=bW (hcr b HR6.out.lt);have HB7:=bW (eA HB6.out hb7);have HR7:=bW (HR6.out.below hb7);have HQ17:=bW (HQ16.out.below hb7 (by have:=HR6.out.lt;omega));have HQ27:=bW (HQ26.out.below hb7 (by have:=HR6.out.lt;omega));clear cq hcr hb7 HQ16 HQ26 HR6 HB6;have rc21:=HR7.out.row.at 21 _ rfl;have rf21:=HR7.out.row.free 21 bN;go_upto_region 7 with fail
 obtain ⟨G,hG⟩:∃ G:RdK,{ G0 with pts:=(cuts.length:Int) }=G:=⟨_,rfl⟩
 obtain ⟨hR,hM⟩:=HR7.out.put 21 (.int .i64 cuts.length) G kV (by rw[← hG];rfl) rfl bA
 obtain ⟨w8,hw8⟩:∃ x,w7.setCell ⟨b,21,none⟩ (.int .i64 cuts.length)=x:=⟨_,rfl⟩
 rw[hw8] at hR hM ⊢;have hb78:Below w2.heap.size w7 w8:=HR7.out.moved hM;have HR8:=bW hR;have HB8:=bW (HB7.out.trans hb78);have HQ18:=bW (HQ17.out.below hb78 bA);have HQ28:=bW (HQ27.out.below hb78 bA);have HC8:=bW (HCR.out.moved hM);have HG:=bW hG;clear hR hM hw8 hb78 rc21 rf21 HR7 HB7 HQ17 HQ27 HCR hG;go_upto_region 9 with fail
 have hcu:=aEg path hex;rw[hname,hcuts] at hcu;obtain ⟨hup,hlt,hcl⟩:=hcu
 obtain ⟨nc,hnc⟩:∃ n,cuts.length=n:=⟨_,rfl⟩
 have hD0:=zS st comp sc name cuts
 obtain ⟨rF,hrF⟩:∃ r,gL st comp sc name cuts=r:=⟨_,rfl⟩
 have HUP:=bW hup;have HLT:=bW hlt;have HNC:=bW hnc;have HRF:=bW hrF;have hcn:nc≤1000000:=by rw[← hnc];omega
 have hnz' : name.size≤1000000:=by omega
 have hlayG:G.lay=eO G.comp:=by rw[← HG.out,← HG0.out]
 have hptG:G.pts=(nc:Int):=by rw[← HG.out,← hnc]
 have hlayC:G.lay=eO comp:=by rw[← HG.out,← HG0.out]
 have hcoG:G.comp=comp:=by rw[← HG.out,← HG0.out]
 have hshG:G.short=sc:=by rw[← HG.out,← HG0.out]
 have hs0G:lZ w2 st G.s0 G.s1 G.s2 G.s3:=by rw[← HG.out,← HG0.out];exact HS2w.out
 have HS2:=bW hs0G;rw[hnc];rw[show wrap64 ((nc:Int) - 1)=(nc:Int) - 1 from w64 bA bA];have hend0:(name.size:Int)=((dK st comp sc name cuts 0).2:Int):=by rw[hD0]
 clear hD0 hup hlt hnc hrF hcl
 go_loopg [13,14] (nc+2) (fun g s13 s14 wr=>∃ (k:Nat) (V:Fin 4→Value) (rk:RV) (e:Int),k≤nc+1∧(nc=0→k=0)∧g=nc+2 - k∧s13 = .int .i64 e∧s14 = .int .i64 ((nc:Int) - 1 - (k:Int)) ∧
  Aside0 ((k≤nc→rk=(dK st comp sc name cuts k).1∧e=((dK st comp sc name cuts k).2:Int))∧(k=nc+1→rk=rF))∧Aside0 (hE wr w2.heap.size b G rk V)∧Aside0 (xY wr b V Ak cuts)∧Aside0 (Below w2.heap.size w2 wr)∧Aside0 (Row wr w.heap.size [.slice Al st.langs.length cl,.slice Ad st.dis.length cd,.slice Af st.fmts.length cf,.slice Ac st.cont.length cc])∧Aside0 (Row wr (w.heap.size+1) WZ.toList))
 case atStart=>exact ⟨0,_,kV,(name.size:Int),Nat.zero_le _,fun _=>rfl,rfl,rfl,aZ,⟨fun _=>⟨rfl,hend0⟩,fun h=>by omega⟩,HR8,HC8,HB8,HQ18,HQ28⟩
 case round =>
  obtain ⟨k,V,rk,e,hk,hk0,hg,rfl,rfl,HD,HR,HC,HB,HQ1,HQ2⟩:=hrel;clear HR8 HC8 HB8 HQ18 HQ28 hend0;go_upto_region 9 with fail
  go_cut [12,13,14,60] from 54 to 60 (fun s12 s13 s14 sx wx=>s12 = .slice Ak nc ck∧s13 = .int .i64 e∧s14 = .int .i64 ((nc:Int) - 1 - (k:Int))∧sx = .bool (decide (0 < nc∧k≤nc))∧wx=wr)
  case first =>
   by_cases c0:0 < nc
   ·by_cases c1:k≤nc
    ·go_wp2_with fail
     go_meet
     case rel=>exact ⟨rfl,rfl,rfl,congrArg Value.bool (decide_eq_true (show 0 < nc∧k≤nc from ⟨c0,c1⟩)).symm,rfl⟩
    go_wp2_with fail
    go_meet
    case rel=>exact ⟨rfl,rfl,rfl,congrArg Value.bool (decide_eq_false (show ¬ (0 < nc∧k≤nc) from fun h=>c1 h.2)).symm,rfl⟩
   have hk9:=hk0 bA;go_wp2_with fail
   go_meet
   case rel=>exact ⟨(by first | rfl | (congr 1;omega)),(by first | rfl | (congr 1;omega)),(by first | rfl | (congr 1;omega)),congrArg Value.bool (decide_eq_false (show ¬ (0 < nc∧k≤nc) from fun h=>c0 h.1)).symm,rfl⟩
  obtain ⟨rfl,rfl,rfl,rfl,hwc⟩:=hcut;obtain rfl:wr=wc:=hwc.symm;clear hwc
  by_cases hrun:0 < nc∧k≤nc
  ·rw[decide_eq_true hrun];obtain ⟨hn0,hkn⟩:=hrun;clear hk0;obtain ⟨hrk,hek⟩:=HD.out.1 hkn;have hsm:oQ rk k:=by rw[hrk];exact tA st comp sc name cuts k (by rw[HNC.out];exact hkn)
   obtain ⟨at_,hat⟩:∃ q:Int,(if h:k < nc then ((cuts[nc - 1 - k]'(by rw[HNC.out];omega):Nat):Int) else -1)=q:=⟨_,rfl⟩
   obtain ⟨fr,hfr⟩:∃ q:Nat,(if h:k < nc then cuts[nc - 1 - k]'(by rw[HNC.out];omega)+1 else 0)=q:=⟨_,rfl⟩
   go_upto_region 11 with fail
   go_cut [15,16] from 63 to 63 (fun s15 s16 wx=>s15 = .int .i64 (-1)∧s16 = .int .i64 0∧wx=wr)
   case first =>
    go_wp2_with fail
    go_meet
    case rel=>exact ⟨rfl,rfl,rfl⟩
   obtain ⟨rfl,rfl,hwc⟩:=hcut;obtain rfl:wr=wc:=hwc.symm;clear hwc;refine (show ∀ (a:Act) (w:World),Code.wp _ _ _ a w→_ from by assumption) _ _ ?_;refine wp_seq_k (fun J2 hJ2=>?_)
   go_cut [12,13,14,15,16] from 63 to 73 (fun s12 s13 s14 s15 s16 wx=>s12 = .slice Ak nc ck∧s13 = .int .i64 e∧s14 = .int .i64 ((nc:Int) - 1 - (k:Int))∧s15 = .int .i64 at_∧s16 = .int .i64 (fr:Int)∧Aside0 (∃ m,wx=wr.drewN m))
   case first =>
    clear hJ2
    by_cases hkl:k < nc
    ·obtain ⟨ad,ead,_,_,_,hcell⟩:=HC.out (nc - 1 - k) (by rw[HNC.out];omega);rw[dif_pos hkl] at hat hfr
     obtain ⟨c,hc⟩:∃ c,cuts[nc - 1 - k]'(by rw[HNC.out];omega)=c:=⟨_,rfl⟩
     have hcm:c < name.size:=by rw[← hc];exact HLT.out _ (List.getElem_mem _)
     rw[hc] at hcell hat hfr;have hcell2:=hcell;have hat2:(c:Int)=at_:=hat
     have hfr2:((c:Int)+1)=(fr:Int):=by omega
     clear hat hfr hcell hc HC;subst ead;have hb1:((0:Int)≤(nc:Int) - 1 - (k:Int))=True:=eq_true bA;have hb2:((nc:Int) - 1 - (k:Int) < (nc:Int))=True:=eq_true bA;have hb3:((nc:Int) - 1 - (k:Int) < 0)=False:=eq_false bA;go_upto_region 13 with fail
     refine hY (n:=11) (S:=fun w'=>w'.cell? (ad.add (nc - 1 - k))=some (.int .i64 (c:Int))) (ds:=[]) _ bB rfl rfl (hcell2) (fun hHeld=>?_);refine sA1 0 (some 65) sB1 ?_
     refine sA1 1 (some 66) sB1 ?_
     refine sA1 2 (some 67) sB1 ?_
     refine sA1 4 (some 69) sB1 ?_
     refine sA1 5 (some 70) sB1 ?_
     refine sA1 6 (some 71) sB1 ?_
     refine sC1 3 (some 68) sK1 ?_
     refine sA1 9 (some 15) sB1 ?_
     refine sC1 7 (some 72) sK1 ?_
     refine sA1 8 (some 73) sB1 ?_
     refine sA1 10 (some 16) sB1 ?_
     refine iK bB ?_;go_wp2_with fail
     go_meet
     case rel=>exact ⟨rfl,rfl,rfl,by first | rfl | rw[hat2],by first | rw[w64 (n:=at_+1) bA bA,← hat2,hfr2] | rw[w64 (n:=(c:Int)+1) bA bA,hfr2],⟨⟨_,rfl⟩⟩⟩
    rw[dif_neg hkl] at hat hfr;have hke:k=nc:=by omega
    go_wp2_with fail
    go_meet
    case rel=>exact ⟨rfl,rfl,rfl,by rw[hat],by rw[← hfr];rfl,⟨⟨0,rfl⟩⟩⟩
   obtain ⟨rfl,rfl,rfl,rfl,rfl,HDR⟩:=hcut;obtain ⟨m,rfl⟩:=HDR.out;refine hJ2 _ _ ?_;clear hJ2 HDR
   have hfe:(fr:Int)≤e∧e≤(name.size:Int):=by
    rw[hek,← hfr]
    by_cases hkl:k < nc
    ·rw[dif_pos hkl];have h9:=aJs st comp sc name cuts HUP.out HLT.out k (by rw[HNC.out];exact hkl);simp only[HNC.out] at h9;omega
    rw[dif_neg hkl];have hke:k=nc:=by omega
    subst hke;have h9:=aIo st comp sc name cuts HLT.out (by intro h;rw[h] at HNC;have:=HNC.out;simp at this;omega);rw[HNC.out] at h9;omega
   obtain ⟨en,hen⟩:∃ n:Nat,e=(n:Int):=⟨e.toNat,aM⟩
   have hen2:(dK st comp sc name cuts k).2=en:=by omega
   have hfe1:fr≤en:=by omega
   have hfe2:en≤name.size:=by omega
   obtain ⟨word,hword⟩:∃ x,name.extract fr en=x:=⟨_,rfl⟩
   have hwz:word.size≤1000000:=by rw[← hword];exact Nat.le_trans (iH _ _ _) hnz'
   obtain ⟨rn,hrn⟩:∃ x,mC st comp sc nc rk word at_=x:=⟨_,rfl⟩
   have hsm2:oQ rn (k+1):=by rw[← hrn];exact hsm.word ..
   have hnext:(k+1≤nc→rn=(dK st comp sc name cuts (k+1)).1∧at_=((dK st comp sc name cuts (k+1)).2:Int))∧(k+1=nc+1→rn=rF):=by
    refine ⟨fun h=>?_,fun h=>?_⟩
    ·have hkl:k < nc:=by omega
     rw[dif_pos hkl] at hat hfr;have h1:=qW st comp sc name cuts k (by rw[HNC.out];exact hkl)
     have h2:(dK st comp sc name cuts (k+1)).2=cuts[nc - 1 - k]'(by rw[HNC.out];omega):=by
      have:=aB1 st comp sc name cuts k (by rw[HNC.out];exact hkl);simp only[HNC.out] at this;exact this
     refine ⟨?_,by rw[h2];exact hat.symm⟩;rw[h1];unfold nE;simp only[HNC.out,hen2];rw[← hrn,← hword,← hfr,← hat,hrk]
    have hkl:¬ k < nc:=by omega
    have hke:k=nc:=by omega
    rw[dif_neg hkl] at hat hfr;subst hke;rw[← HRF.out,tB st comp sc name cuts (by intro h9;rw[h9] at HNC;have:=HNC.out;simp at this;omega),HNC.out,hen2,← hrn,← hword,← hfr,← hat,hrk]
   have HNX:=bW hnext;have HRN:=bW hrn
   have hk1:(k=0)↔rk.ids=[]:=by
    constructor
    ·intro h;subst h;rw[hrk,zS];rfl
    intro h;rcases Nat.eq_zero_or_pos k with h0 | h0
    ·exact h0
    rw[hrk] at h;exact absurd h (aE1 st comp sc name cuts k h0 (by rw[HNC.out];exact hkn))
   subst hen;have HRm:=bW (HR.out.below (eV.below (w:=wr) ⟨m,rfl⟩));have HCm:=bW (HC.out.moved (b:=b) (V':=V) (.of_below (eV.below (w:=wr) ⟨m,rfl⟩)));have HBm:=bW (eA HB.out (eV.below (w:=wr) ⟨m,rfl⟩));have HQ1m:=bW (HQ1.out.below (eV.below (w:=wr) ⟨m,rfl⟩) (by have:=HR.out.lt;omega));have HQ2m:=bW (HQ2.out.below (eV.below (w:=wr) ⟨m,rfl⟩) (by have:=HR.out.lt;omega))
   obtain ⟨wm,hwm⟩:∃ x,wr.drewN m=x:=⟨_,rfl⟩
   rw[hwm] at HRm HCm HBm HQ1m HQ2m ⊢;clear hwm hat hfr hfe hnext hrn HR HC HB HQ1 HQ2 hek hen2 hrk HD;have hq1:(fr:Int)≤(en:Int):=by omega
   have hq2:(en:Int)≤(name.size:Int):=by omega
   have cw:=aBl word hwz wm;go_upto_region 15 with fail
   first | rw[hword] | skip
   go_cut [18,19] from 78 to 82 (fun s18 s19 wx=>∃ x:ByteArray,s18 = .string x∧s19 = .bool (iE (L word))∧Aside0 (iE (L word)=true→x=fP word)∧x.size≤word.size∧Aside0 (Below wm.heap.size wm wx))
   case first =>
    go_wp2_with fail
    refine cw.mono ?_;rintro e w9 ⟨x,rfl,hx1,hx2,hb9⟩;have HB9:=bW hb9;have HX1:=bW hx1;clear cw hb9 hx1;go_wp2_with fail
    go_meet
    case rel=>exact ⟨x,rfl,rfl,HX1,hx2,HB9⟩
   obtain ⟨x,rfl,rfl,HX1,hx2,HB9⟩:=hcut
   obtain ⟨w9,rfl⟩:∃ y,y=wc:=⟨_,rfl⟩
   have HR9:=bW (HRm.out.below HB9.out);have HC9:=bW (HCm.out.moved (b:=b) (V':=V) (.of_below HB9.out));have HBx:=bW (eA HBm.out HB9.out);have HQ19:=bW (HQ1m.out.below HB9.out (by have:=HRm.out.lt;omega));have HQ29:=bW (HQ2m.out.below HB9.out (by have:=HRm.out.lt;omega));clear cw HB9 HRm HCm HBm HQ1m HQ2m;refine (show ∀ (a:Act) (w:World),Code.wp _ _ _ a w→_ from by assumption) _ _ ?_;refine wp_seq_k (fun J3 hJ3=>?_)
   go_cut [12,14,15,17,18,19] from 83 to 108 (fun s12 s14 s15 s17 s18 s19 wx=>s12 = .slice Ak nc ck∧s14 = .int .i64 ((nc:Int) - 1 - (k:Int))∧s15 = .int .i64 at_∧s17 = .string word∧∃ V2,Aside0 (hE wx w2.heap.size b G rn V2)∧Aside0 (gZ w9 wx b V V2))
   case first =>
    clear hJ3;have hw64:wrap64 ((nc:Int) - 1)=(nc:Int) - 1:=w64 bA bA
    by_cases hk0:k=0
    ·have hids:=hk1.1 hk0;have hrn2:rn=oR rk word at_:=by rw[← HRN.out];unfold mC;rw[if_pos hids]
     have heq:(((nc:Int) - 1 - (k:Int))==((nc:Int) - 1))=true:=beq_iff_eq.2 bA;have ci:=jH HR9.out word at_ (by have:=hsm.ids;omega) (by have:=hsm.marks;omega)
     clear hk1 hids;go_wp2_with fail
     refine ci.mono ?_;rintro e w10 ⟨rfl,V2,hR2,hM2⟩;have HR10:=bW hR2;have HM10:=bW hM2;clear ci hR2 hM2;have rc7:=HR10.out.row.at 7 _ rfl;have rf7:=HR10.out.row.free 7 bN;go_wp2_with fail
     obtain ⟨hR,hM⟩:=HR10.out.put 7 (.string word) G (oR rk word at_) rfl rfl bA;rw[← hrn2] at hR;have HR11:=bW hR;have HM11:=bW (HM10.out.trans hM);clear hR hM
     go_meet
     case rel=>exact ⟨rfl,(by first | rfl | (congr 1;omega)),rfl,rfl,_,HR11,HM11⟩
    have hids:rk.ids≠[]:=fun h=>hk0 (hk1.2 h);have heq:(((nc:Int) - 1 - (k:Int))==((nc:Int) - 1))=false:=beq_eq_false_iff_ne.2 bA
    cases hw9:iE (L word) with
    | true =>
     have hrn2:rn=jJ st G.lay rk word x at_:=by rw[← HRN.out];unfold mC lS;rw[if_neg hids,if_pos hw9,HX1.out hw9,hlayG,hcoG]
     have ci:=aBm HS2.out O HBx.out HR9.out word x at_ bA (by have:=hsm.ids;omega) (by have:=hsm.marks;omega) (by have:=hsm.langs;omega)
     rw[← hrn2] at ci;clear hk1 hids hrn2;go_wp2_with fail
     refine ci.mono ?_;rintro e w10 ⟨rfl,V2,hR2,hM2⟩;have HR10:=bW hR2;have HM10:=bW hM2;clear ci hR2 hM2;go_wp2_with fail
     go_meet
     case rel=>exact ⟨rfl,rfl,rfl,rfl,_,HR10,HM10⟩
    | false =>
     have hrn2:rn=jK st G.comp G.short nc rk word at_:=by rw[← HRN.out];unfold mC lS;rw[if_neg hids,if_neg (by rw[hw9];decide),hcoG,hshG]
     have ci:=aCu HS2.out O HBx.out HR9.out word at_ hwz (by have:=hsm.ids;omega) (by have:=hsm.marks;omega) (by have:=hsm.unk;omega) hlayG nc hptG hsm.lay
     rw[← hrn2] at ci;clear hk1 hids hrn2;go_wp2_with fail
     refine ci.mono ?_;rintro e w10 ⟨rfl,V2,hR2,hM2⟩;have HR10:=bW hR2;have HM10:=bW hM2;clear ci hR2 hM2;go_wp2_with fail
     go_meet
     case rel=>exact ⟨rfl,rfl,rfl,rfl,_,HR10,HM10⟩
   obtain ⟨rfl,rfl,rfl,rfl,V2,HR10,HM10⟩:=hcut
   obtain ⟨w10,rfl⟩:∃ y,y=wc:=⟨_,rfl⟩
   refine hJ3 _ _ ?_;have hbm:=HR9.out.moved HM10.out;have HC10:=bW (HC9.out.moved HM10.out);have HB10:=bW (HBx.out.trans hbm);have HQ110:=bW (HQ19.out.below hbm bA);have HQ210:=bW (HQ29.out.below hbm bA);clear hJ3 hbm HR9 HC9 HBx HQ19 HQ29 HM10 hk1;go_wp2_with fail
   go_roundg (nc+2 - (k+1))
   case rel=>exact ⟨k+1,V2,rn,at_,aM,(fun h=>by omega),rfl,rfl,aZ,⟨HNX.out⟩,HR10,HC10,HB10,HQ110,HQ210⟩
   case measure=>omega
  rw[decide_eq_false hrun]
  have hfin:rk=rF:=by
   rcases Nat.eq_zero_or_pos nc with h0 | h0
   ·have hc0:cuts=[]:=List.eq_nil_of_length_eq_zero (by rw[HNC.out];exact h0);have:=hk0 h0;subst this;rw[(HD.out.1 bA).1,← HRF.out,hc0];rfl
   exact HD.out.2 bA
  subst hfin
  obtain ⟨mk,hmk⟩:∃ n,rk.marks.length=n:=⟨_,rfl⟩
  obtain ⟨A3,c3,e3⟩:=fL HR.out.marksRow;rw[hmk] at e3;have HMK:=bW hmk;have HE3:=bW e3;have hG0:{ G with nEnd:=kB (rk.marks.take 0) (name.size:Int) }=G:=by rw[← HG.out,← HG0.out];rfl
  have hsmF:mk≤1000001:=by
   rw[← hmk,← HRF.out]
   by_cases hc0:cuts=[]
   ·rw[hc0];exact Nat.zero_le _
   rw[tB st comp sc name cuts hc0];have:=((tA st comp sc name cuts cuts.length (Nat.le_refl _)).word st comp sc cuts.length (name.extract 0 (dK st comp sc name cuts cuts.length).2) (-1)).marks;have:=HNC.out;omega
  clear hmk e3 hrun hk0 HD hk;go_upto_region 24 with fail
  go_loopg [20] (mk+1) (fun g s20 wr=>∃ k:Nat,k≤mk∧g=mk+1 - k∧s20 = .int .i64 (k:Int)∧Aside0 (hE wr w2.heap.size b { G with nEnd:=kB (rk.marks.take k) (name.size:Int) } rk V)∧Aside0 (Below w2.heap.size w2 wr)∧Aside0 (Row wr w.heap.size [.slice Al st.langs.length cl,.slice Ad st.dis.length cd,.slice Af st.fmts.length cf,.slice Ac st.cont.length cc])∧Aside0 (Row wr (w.heap.size+1) WZ.toList))
  case atStart=>exact ⟨0,Nat.zero_le _,rfl,rfl,⟨by rw[hG0];exact HR.out⟩,HB,HQ1,HQ2⟩
  case round =>
   obtain ⟨k2,hk2,hg2,rfl,HR2,HB2x,HQ12,HQ22⟩:=hrel;clear HR HB HQ1 HQ2 HC hG0;have rc22:wr.cell? ⟨b,22,none⟩=some (.slice A3 mk c3):=by rw[← HE3.out];exact HR2.out.row.at 22 _ rfl
   by_cases hlt2:k2 < mk
   ·obtain ⟨g3,cap3,ev3,hcell⟩:=HR2.out.markAt k2 (by rw[HMK.out];exact hlt2);rw[HE3.out] at ev3;injection ev3 with ev3
    subst ev3
    obtain ⟨m3,hm3⟩:∃ m,rk.marks[k2]'(by rw[HMK.out];exact hlt2)=m:=⟨_,rfl⟩
    rw[hm3] at hcell
    obtain ⟨N3,hN3⟩:∃ n,kB (rk.marks.take k2) (name.size:Int)=n:=⟨_,rfl⟩
    have hnx:kB (rk.marks.take (k2+1)) (name.size:Int)=if 0≤m3∧m3 < N3 then m3 else N3:=by rw[aGx _ _ _ (by rw[HMK.out];exact hlt2),hm3,hN3]
    have HNX:=bW hnx;rw[hN3] at HR2;have rc3:=HR2.out.row.at 3 _ rfl;have rf3:=HR2.out.row.free 3 bN;have hltI:((k2:Int) < (mk:Int))=True:=eq_true bA;clear hm3 hN3 hnx
    by_cases h0:0≤m3
    ·by_cases h1:m3 < N3
     ·go_wp2_with fail
      go_quiet (fail)
      have hbd:Below wr.heap.size wr (wr.drewN nq):=eV.below ⟨_,rfl⟩;obtain ⟨hR,hM⟩:=(HR2.out.below hbd).put 3 (.int .i64 m3) { G with nEnd:=m3 } rk rfl rfl bA;have hbm:=(HR2.out.below hbd).moved hM;have HB3x:=bW ((HB2x.out.trans (hbd.mono (by have:=HB2x.out.size;omega))).trans hbm);have HQ13:=bW ((HQ12.out.below hbd bS).below hbm bA);have HQ23:=bW ((HQ22.out.below hbd bS).below hbm bA);have HR3:=bW hR;clear hbd hR hM hbm;go_wp2_with fail
      go_roundg (mk+1 - (k2+1))
      case rel=>exact ⟨k2+1,aM,rfl,aZ,⟨by rw[HNX.out,if_pos ⟨h0,h1⟩];exact HR3.out⟩,HB3x,HQ13,HQ23⟩
      case measure=>omega
     go_upto_region 26 with fail
     have hz1:(m3 < N3)=False:=eq_false bA;go_quiet (fail)
     have hbd:Below wr.heap.size wr (wr.drewN nq):=eV.below ⟨_,rfl⟩;have HB3x:=bW (HB2x.out.trans (hbd.mono (by have:=HB2x.out.size;omega)));have HQ13:=bW (HQ12.out.below hbd bS);have HQ23:=bW (HQ22.out.below hbd bS);have HR3:=bW (HR2.out.below hbd);clear hbd;go_wp2_with fail
     go_roundg (mk+1 - (k2+1))
     case rel=>exact ⟨k2+1,aM,rfl,aZ,⟨by rw[HNX.out,if_neg (fun h=>by omega)];exact HR3.out⟩,HB3x,HQ13,HQ23⟩
     case measure=>omega
    go_upto_region 26 with fail
    have hz1:(0≤m3)=False:=eq_false bA;go_quiet (fail)
    have hbd:Below wr.heap.size wr (wr.drewN nq):=eV.below ⟨_,rfl⟩;have HB3x:=bW (HB2x.out.trans (hbd.mono (by have:=HB2x.out.size;omega)));have HQ13:=bW (HQ12.out.below hbd bS);have HQ23:=bW (HQ22.out.below hbd bS);have HR3:=bW (HR2.out.below hbd);clear hbd;go_wp2_with fail
    go_roundg (mk+1 - (k2+1))
    case rel=>exact ⟨k2+1,aM,rfl,aZ,⟨by rw[HNX.out,if_neg (fun h=>by omega)];exact HR3.out⟩,HB3x,HQ13,HQ23⟩
    case measure=>omega
   have hke:k2=mk:=by omega
   subst hke;rw[List.take_of_length_le (by rw[HMK.out];exact Nat.le_refl _)] at HR2
   obtain ⟨G2,hG2⟩:∃ q:RdK,{ G with nEnd:=kB rk.marks (name.size:Int) }=q:=⟨_,rfl⟩
   rw[hG2] at HR2;have HG2:=bW hG2;have HBawr:=HB2x;have HQawr:=HQ12;have HQbwr:=HQ22;have hlenV:=HR2.out.base;obtain ⟨A2,c2,e2⟩:=fL HR2.out.langsRow;have HE2:=bW e2
   obtain ⟨ln,hln⟩:∃ n,rk.langs.length=n:=⟨_,rfl⟩
   have HLN:=bW hln;have rc6:wr.cell? ⟨b,6,none⟩=some (.slice A2 ln c2):=by rw[← hln,← e2];exact HR2.out.row.at 6 _ rfl
   clear hG2 e2 hln HB2x HQ12 HQ22 hlt2 hk2 hg2;go_upto_region 28 with fail
   go_cut [159] from 153 to 158 (fun sx wx=>sx = .bool (decide (0 < ln))∧wx=wr)
   case first =>
    go_wp2_with fail
    go_meet
    case rel=>exact ⟨congrArg Value.bool (decide_eq_decide.2 bA),rfl⟩
   obtain ⟨rfl,hwc⟩:=hcut;obtain rfl:wr=wc:=hwc.symm;clear hwc rc6
   obtain ⟨lang,hlang⟩:∃ x,uU rk.langs rk.lang1=x:=⟨_,rfl⟩
   have HLG:=bW hlang;refine (show ∀ (a:Act) (w:World),Code.wp _ _ _ a w→_ from by assumption) _ _ ?_
   go_cut [159] from 160 to 178 (fun s159 wx=>Aside0 (hE wx w2.heap.size b { G2 with lang:=lang } rk V∧gZ wr wx b V V))
   case first =>
    have rf11:=HR2.out.row.free 11 bN;have rc11:=HR2.out.row.at 11 _ rfl;have hpt:=HR2.out.put 11 (.string lang) { G2 with lang:=lang } rk rfl rfl bA;have HPT:=bW hpt;clear hpt
    by_cases hl0:0 < ln
    ·rw[decide_eq_true hl0];obtain ⟨g2,cap2,ev2,hcell⟩:=HR2.out.langAt 0 (by rw[HLN.out];exact hl0)
     have hl1:rk.langs[0]'(by rw[HLN.out];exact hl0)=lang:=by
      rw[← hlang];exact aFb _ _ _
     rw[hl1] at hcell;rw[HLN.out] at ev2;have rc6:wr.cell? ⟨b,6,none⟩=some (.slice (some ⟨g2,0,none⟩) ln cap2):=by rw[← ev2];exact HR2.out.row.at 6 _ rfl
     clear hl1 ev2 hlang;go_wp2_with fail
     go_meet
     case rel=>exact HPT
    rw[decide_eq_false hl0]
    have hl1:rk.lang1=lang:=by
     rw[← hlang];exact aFa _ _ (by rw[HLN.out];exact hl0)
    have rc23:wr.cell? ⟨b,23,none⟩=some (.string lang):=by rw[← hl1];exact HR2.out.row.at 23 _ rfl
    clear hl1 hlang;go_wp2_with fail
    go_meet
    case rel=>exact HPT
   obtain ⟨hR12,hM12⟩:=hcut.out
   obtain ⟨w12,rfl⟩:∃ x,x=wc:=⟨_,rfl⟩
   have HR12:=bW hR12;have hb12:=HR2.out.moved hM12;have HBaw12:=bW (HBawr.out.trans hb12);have HQaw12:=bW (HQawr.out.below hb12 bA);have HQbw12:=bW (HQbwr.out.below hb12 bA);clear hcut hR12 hM12 hb12 HBawr HQawr HQbwr HR2 hlang;have rc8:=HR12.out.row.at 8 _ rfl;have rc24:=HR12.out.row.at 24 _ rfl;go_upto_region 31 with fail
   refine hY (n:=15) (S:=fun w'=>w'.cell? ⟨b,8,none⟩=some (.string rk.fmt)∧w'.cell? ⟨b,24,none⟩=some (.string rk.fmt1)) (ds:=[14]) _ bB rfl rfl ⟨rc8,rc24⟩ (fun hHeld=>?_);refine sA1 0 (some 179) sB1 ?_
   refine sA1 1 (some 180) sB1 ?_
   refine sA1 2 (some 181) sB1 ?_
   refine sA1 3 (some 182) sB1 ?_
   refine sA1 4 (some 183) sB1 ?_
   refine sA1 6 (some 185) sB1 ?_
   refine sA1 7 (some 186) sB1 ?_
   refine sA1 8 (some 187) sB1 ?_
   refine sC1 5 (some 184) sE1 ?_
   refine sC1 9 (some 188) sE1 ?_
   refine sF1 10 (some 189) sG1 (fun K hK=>?_);refine lA Tryz.func115 bB rfl #[.string rk.fmt,.string rk.fmt1] bH rfl rfl bI ?_
   with_reducible refine ((rH rk.fmt rk.fmt1 w12.drew)).mono ?_
   rintro e w13 ⟨rfl,hb13⟩;refine ⟨_,rfl,?_⟩;have r8a:=cell_far (w:=w12.drew) rc8 hb13;have r24a:=cell_far (w:=w12.drew) rc24 hb13;have HR13:=bW (HR12.out.below (eA (Below.refl w12.heap.size w12).drew hb13));have rf8a:=HR13.out.row.free 8 bN;refine hK.out _ _ ⟨r8a,r24a⟩ (fun hHeld=>?_);clear hK K;refine gJ sJ1 ?_
   refine sA1 11 (some 190) sB1 ?_
   refine sA1 12 (some 191) sB1 ?_
   refine sA1 13 (some 192) sB1 ?_
   refine sH1 14 none sI1 (fun K hK=>?_);refine iO (w1:=?_) bH rfl ?_ ?_;rotate_left
   ·go_simp;rfl
   refine hK.out _ _ ?_;clear hK K;refine iK bB ?_
   obtain ⟨F0,hF0⟩:∃ x,chooseB rk.fmt rk.fmt1=x:=⟨_,rfl⟩
   rw[hF0];obtain ⟨hR,hM⟩:=HR13.out.put 8 (.string F0) { G2 with lang:=lang } { rk with fmt:=F0 } rfl rfl bA;have hb14:=((eA (Below.refl w12.heap.size w12).drew hb13).mono (show w2.heap.size≤w12.heap.size by have:=HR12.out.base;have:=HR12.out.lt;omega)).trans (HR13.out.moved hM)
   obtain ⟨w14,hw14⟩:∃ x,w13.setCell ⟨b,8,none⟩ (.string F0)=x:=⟨_,rfl⟩
   rw[hw14] at hR hM hb14 ⊢;have HR14:=bW hR;have HF0:=bW hF0;have HBaw14:=bW (HBaw12.out.trans hb14);have HQaw14:=bW (HQaw12.out.below hb14 bA);have HQbw14:=bW (HQbw12.out.below hb14 bA);clear hHeld hR hM hb14 hw14 hF0 rc8 rc24 r8a r24a rf8a hb13 HR12 HR13 HBaw12 HQaw12 HQbw12
   obtain ⟨ql,hql⟩:∃ q,eO comp=q:=⟨_,rfl⟩
   obtain ⟨qe,hqe⟩:∃ q,(F0.toList==[])=q:=⟨_,rfl⟩
   obtain ⟨qn,hqn⟩:∃ q,decide ((0:Int) < (nc:Int))=q:=⟨_,rfl⟩
   obtain ⟨fn,hfn⟩:∃ q,gX st rk.ext=q:=⟨_,rfl⟩
   have HQL:=bW hql;have HQE:=bW hqe;have HQN:=bW hqn;have HFN:=bW hfn;have hlayG2:G2.lay=ql:=by rw[← HG2.out];exact hlayC.trans hql
   have rc19:w14.cell? ⟨b,19,none⟩=some (.bool ql):=by rw[← hlayG2];exact HR14.out.row.at 19 _ rfl
   have rc8:=HR14.out.row.at 8 _ rfl;have rc7:=HR14.out.row.at 7 _ rfl;have qc2:=HQaw14.out.at 2 _ rfl;have cn:=fun n=>aIy (w:=w14.drewN n) ((HS2w.out.below (HBaw14.out)).below (eV.below (w:=w14) ⟨n,rfl⟩)).f O.f rk.ext;rw[hfn] at cn;clear hql hqn hfn;go_upto_region 32 with fail
   go_cut [219] from 193 to 218 (fun sx wx=>sx = .bool (((ql && qe) && qn) && fn)∧Aside0 (∃ m,wx=w14.drewN m))
   case first =>
    have hqn9:((0:Int) < (nc:Int))=(qn=true):=by rw[← HQN.out];simp
    have hqn8:(0 < nc)=(qn=true):=by rw[← hqn9];exact propext ⟨fun h=>by omega,fun h=>by omega⟩
    have hqn7:decide (0 < nc)=qn:=by rw[← HQN.out];exact decide_eq_decide.2 bA
    have hqn6:=HQN.out;clear hlayG2;cases ql <;> cases qe <;> cases qn
    all_goals
     simp only[Bool.false_eq_true] at hqn9 hqn8;go_quiet (first | (go_at_call 116;exact Calls.quiet_of (cn _)))
     go_wp2_with fail
     go_meet
     case rel=>exact ⟨rfl,⟨_,rfl⟩⟩
   obtain ⟨rfl,HDR⟩:=hcut;obtain ⟨m14,rfl⟩:=HDR.out;have hbd:=eV.below (w:=w14) (w':=w14.drewN m14) ⟨m14,rfl⟩
   obtain ⟨w15,hw15⟩:∃ x,w14.drewN m14=x:=⟨_,rfl⟩
   rw[hw15] at hbd ⊢;have hz14:w2.heap.size≤w14.heap.size:=HBaw14.out.size;have HR15z:=bW (HR14.out.below hbd);have hbd2:=hbd.mono hz14;have HBaw15:=bW (HBaw14.out.trans hbd2);have HQaw15:=bW (HQaw14.out.below hbd2 bA);have HQbw15:=bW (HQbw14.out.below hbd2 bA);clear HDR hw15 hbd hbd2 hz14 HR14 HBaw14 HQaw14 HQbw14 cn rc19 rc8 rc7 qc2 hlayG2 hqe
   obtain ⟨F1,hF1⟩:∃ x,(if eO comp=true∧F0=⟨#[]⟩∧cuts≠[]∧gX st rk.ext=true then rk.ext else F0)=x:=⟨_,rfl⟩
   have hq:((((ql && qe) && qn) && fn)=true)↔(eO comp=true∧F0=⟨#[]⟩∧cuts≠[]∧gX st rk.ext=true):=by
    rw[HQL.out,HFN.out];have e1:qe=true↔F0=⟨#[]⟩:=by rw[← HQE.out,beq_iff_eq];exact ⟨fun h=>L_inj (by rw[← L_toList,h];rfl),fun h=>by rw[h,L_toList];rfl⟩
    have e2:qn=true↔cuts≠[]:=by
     rw[← HQN.out,decide_eq_true_iff];refine ⟨fun h h2=>?_,fun h=>?_⟩
     ·rw[h2] at HNC;have:=HNC.out;simp at this;omega
     have:=List.length_pos_iff.2 h;rw[HNC.out] at this;omega
    rw[← e1,← e2];cases ql <;> cases qe <;> cases qn <;> cases fn <;> simp
   obtain ⟨qq,hqq⟩:∃ q,(((ql && qe) && qn) && fn)=q:=⟨_,rfl⟩
   rw[hqq] at hq ⊢;refine (show ∀ (a:Act) (w:World),Code.wp _ _ _ a w→_ from by assumption) _ _ ?_
   go_cut [219] from 220 to 228 (fun s219 wx=>Aside0 (hE wx w2.heap.size b { G2 with lang:=lang } { rk with fmt:=F1 } V∧Below w2.heap.size w15 wx))
   case first =>
    cases qq
    ·have hF:F0=F1:=by rw[← hF1,if_neg (fun h=>by have:=hq.2 h;cases this)]
     have HX:=bW (show hE w15 w2.heap.size b { G2 with lang:=lang } { rk with fmt:=F1 } V∧Below w2.heap.size w15 w15 from ⟨by rw[← hF];exact HR15z.out,Below.refl _ _⟩);clear hF hF1 hq;go_wp2_with fail
     go_meet
     case rel=>exact HX
    have hF:rk.ext=F1:=by rw[← hF1,if_pos (hq.1 rfl)]
    have rc7:w15.cell? ⟨b,7,none⟩=some (.string F1):=by rw[← hF];exact HR15z.out.row.at 7 _ rfl
    have rc8:=HR15z.out.row.at 8 _ rfl;have rf8:=HR15z.out.row.free 8 bN;obtain ⟨hR,hM⟩:=HR15z.out.put 8 (.string F1) { G2 with lang:=lang } { rk with fmt:=F1 } rfl rfl bA;have HX:=bW (And.intro hR (HR15z.out.moved hM));clear hF hF1 hq hR hM;go_wp2_with fail
    go_meet
    case rel=>exact HX
   obtain ⟨hR,hb15⟩:=hcut.out;have HF1:=bW hF1;have HBw15:=HBaw15;have HQ1w15:=HQaw15;have HQ2w15:=HQbw15
   obtain ⟨w15',hw15'⟩:∃ x,wc=x:=⟨_,rfl⟩
   rw[hw15'] at hR hb15 ⊢;have HR15:=bW hR;have HBay:=bW (HBaw15.out.trans hb15);have HQay:=bW (HQaw15.out.below hb15 bA);have HQby:=bW (HQbw15.out.below hb15 bA);clear hcut hw15' hR hb15 HR15z HBaw15 HQaw15 HQbw15 HBw15 HQ1w15 HQ2w15 hF1 hq hqq
   obtain ⟨w15,rfl⟩:∃ x,x=w15':=⟨_,rfl⟩
   have rc9:=HR15.out.row.at 9 _ rfl;have rc25:=HR15.out.row.at 25 _ rfl;have rc10:=HR15.out.row.at 10 _ rfl;have rc26:=HR15.out.row.at 26 _ rfl;go_upto_region 34 with fail
   refine hY (n:=30) (S:=fun w'=>w'.cell? ⟨b,9,none⟩=some (.string rk.kind)∧w'.cell? ⟨b,25,none⟩=some (.string rk.kind1)∧w'.cell? ⟨b,10,none⟩=some (.string rk.lay)∧w'.cell? ⟨b,26,none⟩=some (.string rk.lay1)) (ds:=[25,29]) _ bB rfl rfl ⟨rc9,rc25,rc10,rc26⟩ (fun hHeld=>?_)
   refine sA1 0 (some 229) sB1 ?_
   refine sA1 1 (some 230) sB1 ?_
   refine sA1 2 (some 231) sB1 ?_
   refine sA1 3 (some 232) sB1 ?_
   refine sA1 4 (some 233) sB1 ?_
   refine sA1 5 (some 234) sB1 ?_
   refine sA1 7 (some 236) sB1 ?_
   refine sA1 8 (some 237) sB1 ?_
   refine sA1 9 (some 238) sB1 ?_
   refine sA1 12 (some 241) sB1 ?_
   refine sA1 13 (some 242) sB1 ?_
   refine sA1 14 (some 243) sB1 ?_
   refine sA1 15 (some 244) sB1 ?_
   refine sA1 17 (some 246) sB1 ?_
   refine sA1 18 (some 247) sB1 ?_
   refine sA1 19 (some 248) sB1 ?_
   refine sC1 6 (some 235) sP1 ?_
   refine sC1 10 (some 239) sP1 ?_
   refine sC1 16 (some 245) sP1 ?_
   refine sC1 20 (some 249) sP1 ?_
   refine sF1 11 (some 240) sG1 (fun K hK=>?_);refine lA Tryz.func115 bB rfl #[.string rk.kind,.string rk.kind1] bH rfl rfl bI ?_
   with_reducible refine ((rH rk.kind rk.kind1 w15.drew)).mono ?_
   rintro e w16 ⟨rfl,hb16⟩;refine ⟨_,rfl,?_⟩;have r9a:=cell_far (w:=w15.drew) rc9 hb16;have r25a:=cell_far (w:=w15.drew) rc25 hb16;have r10a:=cell_far (w:=w15.drew) rc10 hb16;have r26a:=cell_far (w:=w15.drew) rc26 hb16;have HR16:=bW (HR15.out.below (eA (Below.refl w15.heap.size w15).drew hb16));refine hK.out _ _ ⟨r9a,r25a,r10a,r26a⟩ (fun hHeld=>?_);clear hK K;refine gJ sJ1 ?_
   refine sF1 21 (some 250) sG1 (fun K hK=>?_);refine lA Tryz.func115 bB rfl #[.string rk.lay,.string rk.lay1] bH rfl rfl bI ?_
   with_reducible refine ((rH rk.lay rk.lay1 w16)).mono ?_
   rintro e w17 ⟨rfl,hb17⟩;refine ⟨_,rfl,?_⟩;have r9b:=cell_far r9a hb17;have r25b:=cell_far r25a hb17;have r10b:=cell_far r10a hb17;have r26b:=cell_far r26a hb17;have HR17:=bW (HR16.out.below hb17);have rf9b:=HR17.out.row.free 9 bN;have rf10b:=HR17.out.row.free 10 bN;refine hK.out _ _ ⟨r9b,r25b,r10b,r26b⟩ (fun hHeld=>?_);clear hK K;refine gJ sJ1 ?_
   refine sA1 22 (some 251) sB1 ?_
   refine sA1 23 (some 252) sB1 ?_
   refine sA1 24 (some 253) sB1 ?_
   refine sH1 25 none sI1 (fun K hK=>?_);refine iO (w1:=?_) bH rfl ?_ ?_;rotate_left
   ·go_simp;rfl
   refine hK.out _ _ ?_;clear hK K;refine sA1 26 (some 254) sB1 ?_
   refine sA1 27 (some 255) sB1 ?_
   refine sA1 28 (some 256) sB1 ?_
   refine sH1 29 none sI1 (fun K hK=>?_);refine iO (w1:=?_) bH rfl ?_ ?_;rotate_left
   ·go_simp;rfl
   refine hK.out _ _ ?_;clear hK K;refine iK bB ?_
   obtain ⟨K1,hK1⟩:∃ x,chooseB rk.kind rk.kind1=x:=⟨_,rfl⟩
   obtain ⟨L1,hL1⟩:∃ x,chooseB rk.lay rk.lay1=x:=⟨_,rfl⟩
   rw[hK1,hL1];have HK1:=bW hK1;have HL1:=bW hL1;obtain ⟨hRa,hMa⟩:=HR17.out.put 9 (.string K1) { G2 with lang:=lang } { rk with fmt:=F1,kind:=K1 } rfl rfl bA;obtain ⟨hRb,hMb⟩:=hRa.put 10 (.string L1) { G2 with lang:=lang } { rk with fmt:=F1,kind:=K1,lay:=L1 } rfl rfl bA;have hz15:w2.heap.size≤w15.heap.size:=HBay.out.size;have hbq:=(((eA (Below.refl w15.heap.size w15).drew hb16).mono hz15).trans (hb17.mono (by have:=HR16.out.base;have:=HR16.out.lt;omega))).trans (HR17.out.moved (hMa.trans hMb))
   obtain ⟨w18,hw18⟩:∃ x,(w17.setCell ⟨b,9,none⟩ (.string K1)).setCell ⟨b,10,none⟩ (.string L1)=x:=⟨_,rfl⟩
   rw[hw18] at hRb hbq ⊢;have HR18:=bW hRb;have HB18:=bW (HBay.out.trans hbq);have HQ118:=bW (HQay.out.below hbq bA);have HQ218:=bW (HQby.out.below hbq bA);clear hHeld hRa hMa hRb hMb hz15 hbq hw18 hK1 hL1 HBay HQay HQby HR15 HR16 HR17 hb16 hb17 rc9 rc25 rc10 rc26 r9a r25a r10a r26a r9b r25b r10b r26b rf9b rf10b;have hnn:=aEn rk.marks name.size
   obtain ⟨en,hen⟩:∃ n:Nat,kB rk.marks (name.size:Int)=(n:Int):=⟨(kB rk.marks (name.size:Int)).toNat,aM⟩
   have hen2:en≤name.size:=by omega
   have hGn:G2.nEnd=(en:Int):=by rw[← HG2.out];exact hen
   have hGname:G2.name=name:=by rw[← HG2.out,← HG.out,← HG0.out]
   have hGpath:G2.path=path:=by rw[← HG2.out,← HG.out,← HG0.out]
   have hGcomp:G2.comp=comp:=by rw[← HG2.out,← HG.out,← HG0.out]
   have hGlay:G2.lay=eO G2.comp:=by rw[hGcomp,← HG2.out];exact hlayC
   have hSx:lZ w2 st G2.s0 G2.s1 G2.s2 G2.s3:=by rw[← HG2.out];exact HS2.out
   have HEN:=bW hen;have ct:=aDb (G:={ G2 with lang:=lang }) (hSx.below HB18.out) O HR18.out en hGn (by rw[show ({ G2 with lang:=lang }:RdK).name=name from hGname];exact hen2) (by rw[show ({ G2 with lang:=lang }:RdK).path=path from hGpath];exact hpz) hGlay
   obtain ⟨T,hT⟩:∃ T,mO st comp (L path) (L (name.extract 0 en)) (decide (0 < rk.ids.length)) rk.ext rk.baseof=T:=⟨_,rfl⟩
   have hTc:mO st ({ G2 with lang:=lang }:RdK).comp (L ({ G2 with lang:=lang }:RdK).path) (L (({ G2 with lang:=lang }:RdK).name.extract 0 en)) (decide (0 < ({ rk with fmt:=F1,kind:=K1,lay:=L1 }:RV).ids.length)) ({ rk with fmt:=F1,kind:=K1,lay:=L1 }:RV).ext ({ rk with fmt:=F1,kind:=K1,lay:=L1 }:RV).baseof=T:=by rw[← hT,← hGname,← hGpath,← hGcomp]
   rw[hTc] at ct;have HT:=bW hT;clear hTc hT hnn hen hGn hSx hGlay;go_wp2_with fail
   refine ct.mono ?_;rintro e w19 ⟨rfl,hb19⟩;have HR19:=bW (HR18.out.below hb19);have hb19':=hb19.mono (show w2.heap.size≤w18.heap.size from HB18.out.size);have rc14:=HR19.out.row.at 14 _ rfl;have rf14:=HR19.out.row.free 14 bN;obtain ⟨hR,hM⟩:=HR19.out.put 14 (.int .i64 T) { G2 with lang:=lang,typ:=T } { rk with fmt:=F1,kind:=K1,lay:=L1 } rfl rfl bA;have hb20:=hb19'.trans (HR19.out.moved hM);have HB20:=bW (HB18.out.trans hb20);have HQ220:=bW (HQ218.out.below hb20 bA);have HR20:=bW hR;clear ct hb19 hb19' hb20 HR18 HB18 HQ118 HQ218 hR hM;go_upto_region 36 with fail
   obtain ⟨w20,hw20⟩:∃ x,w19.setCell ⟨b,14,none⟩ (.int .i64 T)=x:=⟨_,rfl⟩
   rw[hw20] at HR20 HB20 HQ220 ⊢;clear hw20 rc14 rf14 HR19;have hrng:=HR20.out.words;have hone:=HR20.out.wordsOne
   obtain ⟨CL,hCL⟩:∃ c,nB { G2 with lang:=lang,typ:=T } { rk with fmt:=F1,kind:=K1,lay:=L1 } V=c:=⟨_,rfl⟩
   have hlen:CL.length=15:=by rw[← hCL];rfl
   have hinf:(Tryz.prog.info? 58).map (·.size)=some CL.length:=by rw[hlen];kernel_rfl
   have hinf2:(Tryz.prog.info? 58).map (·.size)=some CL.toArray.size:=by rw[List.size_toArray];exact hinf
   have hsz:CL.toArray.size=15:=by rw[List.size_toArray];exact hlen
   have hthere:w20.there (w.heap.size+1) 0 CL.toArray.size:=by rw[hsz];exact HQ220.out.there
   rw[hCL] at hrng hone;have HCL:=bW hCL;have hr:=World.rangeAt_setCells_same w20 (w.heap.size+1) 0 CL.toArray.toList (by simpa using hthere);have hld:=run_loadVar_mid (P:=Tryz.prog) _ (w.heap.size+1) 0 58 CL.toArray.toList _ hr Tryz.underlying58 rfl (by simpa using hinf);have HLD:=bW hld;have hbf:Below w.heap.size w (w20.setCells (w.heap.size+1) 0 CL.toArray.toList):=below_setCells (Nat.le_succ _) _ _ _ (HB2.out.trans (HB20.out.mono bA));have HBF:=bW hbf
   have far:∀ i,fA (w20.setCells (w.heap.size+1) 0 CL.toArray.toList) w2.heap.size (V i) (match i with | 0=>rk.ids | 1=>rk.unk | 2=>rk.langs | 3=>[])∨i=3:=by
    have fr:∀ {v l},fA w20 w2.heap.size v l→fA (w20.setCells (w.heap.size+1) 0 CL.toArray.toList) w2.heap.size v l:=fun h=>h.far fun k hk _=>nJ _ _ k bA;intro i
    match i with
    | 0=>exact .inl (fr (tP HR20.out.idsRow rfl))
    | 1=>exact .inl (fr (tP HR20.out.unkRow rfl))
    | 2=>exact .inl (fr (tP HR20.out.langsRow rfl))
    | 3=>exact .inr rfl
   have HFR:=bW far;have hw2z:w.heap.size≤w2.heap.size:=by omega
   clear hCL hlen hsz hr hld hbf far HR20
   go_wp2_with (first | (refine wpList_load_mid rfl 58 _ rfl b 0 rfl CL _ hrng Tryz.underlying58 rfl hinf ?_) | (refine wpList_store_mid rfl 58 _ _ rfl (w.heap.size+1) 0 CL.toArray rfl rfl hthere hinf2 hone ?_) | fail)
   have hWo:wOf st comp path=⟨comp,path,name,en,rk.ids,rk.unk,rk.langs,rk.ext,F1,K1,L1,lang,rk.cust,rk.dis,T⟩:=by
    rw[aG5 st comp path,hname,hsc,hcuts,HRF.out,HEN.out,HF0.out,HF1.out,HK1.out,HL1.out,HLG.out,Int.toNat_natCast,HT.out]
   have hval:CL.toArray.toList.toArray=(wv (wOf st comp path) (V 0) (V 1) (V 2)).toArray:=by
    rw[hWo,← HCL.out];unfold nB wv;simp only[hGcomp,hGpath,hGname,show G2.nEnd=(en:Int) from by rw[← HG2.out];exact HEN.out]
   refine bodyPost_ret (v:=.agg CL.toArray.toList.toArray) (oB Tryz.results50 rfl (by simpa using HLD.out)) rfl ⟨V 0,V 1,V 2,by rw[hval],?_,?_,?_,HBF.out⟩
   ·rw[hWo];exact ((HFR.out 0).resolve_right bF).mono hw2z
   ·rw[hWo];exact ((HFR.out 1).resolve_right bF).mono hw2z
   rw[hWo];exact ((HFR.out 2).resolve_right bF).mono hw2z
end
open Go.RowKit Go.ZW.PrintWords Go.Proofs.YtlkoeeccebmjmaaGreatDoor.Base Go.Proofs.YtlkoeeccebmjmaaGreatDoor.Total Go.Proofs.YtlkoeeccebmjmaaGreatDoor.Lower
section
variable (st:fF) (comp:ByteArray) (sc:Bool) (name:ByteArray) (cuts:List Nat)
theorem aGc (hc:0 < cuts.length):∀ k,k < cuts.length→(dK st comp sc name cuts (k+1)).1.ext=name.extract (cuts[cuts.length - 1]' bA+1) name.size
 | 0,h=>by
  rw[qW _ _ _ _ _ 0 h,zS];show (mC st comp sc cuts.length kV (name.extract (cuts[cuts.length - 1 - 0]' bA+1) name.size) _).ext=_;rfl
 | k+1,h=>by
  rw[qW _ _ _ _ _ (k+1) h];have hne:=aE1 st comp sc name cuts (k+1) bA bA;show (mC st comp sc cuts.length (dK st comp sc name cuts (k+1)).1 _ _).ext=_;unfold mC;rw[if_neg hne,qT];exact aGc hc k bA
theorem aCx (hc:0 < cuts.length):(gL st comp sc name cuts).ext=name.extract (cuts[cuts.length - 1]' bA+1) name.size:=by
 have hne:cuts≠[]:=List.length_pos_iff.1 hc;rw[tB st comp sc name cuts hne];have h1:=aE1 st comp sc name cuts cuts.length hc (Nat.le_refl _);unfold mC;rw[if_neg h1,qT]
 obtain ⟨k,hk⟩:∃ k,cuts.length=k+1:=⟨cuts.length - 1,aM⟩
 have:=aGc st comp sc name cuts hc k bA;rw[← hk] at this;exact this
theorem aCy:oQ (gL st comp sc name cuts) (cuts.length+1):=by
 by_cases h:cuts=[]
 ·subst h;exact ⟨Nat.zero_le _,Nat.zero_le _,Nat.zero_le _,Nat.zero_le _,show (-1:Int) < ((0:Nat):Int) by decide⟩
 rw[tB st comp sc name cuts h];exact (tA st comp sc name cuts cuts.length (Nat.le_refl _)).word ..
end
theorem aG6 (st:fF) (comp s:ByteArray) (own:Bool) (hs:s.size≤900000):uH (wOf st comp (pathOf s own)):=by
 have hp:=aAx s own hs;have hex:=aAw s own
 have hh:(L (pathOf s own))[0]? = some 47:=by
  unfold pathOf;rw[jQ,← List.head?_eq_getElem?];exact mText_head _
 obtain ⟨path,hpath⟩:∃ p,pathOf s own=p:=⟨_,rfl⟩
 rw[hpath] at hp hex hh ⊢;obtain ⟨hup,hlt,hcl⟩:=aEg path hex;have hn:=aCi path;have hsm:=aCy st comp (eY (L path) fS) (lastB path) (eP (L (lastB path)));have hre:=aEn (gL st comp (eY (L path) fS) (lastB path) (eP (L (lastB path)))).marks (lastB path).size
 have hext:(gL st comp (eY (L path) fS) (lastB path) (eP (L (lastB path)))).ext.size≤(lastB path).size∧((gL st comp (eY (L path) fS) (lastB path) (eP (L (lastB path)))).ids≠[]→(gL st comp (eY (L path) fS) (lastB path) (eP (L (lastB path)))).ext.size+1≤(lastB path).size):=by
  by_cases hc:eP (L (lastB path))=[]
  ·rw[hc];exact ⟨Nat.zero_le _,fun h=>absurd rfl h⟩
  have hpos:=List.length_pos_iff.2 hc;rw[aCx _ _ _ _ _ hpos];have:=hlt _ (List.getElem_mem (show (eP (L (lastB path))).length - 1 < (eP (L (lastB path))).length by omega));rw[ByteArray.size_extract];exact ⟨aM,fun _=>by omega⟩
 rw[aG5];exact ⟨hp,hh,hn,by dsimp only;omega,hext.2,by dsimp only;omega,by have:=hsm.ids;dsimp only;omega,by have:=hsm.unk;dsimp only;omega,by have:=hsm.langs;dsimp only;omega⟩
def qI (w:World) (B:Nat) (t:gN) (v1 v2 v3:Value):Prop:=fA w B v1 t.langs∧fA w B v2 t.ids∧fA w B v3 t.unk
theorem qI.below {w w' : World} {B:Nat} {t:gN} {v1 v2 v3:Value} (H:qI w B t v1 v2 v3) (hb:Below w.heap.size w w'):qI w' B t v1 v2 v3:=⟨H.1.below hb,H.2.1.below hb,H.2.2.below hb⟩
theorem qI.mono {w:World} {B B' : Nat} {t:gN} {v1 v2 v3:Value} (H:qI w B t v1 v2 v3) (h:B'≤B):qI w B' t v1 v2 v3:=⟨H.1.mono h,H.2.1.mono h,H.2.2.mono h⟩
theorem qI.far {w w' : World} {B:Nat} {t:gN} {v1 v2 v3:Value} (H:qI w B t v1 v2 v3) (hb:∀ k,B≤k→k < w.heap.size→w'.heap[k]? = w.heap[k]?):qI w' B t v1 v2 v3:=⟨H.1.far hb,H.2.1.far hb,H.2.2.far hb⟩
theorem qI.one {w:World} {B:Nat} {t:gN} {v1 v2 v3:Value} (H:qI w B t v1 v2 v3):(qU t v1 v2 v3).all (·.oneCell')=true:=by
 obtain ⟨A1,c1,rfl,_⟩:=H.1;obtain ⟨A2,c2,rfl,_⟩:=H.2.1;obtain ⟨A3,c3,rfl,_⟩:=H.2.2;exact pD _ _ _ _ _ _ _ _ _ _
section
variable {w:World} {st:fF} {vl vd vf vc:Value}
theorem sA (S:lZ w st vl vd vf vc) (O:sU st) (comp s:ByteArray) (hs:s.size≤900000) :
 Calls Tryz.prog 43 #[.agg #[vl,vd,vf,vc],.string comp,.string s] w fun e w' =>
  ∃ v1 v2 v3,e = .returned (lX (lJ (wOf st comp (pathOf s false))) v1 v2 v3)∧qI w' w.heap.size (lJ (wOf st comp (pathOf s false))) v1 v2 v3∧Below w.heap.size w w':=by
 obtain ⟨x,hx⟩:∃ x,wOf st comp (pathOf s false)=x:=⟨_,rfl⟩
 have HO:Aside0 (uH x):=bW (hx▸aG6 st comp s false hs);rw[hx];have HSI:=bW S;have HF:=bW O;obtain ⟨Al,cl,rfl,_,_⟩:=S.l;obtain ⟨Ad,cd,rfl,_,_⟩:=S.d;obtain ⟨Af,cf,rfl,_,_⟩:=S.f;obtain ⟨Ac,cc,rfl,_,_⟩:=S.c;clear S O;have hB1:Below w.heap.size w (w.alloc (.cells #[.slice Al st.langs.length cl,.slice Ad st.dis.length cd,.slice Af st.fmts.length cf,.slice Ac st.cont.length cc] 25)):=(Below.refl _ _).alloc (Nat.le_refl _) _;have hR1:=Row.new w [.slice Al st.langs.length cl,.slice Ad st.dis.length cd,.slice Af st.fmts.length cf,.slice Ac st.cont.length cc] 25;have hs1:w.heap.size < (w.alloc (.cells #[.slice Al st.langs.length cl,.slice Ad st.dis.length cd,.slice Af st.fmts.length cf,.slice Ac st.cont.length cc] 25)).heap.size:=by simp
 go_enter Tryz.func43,Tryz.ntmps43;go_upto_region 1 with fail
 obtain ⟨w1,hw1⟩:∃ w1,w.alloc (.cells #[.slice Al st.langs.length cl,.slice Ad st.dis.length cd,.slice Af st.fmts.length cf,.slice Ac st.cont.length cc] 25)=w1:=⟨_,rfl⟩
 have hz1:w1.heap.size=w.heap.size+1:=by rw[← hw1];simp
 rw[hw1] at hB1 hR1 hs1 ⊢;clear hw1;have hB2:Below w1.heap.size w1 (w1.alloc (.cells fX.toArray 28)):=(Below.refl _ _).alloc (Nat.le_refl _) _;have hR2:Row (w1.alloc (.cells fX.toArray 28)) w1.heap.size fX:=Row.new w1 fX _;rw[show fX.toArray=TZ from rfl] at hB2 hR2
 obtain ⟨w2,hw2⟩:∃ w2,w1.alloc (.cells TZ 28)=w2:=⟨_,rfl⟩
 rw[hw2] at hB2 hR2;change Code.wp _ _ _ _ (w1.alloc (.cells TZ 28));rw[hw2];clear hw2;rw[hz1] at hR2;have hB:Below w.heap.size w w2:=hB1.trans (hB2.mono bA);have hRs:=hR1.below hB2 hs1;have r0:=hRs.at 0 _ rfl;have r1:=hRs.at 1 _ rfl;have r2:=hRs.at 2 _ rfl;have r3:=hRs.at 3 _ rfl;have HB:=bW hB;have HR2:=bW hR2;have hlt2:w.heap.size+1 < w2.heap.size:=hR2.lt bF;have cp:=aBi (HSI.out.below hB) HF.out comp s false hs;rw[hx] at cp;clear hx hB1 hR1 hs1 hB2 hR2 hB hRs hz1 HF;go_wp2_with fail
 refine cp.mono ?_;rintro e w3 ⟨v0,v1,v2,rfl,q0,q1,q2,hb3⟩;obtain ⟨A0,c0,e0,_⟩:=id q0;obtain ⟨A1,c1,e1,_⟩:=id q1;obtain ⟨A2,c2,e2,_⟩:=id q2;subst e0 e1 e2;have ca:=aA4 HO.out (q0.mono (Nat.zero_le _)) (q1.mono (Nat.zero_le _)) (q2.mono (Nat.zero_le _));have HQ0:=bW q0;have HQ1:=bW q1;have HQ2:=bW q2;have HB3:=bW hb3;clear cp q0 q1 q2 hb3 r0 r1 r2 r3;go_wp2_with fail
 refine ca.mono ?_;rintro e w4 ⟨rfl,hb4⟩;have HB4:=bW (eA HB3.out hb4);have S1:=bW (HQ0.out.below hb4);have S2:=bW (HQ1.out.below hb4);have S3:=bW (HQ2.out.below hb4);clear ca hb4 HQ0 HQ1 HQ2 HB3
 obtain ⟨C,hC⟩:∃ C:Array Value,qU (lJ x) (.slice A2 x.langs.length c2) (.slice A0 x.ids.length c0) (.slice A1 x.unk.length c1)=C:=⟨_,rfl⟩
 have hval:lX (lJ x) (.slice A2 x.langs.length c2) (.slice A0 x.ids.length c0) (.slice A1 x.unk.length c1) = .agg C:=by rw[← hC];rfl
 have hCs:C.size=31:=by rw[← hC];rfl
 have hl:C.toList.length=31:=by simpa using hCs
 have hone:C.all (·.oneCell')=true:=by rw[← hC];exact pD _ _ _ _ _ _ _ _ _ _
 have HV:=bW hval;rw[hval];clear hval;have HC:=bW hC;have hRf:=HR2.out.below HB4.out hlt2;have ht:World.there _ (w.heap.size+1) 0 31:=hRf.there
 dsimp only
 refine (show ∀ (a:Act) (w:World),wpList _ _ _ _ a w→_ from by assumption) _ _ ?_;refine wpList_store_mid rfl 28 _ _ rfl (w.heap.size+1) 0 C rfl rfl (by rw[hCs];exact ht) (by rw[hCs];kernel_rfl) hone ?_;have hr:=World.rangeAt_setCells_same _ (w.heap.size+1) 0 C.toList (by rw[hl];exact ht);have hld:=run_loadVar_mid (P:=Tryz.prog) _ (w.heap.size+1) 0 28 C.toList _ hr Tryz.underlying28 rfl (by rw[hl];kernel_rfl);have hfar:∀ k,k≠w.heap.size+1→(w4.setCells (w.heap.size+1) 0 C.toList).heap[k]? = w4.heap[k]?:=fun k hk=>nJ _ _ k hk;have hbel:Below w.heap.size w (w4.setCells (w.heap.size+1) 0 C.toList):=below_setCells (Nat.le_succ _) _ _ _ (HB.out.trans (HB4.out.mono HB.out.size))
 obtain ⟨W,hW⟩:∃ W,w4.setCells (w.heap.size+1) 0 C.toList=W:=⟨_,rfl⟩
 rw[hW] at hld hbel hfar ⊢;have hz:=HB.out.size;have s1:=bW (S1.out.far fun k hk _=>hfar k bA);have s2:=bW (S2.out.far fun k hk _=>hfar k bA);have s3:=bW (S3.out.far fun k hk _=>hfar k bA);have HBel:=bW hbel;clear hbel hfar hW hr hone hl hCs ht hRf S1 S2 S3;go_wp2_with fail
 refine bodyPost_ret (v:=.agg C) (oB Tryz.results43 rfl (by simpa using hld)) rfl ⟨_,_,_,?_,⟨s3.out.mono hz,s1.out.mono hz,s2.out.mono hz⟩,HBel.out⟩;rw[HV.out]
end
end Go.Proofs.YtlkoeeccebmjmaaGreatDoor.Path
