/- Texts that the law leans on: SpecReTyped, WordKnown, Begins. Condition: as told at each. -/
import Derived.Test.YtlkoeeccebmjmaaGreatDoorXa
import Derived.Test.YtlkoeeccebmjmaaGreatDoorX18
import Derived.Test.YtlkoeeccebmjmaaGreatDoorX22
set_option linter.unusedVariables false
set_option linter.unusedSimpArgs false
set_option maxRecDepth 100000
set_option maxHeartbeats 16000000
namespace Go.Proofs.YtlkoeeccebmjmaaGreatDoor.Path
open Go.RowKit Go.WideMaps Go.ZW.PrintWords Go.Proofs.YtlkoeeccebmjmaaGreatDoor.Base Go.Proofs.YtlkoeeccebmjmaaGreatDoor.Lower Go.Proofs.YtlkoeeccebmjmaaGreatDoor.Total Go.Proofs.YtlkoeeccebmjmaaGreatDoor.PCore
theorem pT {b:ByteArray}:(b.toList==[])=true↔b=⟨#[]⟩:=by
 constructor
 ·intro h;have:b.toList=[]:=by simpa using h
  rw[L_toList] at this;exact L_inj (by rw[this];rfl)
 intro h;rw[h,L_toList];rfl
theorem yC {a b:ByteArray}:(a.toList==b.toList)=true↔a=b:=by
 constructor
 ·intro h;have:a.toList=b.toList:=by simpa using h
  rw[L_toList,L_toList] at this;exact L_inj this
 intro h;rw[h];exact beq_self_eq_true _
theorem aBg (p:ByteArray) (hp:p.size≤1000000) (h0:(L p)[0]? = some 47) (w:World):Calls Tryz.prog 44 #[.string p] w fun e w'=>∃ A c n,e = .returned (.slice A n c)∧n=jG ((L p).drop 1)+1∧Below w.heap.size w w':=by
 obtain ⟨r,hr,h1,h2⟩:=aC5 p hp h0;obtain ⟨k,hk⟩:=hr.rounds;refine (eX.calls k p r w hk).mono ?_;rintro e w' ⟨v,rfl,hv,hb⟩;obtain ⟨A,c,rfl,_⟩:=Kd.R_reads hv;exact ⟨A,c,r.length,rfl,h1,hb⟩
theorem aGi {st:fF} {comp s:ByteArray} (K:pE st comp s):sU st:=by
 have k:=K.site;have l1:=k.la;have l2:=k.lb;have l3:=k.lc;have l4:=k.ld;rw[List.length_map] at l3;exact ⟨aM,aM,aM,aM,fun x hx=>Nat.le_trans (k.langs x hx).most bA,fun x hx=>Nat.le_trans (k.dis x hx).most bA,fun x hx=>Nat.le_trans (k.cont x hx).most bA⟩
section
variable {w:World} {st:fF} {vl vd vf vc:Value}
theorem wJ (S:lZ w st vl vd vf vc) (O:sU st) (comp s typ:ByteArray) (hs:s.size≤900000) (hz:typ.size≤900000) (hbz:(lJ (wOf st comp (pathOf s false))).base.size≤2000000) (hsec:(lJ (wOf st comp (pathOf s false))).section_≠⟨#[]⟩→(lJ (wOf st comp (pathOf s false))).section_.size+1≤(lJ (wOf st comp (pathOf s false))).base.size) :
 Calls Tryz.prog 15 #[.agg #[vl,vd,vf,vc],.string comp,.string s,.string typ] w fun e w'=>e = .returned (.string (sRe (lJ (wOf st comp (pathOf s false))) typ))∧Below w.heap.size w w':=by
 have hO:=aG6 st comp s false hs;have HPZ:=bW (show (lJ (wOf st comp (pathOf s false))).path.size≤1000000 from hO.path);have HPH:=bW (show (L (lJ (wOf st comp (pathOf s false))).path)[0]? = some 47 from hO.head);clear hO
 obtain ⟨T,hT⟩:∃ T,(lJ (wOf st comp (pathOf s false)))=T:=⟨_,rfl⟩
 rw[hT] at HPZ HPH hbz hsec ⊢;have HSEC:=bW hsec;have HSI:=bW S;have HF:=bW O;obtain ⟨Al,cl,rfl,_,_⟩:=S.l;obtain ⟨Ad,cd,rfl,_,_⟩:=S.d;obtain ⟨Af,cf,rfl,_,_⟩:=S.f;obtain ⟨Ac,cc,rfl,_,_⟩:=S.c;clear S O hsec;have hB1:Below w.heap.size w (w.alloc (.cells #[.slice Al st.langs.length cl,.slice Ad st.dis.length cd,.slice Af st.fmts.length cf,.slice Ac st.cont.length cc] 25)):=(Below.refl _ _).alloc (Nat.le_refl _) _;have hR1:=Row.new w [.slice Al st.langs.length cl,.slice Ad st.dis.length cd,.slice Af st.fmts.length cf,.slice Ac st.cont.length cc] 25;go_enter Tryz.func15,Tryz.ntmps15;go_upto_region 1 with fail
 obtain ⟨w1,hw1⟩:∃ w1,w.alloc (.cells #[.slice Al st.langs.length cl,.slice Ad st.dis.length cd,.slice Af st.fmts.length cf,.slice Ac st.cont.length cc] 25)=w1:=⟨_,rfl⟩
 rw[hw1] at hB1 hR1 ⊢;clear hw1;have r0:=hR1.at 0 _ rfl;have r1:=hR1.at 1 _ rfl;have r2:=hR1.at 2 _ rfl;have r3:=hR1.at 3 _ rfl;have HB1:=bW hB1;have cp:=sA (HSI.out.below hB1) HF.out comp s hs;rw[hT] at cp;clear hT hB1 hR1 HF;go_wp2_with fail
 refine cp.mono ?_;rintro e w3 ⟨v1,v2,v3,rfl,hA,hb3⟩;have HB3:=bW (eA HB1.out hb3)
 obtain ⟨C,hC⟩:∃ C:Array Value,qU T v1 v2 v3=C:=⟨_,rfl⟩
 have hval:lX T v1 v2 v3 = .agg C:=by rw[← hC];rfl
 have HCS:=bW (show C.size=31 by rw[← hC];rfl);have HON:=bW (show C.all (·.oneCell')=true by rw[← hC];exact hA.one);rw[hval];have hRZ:=Row.new w3 fX 28;have HRT:=bW (Row.setAll (ds:=C.toList) hRZ (by rw[Array.length_toList,HCS.out];rfl));have hbn:Below w3.heap.size w3 ((w3.alloc (.cells fX.toArray 28)).setCells w3.heap.size 0 C.toList):=below_setCells (Nat.le_refl _) _ _ _ ((Below.refl _ _).alloc (Nat.le_refl _) _);have hth:(w3.alloc (.cells fX.toArray 28)).there w3.heap.size 0 C.size:=by rw[HCS.out];exact hRZ.there
 have hin:(Tryz.prog.info? 28).map (·.size)=some C.size:=by rw[HCS.out];kernel_rfl
 have HCL:=bW (show C.toList=mM T v1 v2 v3 by rw[← hC];rfl);clear cp hb3 hA hC hval hRZ r0 r1 r2 r3;rw[show fX.toArray=TZ from rfl] at HRT hbn hth
 go_upto_region 2 with (first | (refine wpList_store_mid rfl 28 (.tmp 9) (.tmp 13) rfl w3.heap.size 0 C rfl rfl hth hin HON.out ?_) | fail)
 clear hth hin;change Code.wp _ _ _ _ ((w3.alloc (.cells TZ 28)).setCells w3.heap.size 0 C.toList)
 obtain ⟨w4,hw4⟩:∃ z,(w3.alloc (.cells TZ 28)).setCells w3.heap.size 0 C.toList=z:=⟨_,rfl⟩
 rw[hw4] at HRT hbn ⊢
 obtain ⟨b,hbb⟩:∃ b,w3.heap.size=b:=⟨_,rfl⟩
 rw[hbb] at HRT ⊢;have HRW:=bW (show Row w4 b (mM T v1 v2 v3) from HCL.out▸HRT.out);have HB4:=bW (eA HB3.out hbn);clear hw4 hbb hbn HRT HCL HCS HON HB3;have k3:w4.cell? ⟨b,3,none⟩=some (.string T.section_):=HRW.out.at 3 _ rfl;have k9:w4.cell? ⟨b,9,none⟩=some (.string T.path):=HRW.out.at 9 _ rfl;have k13:w4.cell? ⟨b,13,none⟩=some (.string T.base):=HRW.out.at 13 _ rfl;have k28:w4.cell? ⟨b,28,none⟩=some (.bool T.isLeaf):=HRW.out.at 28 _ rfl
 cases c0:(typ.toList==[]) with
 | true =>
  have HQ:=bW (pT.1 c0);go_wp2_with fail
  go_ret;exact ⟨congrArg (fun x=>Ending.returned (Value.string x)) (show _=sRe T typ from (if_pos (.inl HQ.out)).symm),HB4.out⟩
 | false =>
  have H0:=bW (show typ≠⟨#[]⟩ from fun h=>by rw[pT.2 h] at c0;cases c0)
  cases cs:(typ.toList==T.section_.toList) with
  | true =>
   have HQ:=bW (yC.1 cs);go_wp2_with fail
   go_ret;exact ⟨congrArg (fun x=>Ending.returned (Value.string x)) (show _=sRe T typ from (if_pos (.inr HQ.out)).symm),HB4.out⟩
  | false =>
   have H1:=bW (show ¬ (typ=⟨#[]⟩∨typ=T.section_) from fun h=>h.elim H0.out (fun h=>by rw[yC.2 h] at cs;cases cs))
   cases c1:(T.section_.toList==[]) with
   | false =>
    have c2:(T.section_.toList != [])=true:=by rw[bne,c1];rfl
    have H2:=bW (show T.section_≠⟨#[]⟩ from fun h=>by rw[pT.2 h] at c1;cases c1);have hle:(T.section_.size:Int)+1≤(T.base.size:Int):=by have:=HSEC.out H2.out;omega
    have hlb:(T.base.size:Int)≤2000000:=by omega
    go_wp2_with fail
    go_ret;exact ⟨congrArg (fun x=>Ending.returned (Value.string x)) (show _=sRe T typ from (by unfold sRe;rw[if_neg H1.out,if_pos H2.out])),HB4.out⟩
   | true =>
    have c2:(T.section_.toList != [])=false:=by rw[bne,c1];rfl
    have H2:=bW (show ¬ (T.section_≠⟨#[]⟩) from fun h=>h (pT.1 c1))
    cases cl:T.isLeaf with
    | false =>
     rw[cl] at k28;have HL:=bW cl;clear cl;go_wp2_with fail
     go_ret;exact ⟨congrArg (fun x=>Ending.returned (Value.string x)) (show _=sRe T typ from (by unfold sRe;rw[if_neg H1.out,if_neg H2.out,if_neg (fun h=>by rw[HL.out] at h;cases h.1)])),HB4.out⟩
    | true =>
     rw[cl] at k28;have HL:=bW cl;clear cl;have ct:=aBg T.path HPZ.out HPH.out w4;go_wp2_with fail
     refine ct.mono ?_;rintro e w5 ⟨A5,c5,n5,rfl,hn5,hb5⟩;have HB5:=bW (eA HB4.out hb5);have HN5:=bW hn5;have j13:=(HRW.out.below hb5 (HRW.out.lt (show 0 < 31 by decide))).at 13 (.string T.base) rfl;clear ct hb5 hn5 k3 k9 k13 k28
     by_cases c3:(n5:Int)=2
     ·have c4:((n5:Int)==2)=true:=beq_iff_eq.mpr c3;have HC:=bW (show jG ((L T.path).drop 1)=1 by have:=HN5.out;omega);clear c3;go_wp2_with fail
      go_ret;exact ⟨congrArg (fun x=>Ending.returned (Value.string x)) (show _=sRe T typ from (by unfold sRe;rw[if_neg H1.out,if_neg H2.out,if_pos ⟨HL.out,HC.out⟩])),HB5.out⟩
     have c4:((n5:Int)==2)=false:=beq_eq_false_iff_ne.mpr c3;have HC:=bW (show ¬ jG ((L T.path).drop 1)=1 by have:=HN5.out;omega);clear c3;go_wp2_with fail
     go_ret;exact ⟨congrArg (fun x=>Ending.returned (Value.string x)) (show _=sRe T typ from (by unfold sRe;rw[if_neg H1.out,if_neg H2.out,if_neg (fun h=>HC.out h.2)])),HB5.out⟩
end
open Go.RowKit Go.WideMaps Go.ZW.PrintWords Go.Proofs.YtlkoeeccebmjmaaGreatDoor.Base Go.Proofs.YtlkoeeccebmjmaaGreatDoor.Lower Go.Proofs.YtlkoeeccebmjmaaGreatDoor.Total Go.Proofs.YtlkoeeccebmjmaaGreatDoor.Ext Go.Proofs.YtlkoeeccebmjmaaGreatDoor.PCore
theorem zE (s:ByteArray) (w:World) (hs:s.size≤1000000) :
 Calls Tryz.prog 13 #[.string s] w fun e w'=>e = .returned (.bool (ascii (L s)))∧Below w.heap.size w w':=by
 obtain ⟨k,hk⟩:=(xG s bA).rounds;have c:=fO.calls k s _ w hk;clear hk;go_enter Tryz.func13,Tryz.ntmps13;go_wp2_with fail
 refine c.mono ?_;rintro e w' ⟨rfl,hb⟩;have HB:Aside0 (Below w.heap.size w w'):=bW (by first | exact hb | exact hb.below);clear hb c;go_wp2_with fail
 go_ret;exact ⟨rfl,HB.out⟩
open Go.RowKit Go.ZW.PrintWords Go.Proofs.YtlkoeeccebmjmaaGreatDoor.Base Go.Proofs.YtlkoeeccebmjmaaGreatDoor.PCore
theorem aDh (s t:ByteArray):kJ.f s t=some ((L t).isPrefixOf (L s)):=by
 unfold kJ.f
 have e:∀ r:Bool,(r=true↔(L t) <+: (L s))→(L t).isPrefixOf (L s)=r:=by
  intro r h;rw[Bool.eq_iff_iff,List.isPrefixOf_iff_prefix,h]
 by_cases c:(s.size:Int)≥(t.size:Int)
 ·rw[if_pos c,if_pos bA,if_pos bA];refine congrArg some (e _ ?_).symm;rw[L_toList,L_toList,eN,beq_iff_eq,Int.toNat_natCast,List.drop_zero,Nat.sub_zero,← eD];exact ⟨fun h=>h▸List.take_prefix _ _,fun h=>(List.prefix_iff_eq_take.1 h).symm⟩
 rw[if_neg c];refine congrArg some (e _ ?_).symm;refine ⟨(fun h=>by cases h),fun h=>?_⟩;have:=h.length_le;rw[eD,eD] at this;omega
theorem aBw (s t:ByteArray) (w:World):Calls Tryz.prog 16 #[.string s,.string t] w fun e w'=>e = .returned (.bool ((L t).isPrefixOf (L s)))∧Below w.heap.size w w' :=
 (kJ.calls s t _ w (aDh s t)).mono fun _ _ ⟨h1,h2⟩=>⟨h1,h2.below⟩
end Go.Proofs.YtlkoeeccebmjmaaGreatDoor.Path
