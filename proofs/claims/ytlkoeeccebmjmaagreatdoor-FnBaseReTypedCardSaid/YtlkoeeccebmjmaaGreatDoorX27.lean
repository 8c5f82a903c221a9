/- Texts that the law leans on: ReWalk. Condition: as told at each. -/
import Derived.Test.YtlkoeeccebmjmaaGreatDoorXa
import Derived.Test.YtlkoeeccebmjmaaGreatDoorX18
import Derived.Test.YtlkoeeccebmjmaaGreatDoorX26
set_option linter.unusedVariables false
set_option linter.unusedSimpArgs false
set_option maxRecDepth 100000
set_option maxHeartbeats 16000000
namespace Go.Proofs.YtlkoeeccebmjmaaGreatDoor.Path
open Go.RowKit Go.WideMaps Go.ZW.PrintWords Go.Proofs.YtlkoeeccebmjmaaGreatDoor.Base Go.Proofs.YtlkoeeccebmjmaaGreatDoor.Lower
theorem isNone {b:ByteArray}:(b.toList==[])=true↔b=⟨#[]⟩:=by
 constructor
 ·intro h;have:b.toList=[]:=by simpa using h
  rw[L_toList] at this;exact L_inj (by rw[this];rfl)
 intro h;rw[h,L_toList];rfl
theorem aGm {a b:ByteArray}:(a.toList==b.toList)=true↔a=b:=by
 constructor
 ·intro h;have:a.toList=b.toList:=by simpa using h
  rw[L_toList,L_toList] at this;exact L_inj this
 intro h;rw[h];exact beq_self_eq_true _
section
variable {w:World} {B b:Nat} {p:eE} {vk vu vl u:Value}
theorem wC (H:eF w B b p vk vu vl u) (O:hU p) (typ:ByteArray) (hz:typ.size≤1000000) (hpl:p.sec = -1∨(0≤p.sec∧p.sec≤(iV p).size)) :
 Calls Tryz.prog 42 #[.pointer (some ⟨b,0,none⟩),.string typ] w fun e w'=>e = .returned (.string (mRe p typ))∧Below w.heap.size w w':=by
 have c1:=qO H O;have z1:(iV p).size≤2000000:=aEo O.toPathIn;have HH:=bW H;have HO:=bW O;have HPL:=bW hpl;clear H O hpl
 obtain ⟨bs,hbs⟩:∃ o,iV p=o:=⟨_,rfl⟩
 rw[hbs] at c1 z1 HPL;have HBS:=bW hbs;clear hbs
 cases c0:(typ.toList==[]) with
 | true =>
  have HR:=bW (show mRe p typ=bs by unfold mRe;rw[if_pos (.inl (isNone.1 c0)),HBS.out]);go_enter Tryz.func42,Tryz.ntmps42;go_wp2_with fail
  refine c1.mono ?_;rintro e w1 ⟨rfl,hb1⟩;have HB1:=bW hb1;clear hb1 c1;go_wp2_with fail
  go_ret;exact ⟨congrArg (fun x=>Ending.returned (Value.string x)) HR.out.symm,HB1.out⟩
 | false =>
  have H0:=bW (show typ≠⟨#[]⟩ from fun h=>by rw[isNone.2 h] at c0;cases c0)
  obtain ⟨sc,hsc⟩:∃ o,iT p=o:=⟨_,rfl⟩
  have HSC:=bW hsc;clear hsc;go_enter Tryz.func42,Tryz.ntmps42;go_wp2_with fail
  refine c1.mono ?_;rintro e w1 ⟨rfl,hb1⟩;have HB1:=bW hb1;have c2:=tT (HH.out.below hb1) HO.out;rw[HSC.out] at c2;clear hb1 c1
  cases cs:(sc.toList==typ.toList) with
  | true =>
   have HR:=bW (show mRe p typ=bs by unfold mRe;rw[if_pos (.inr (by rw[HSC.out];exact aGm.1 cs)),HBS.out]);go_wp2_with fail
   refine c2.mono ?_;rintro e w2 ⟨rfl,hb2⟩;have HB2:=bW (eA HB1.out hb2.below);clear hb2 c2;go_wp2_with fail
   go_ret;exact ⟨congrArg (fun x=>Ending.returned (Value.string x)) HR.out.symm,HB2.out⟩
  | false =>
   have HR:=bW (show mRe p typ=nrm p.trim (⟨#[47]⟩++typ++(if p.sec = -1 then ⟨#[]⟩ else bs.extract p.sec.toNat bs.size)) by unfold mRe;rw[if_neg (by rintro (h | h);exact H0.out h;rw[HSC.out] at h;rw[aGm.2 h] at cs;cases cs),HBS.out]);go_wp2_with fail
   refine c2.mono ?_;rintro e w2 ⟨rfl,hb2⟩;have HB2:=bW (eA HB1.out hb2.below);clear hb2 c2;have q3:=(HH.out.below HB2.out).row.at 3 _ rfl
   obtain ⟨se,hse⟩:∃ o,p.sec=o:=⟨_,rfl⟩
   rw[hse] at q3 HPL HR;clear hse
   by_cases e1:se = -1
   ·subst e1;have HE:=bW (show mRe p typ=nrm p.trim (⟨#[47]⟩++typ) by rw[HR.out,if_pos rfl,aEd]);have cn:=iN (HH.out.below HB2.out) (⟨#[47]⟩++typ);go_wp2_with fail
    refine cn.mono ?_;rintro e w9 ⟨rfl,hw9⟩;obtain rfl:=hw9;clear cn;go_wp2_with fail
    go_ret;exact ⟨congrArg (fun x=>Ending.returned (Value.string x)) (HE.out.symm),HB2.out⟩
   have g:=HPL.out.resolve_left e1;have g0:0≤se:=g.1;have g1:se≤(bs.size:Int):=g.2;have e2:(se != -1)=true:=by simpa using e1
   have e3:(se == -1)=false:=by simpa using e1
   have HE:=bW (show mRe p typ=nrm p.trim (⟨#[47]⟩++typ++bs.extract se.toNat bs.size) by rw[HR.out,if_neg e1]);clear g;have cn:=iN (HH.out.below HB2.out) (⟨#[47]⟩++typ++bs.extract se.toNat bs.size);go_wp2_with fail
   refine cn.mono ?_;rintro e w9 ⟨rfl,hw9⟩;obtain rfl:=hw9;clear cn;go_wp2_with fail
   go_ret;exact ⟨congrArg (fun x=>Ending.returned (Value.string x)) (HE.out.symm),HB2.out⟩
end
section
variable {w:World} {st:fF} {vl vd vf vc:Value}
theorem wG (S:SiteIn w st vl vd vf vc) (OS:iR st) (comp s typ:ByteArray) (hs:s.size≤900000) (ho:typ.size≤900000) (ha:asc s) (hpl:(gI (eH st) comp (norm s)).sec = -1∨(0≤(gI (eH st) comp (norm s)).sec∧(gI (eH st) comp (norm s)).sec≤(iV (gI (eH st) comp (norm s))).size)) :
 Calls Tryz.prog 14 #[.agg #[vl,vd,vf,vc],.string comp,.string s,.string typ] w fun e w'=>e = .returned (.string (mRe (gI (eH st) comp (norm s)) typ))∧Below w.heap.size w w':=by
 have HSI:=bW S;have HOK:=bW (rK (eH st) comp (norm s) (by rw[norm_size];exact hs));have HA:=bW ha;have HPL:=bW hpl;obtain ⟨Al,cl,rfl,_,_⟩:=S.l;obtain ⟨Ad,cd,rfl,_,_⟩:=S.d;obtain ⟨Af,cf,rfl,_,_⟩:=S.f;obtain ⟨Ac,cc,rfl,_,_⟩:=S.c;clear S ha hpl;have hB1:Below w.heap.size w (w.alloc (.cells #[.slice Al st.langs.length cl,.slice Ad st.dis.length cd,.slice Af st.fmts.length cf,.slice Ac st.cont.length cc] 25)):=(Below.refl _ _).alloc (Nat.le_refl _) _;have hR1:=Row.new w [.slice Al st.langs.length cl,.slice Ad st.dis.length cd,.slice Af st.fmts.length cf,.slice Ac st.cont.length cc] 25;go_enter Tryz.func14,Tryz.ntmps14;go_upto_region 1 with fail
 obtain ⟨w1,hw1⟩:∃ w1,w.alloc (.cells #[.slice Al st.langs.length cl,.slice Ad st.dis.length cd,.slice Af st.fmts.length cf,.slice Ac st.cont.length cc] 25)=w1:=⟨_,rfl⟩
 rw[hw1] at hB1 hR1 ⊢;clear hw1;have r0:=hR1.at 0 _ rfl;have r1:=hR1.at 1 _ rfl;have r2:=hR1.at 2 _ rfl;have r3:=hR1.at 3 _ rfl;have HB1:=bW hB1;have cp:=rM (HSI.out.l.below hB1) (HSI.out.d.below hB1) (HSI.out.f.below hB1) (HSI.out.c.below hB1) OS;clear hB1 hR1;go_wp2_with fail
 refine cp.mono ?_;rintro e w3 ⟨pb,mb,sb,fb,rfl,hS,hb3⟩;have cP:=wK hS OS comp s hs HA.out;have HB3:=bW (eA HB1.out hb3);clear cp hS hb3 r0 r1 r2 r3;go_wp2_with fail
 refine cP.mono ?_;rintro e w4 ⟨b,ub,vk,vu,vl,rfl,hp,hb4⟩;have HB4:=bW (eA HB3.out hb4);have c6:=wC hp.1 HOK.out.1 typ bA HPL.out;clear cP hp hb4;go_wp2_with fail
 refine c6.mono ?_;rintro e w6 ⟨rfl,hb6⟩;have HB6:=bW (eA HB4.out hb6);clear c6 hb6;go_wp2_with fail
 go_ret;exact ⟨rfl,HB6.out⟩
end
end Go.Proofs.YtlkoeeccebmjmaaGreatDoor.Path
