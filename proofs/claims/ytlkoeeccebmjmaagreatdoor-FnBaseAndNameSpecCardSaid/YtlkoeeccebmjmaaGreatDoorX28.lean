/- Texts that the law leans on: Pooled. Condition: as told at each. -/
import Derived.Defers
import Derived.Test.YtlkoeeccebmjmaaGreatDoorXa
import Derived.Test.YtlkoeeccebmjmaaGreatDoorX24
import Derived.Test.YtlkoeeccebmjmaaGreatDoorX26
set_option linter.unusedVariables false
set_option linter.unusedSimpArgs false
set_option maxRecDepth 100000
set_option maxHeartbeats 16000000
namespace Go.Proofs.YtlkoeeccebmjmaaGreatDoor.Path
open Go.RowKit Go.WideMaps Go.ZW.PrintWords Go.Proofs.YtlkoeeccebmjmaaGreatDoor.Base Go.Proofs.YtlkoeeccebmjmaaGreatDoor.Lower Go.Proofs.YtlkoeeccebmjmaaGreatDoor.Norm
section
variable {w:World} {pb mb sb fb:Nat} {st:fF} {sl sd sf sc:Value}
theorem wH (S:iM w pb st sl sd sf sc mb sb fb) (OS:iR st) (comp s:ByteArray) (hs:s.size≤900000) (ha:asc s) :
 Calls Tryz.prog 70 #[.pointer (some ⟨pb,0,none⟩),.string comp,.string s] w fun e w' =>
  ∃ b vk vu vl,e = .returned (.pointer (some ⟨b,0,none⟩))∧w.heap.size≤b∧eF w' w.heap.size b (gI (eH st) comp (norm s)) vk vu vl (.pointer none)∧Below w.heap.size w w':=by
 have HS:=bW S;have cn:=pI s w bA (aEe ha);have hns:(norm s).size≤900000:=by rw[norm_size];exact hs
 have han:=aBu ha
 obtain ⟨t,ht⟩:∃ t,norm s=t:=⟨_,rfl⟩
 rw[ht] at cn hns han ⊢;have HAN:=bW han;clear S ha han ht;go_enter Tryz.func70,Tryz.ntmps70;go_wp2_with fail
 refine cn.mono ?_;rintro e w1 ⟨rfl,hb1⟩;have HS1:=bW (HS.out.below hb1);have HB1:=bW hb1;clear cn hb1;have cnew:=aBa w1;go_wp2_with fail
 refine cnew.mono ?_;rintro e w2 ⟨rfl,hp2,hb2⟩;have q4:=hp2.row.at 4 _ rfl;have f4:=hp2.row.free 4 bG;have HP2:=bW (hp2.put 4 (.string comp) { fM with comp:=comp } (.pointer none) rfl rfl rfl rfl bA);have HB2:=bW (hb2.setCell (p:=⟨w1.heap.size,4,none⟩) (Nat.le_refl _) (.string comp));clear cnew hp2 hb2;go_upto_region 4 with fail
 obtain ⟨w2',hw⟩:∃ z,w2.setCell ⟨w1.heap.size,4,none⟩ (.string comp)=z:=⟨_,rfl⟩
 rw[hw] at HP2 HB2 ⊢;clear hw q4 f4;have cd:=xF HS1.out OS HB2.out comp HP2.out t hns HAN.out;go_wp2_with fail
 refine cd.mono ?_;rintro e w3 ⟨rfl,vk,vu,vl,hp3,hm3⟩;have HP3:=bW hp3;have HB3:=bW (HB2.out.trans (eW.below HP2.out hm3));clear cd hp3 hm3;go_wp2_with fail
 go_ret;exact ⟨w1.heap.size,vk,vu,vl,rfl,HB1.out.size,HP3.out.lower HB1.out.size,HB1.out.trans (HB3.out.mono HB1.out.size)⟩
end
section
variable {w:World} {b:Nat} {p:eE} {vu u:Value}
theorem xS {A A2:Option Addr} {n c n2 c2:Nat} (R:Row w b (cells p (.slice A n c) vu (.slice A2 n2 c2) u)) (m:FrameMode) :
 CallsD Tryz.prog 71 #[.pointer (some ⟨b,0,none⟩)] m w fun e u' w'=>u'=m∧(e = .returned (.tuple #[])∧Below b w w'):=by
 have c:=sK R;clear R
 go_enter_d Tryz.func71,Tryz.ntmps71
 go_wp2_with fail
 refine c.mono ?_;rintro e w' ⟨rfl,_,hb⟩;have HB:=bW hb;clear hb c;go_wp2_with fail
 go_end0
 exact ⟨rfl,HB.out⟩
end
section
variable {w:World} {pb mb sb fb:Nat} {st:fF} {sl sd sf sc:Value}
theorem aFn (S:iM w pb st sl sd sf sc mb sb fb) (OS:iR st) (comp s:ByteArray) (hs:s.size≤900000) (ha:asc s) :
 Calls Tryz.prog 45 #[.pointer (some ⟨pb,0,none⟩),.string comp,.string s] w fun e w' =>
  e = .returned (.tuple #[.string (iV (gI (eH st) comp (norm s))),.string (nK (gI (eH st) comp (norm s)))])∧Below w.heap.size w w':=by
 have cp:=wH S OS comp s hs ha;have HOK:=bW (rK (eH st) comp (norm s) (by rw[norm_size];exact hs)).1
 obtain ⟨p,hp⟩:∃ p,(gI (eH st) comp (norm s))=p:=⟨_,rfl⟩
 rw[hp] at cp HOK ⊢;clear S ha hp
 go_enter_defers Tryz.func45,Tryz.ntmps45
 go_wp2_with fail
 refine cp.mono ?_;rintro e w1 ⟨b,vk,vu,vl,rfl,hle,hp,hb1⟩;have HP:=bW hp;have HLE:=bW hle;have HB1:=bW hb1;have c1:=qO hp HOK.out;clear cp hp hb1 hle;go_wp2_with fail
 refine c1.mono ?_;rintro e w2 ⟨rfl,hb2⟩;have HB2:=bW hb2;have c2:=nW (HP.out.below hb2) HOK.out;clear c1 hb2;go_wp2_with fail
 refine c2.mono ?_;rintro e w3 ⟨rfl,hb3⟩;have HP3:=bW ((HP.out.below HB2.out).below hb3);have HB3:=bW (eA (eA HB1.out HB2.out) hb3);clear c2 hb3;go_wp2_with fail
 obtain ⟨A,c,e1⟩:=fL HP3.out.ok;obtain ⟨A2,c2,e2⟩:=fL HP3.out.ol;have hrow:=HP3.out.row;rw[e1,e2] at hrow;refine leaves_cons (f:=71) (args:=#[.pointer (some ⟨b,0,none⟩)]) bJ (by simp[go_sem]) ?_;refine (xS hrow .returning).mono ?_;rintro e u' w4 ⟨rfl,rfl,hb4⟩;exact ⟨_,results_tmp2 rfl _ _ _,rfl,HB3.out.trans (hb4.mono HLE.out)⟩
end
section
variable {w:World} {st:fF} {vl vd vf vc:Value}
theorem zX (S:SiteIn w st vl vd vf vc) (OS:iR st) (comp s:ByteArray) (hs:s.size≤900000) (ha:asc s) :
 Calls Tryz.prog 17 #[.agg #[vl,vd,vf,vc],.string comp,.string s] w fun e w'=>e = .returned (.tuple #[.string (iV (gI (eH st) comp (norm s))),.string (nK (gI (eH st) comp (norm s)))])∧Below w.heap.size w w':=by
 have HSI:=bW S;have HA:=bW ha;obtain ⟨Al,cl,rfl,_,_⟩:=S.l;obtain ⟨Ad,cd,rfl,_,_⟩:=S.d;obtain ⟨Af,cf,rfl,_,_⟩:=S.f;obtain ⟨Ac,cc,rfl,_,_⟩:=S.c;clear S ha;have hB1:Below w.heap.size w (w.alloc (.cells #[.slice Al st.langs.length cl,.slice Ad st.dis.length cd,.slice Af st.fmts.length cf,.slice Ac st.cont.length cc] 25)):=(Below.refl _ _).alloc (Nat.le_refl _) _;have hR1:=Row.new w [.slice Al st.langs.length cl,.slice Ad st.dis.length cd,.slice Af st.fmts.length cf,.slice Ac st.cont.length cc] 25;go_enter Tryz.func17,Tryz.ntmps17;go_upto_region 1 with fail
 obtain ⟨w1,hw1⟩:∃ w1,w.alloc (.cells #[.slice Al st.langs.length cl,.slice Ad st.dis.length cd,.slice Af st.fmts.length cf,.slice Ac st.cont.length cc] 25)=w1:=⟨_,rfl⟩
 rw[hw1] at hB1 hR1 ⊢;clear hw1;have r0:=hR1.at 0 _ rfl;have r1:=hR1.at 1 _ rfl;have r2:=hR1.at 2 _ rfl;have r3:=hR1.at 3 _ rfl;have HB1:=bW hB1;have cp:=rM (HSI.out.l.below hB1) (HSI.out.d.below hB1) (HSI.out.f.below hB1) (HSI.out.c.below hB1) OS;clear hB1 hR1;go_wp2_with fail
 refine cp.mono ?_;rintro e w3 ⟨pb,mb,sb,fb,rfl,hS,hb3⟩;have cP:=aFn hS OS comp s hs HA.out;have HB3:=bW (eA HB1.out hb3);clear cp hS hb3 r0 r1 r2 r3;go_wp2_with fail
 refine cP.mono ?_;rintro e w4 ⟨rfl,hb4⟩;have HB4:=bW (eA HB3.out hb4);clear cP hb4;go_wp2_with fail
 refine bodyPost_ret (results_tmp2 bH _ _ _) rfl ⟨rfl,HB4.out⟩
end
end Go.Proofs.YtlkoeeccebmjmaaGreatDoor.Path
