/- Texts that the law leans on: Parse, Impl, Args, SiteRow, Known0, LawKit, Wide, Known, Asked0. Condition: as told at each. -/
import Derived.SliceStrings
import Derived.Deep.Slices
import Derived.Deep.Fields
import Derived.Lib.SmallJoins
import Derived.ChangeSame
import Derived.Carry
import Derived.Test.YtlkoeeccebmjmaaGreatDoorXa
import Derived.Test.YtlkoeeccebmjmaaGreatDoorX22
import Derived.Test.YtlkoeeccebmjmaaGreatDoorX25
set_option linter.unusedVariables false
set_option linter.unusedSimpArgs false
set_option maxRecDepth 100000
set_option maxHeartbeats 16000000
namespace Go.Proofs.YtlkoeeccebmjmaaGreatDoor.Path
open Go.RowKit Go.WideMaps Go.ZW.PrintWords Go.Proofs.YtlkoeeccebmjmaaGreatDoor.Base Go.Proofs.YtlkoeeccebmjmaaGreatDoor.Lower Go.Proofs.YtlkoeeccebmjmaaGreatDoor.Norm
theorem aEe {s:ByteArray} (h:asc s):∀ c∈L s,c.toNat≤127:=by
 intro c hc;obtain ⟨k,hk⟩:=List.mem_iff_getElem?.1 hc;have:=h k c hk;omega
theorem aBu {s:ByteArray} (h:asc s):asc (norm s):=by
 intro j c hc;have e:(norm s).data.toList=(L s).map fun c=>lN (jI c):=aF1 s;rw[e,List.getElem?_map] at hc
 cases hx:(L s)[j]? with
 | none=>rw[hx] at hc;cases hc
 | some x =>
  rw[hx] at hc;injection hc with hc
  have hx2:=h j x hx
  have h1:(jI x).toNat < 128:=by
   unfold jI;split
   ·rename_i h1
    rw[UInt8.toNat_add];have:(32:UInt8).toNat=32:=rfl;omega
   exact hx2
  rw[← hc];show (if jI x=32 then (45:UInt8) else jI x).toNat < 128
  by_cases c:jI x=32
  ·rw[if_pos c];decide
  rw[if_neg c];exact h1
theorem eF.lower {w:World} {B B' b:Nat} {p:eE} {vk vu vl u:Value} (H:eF w B b p vk vu vl u) (h:B'≤B):eF w B' b p vk vu vl u :=
 ⟨Nat.le_trans h H.base,H.row,pJ H.ok h,pJ H.ou h,pJ H.ol h,H.nk,H.nu,H.nl,H.ku⟩
def aBo (w:World) (B:Nat) (E:Env) (comp s:ByteArray) (b ub:Nat) (vk vu vl:Value):Prop :=
 eF w B b (gI E comp (norm s)) vk vu vl (.pointer (some ⟨ub,0,none⟩))∧∃ vk2 vu2 vl2 u2,eF w B ub (gI E comp s) vk2 vu2 vl2 u2
theorem aBo.below {w w' : World} {B:Nat} {E:Env} {comp s:ByteArray} {b ub:Nat} {vk vu vl:Value} (H:aBo w B E comp s b ub vk vu vl) (hb:Below w.heap.size w w'):aBo w' B E comp s b ub vk vu vl:=by
 obtain ⟨h1,vk2,vu2,vl2,u2,h2⟩:=H;exact ⟨h1.below hb,vk2,vu2,vl2,u2,h2.below hb⟩
section
variable {w:World} {pb mb sb fb:Nat} {st:fF} {sl sd sf sc:Value}
theorem aD6 (S:iM w pb st sl sd sf sc mb sb fb) (OS:iR st) (comp s:ByteArray) (hs:s.size≤900000) (ha:asc s) :
 Calls Tryz.prog 66 #[.pointer (some ⟨pb,0,none⟩),.string comp,.string s] w fun e w' =>
  ∃ b ub vk vu vl,e = .returned (.tuple #[.pointer (some ⟨b,0,none⟩),.nilIface])∧aBo w' w.heap.size (eH st) comp s b ub vk vu vl∧Below w.heap.size w w':=by
 have HS:=bW S;have cn:=pI s w bA (aEe ha);have hns:(norm s).size≤900000:=by rw[norm_size];exact hs
 have han:=aBu ha
 obtain ⟨t,ht⟩:∃ t,norm s=t:=⟨_,rfl⟩
 rw[ht] at cn hns han;have HT:=bW ht;have HA:=bW ha;have HAN:=bW han;clear S ha han ht;go_enter Tryz.func66,Tryz.ntmps66;go_wp2_with fail
 refine cn.mono ?_;rintro e w1 ⟨rfl,hb1⟩;have HS1:=bW (HS.out.below hb1);have HB1:=bW hb1;clear cn hb1;have cnew:=tY w1 (.pointer (some ⟨pb,0,none⟩)) comp;go_wp2_with fail
 refine cnew.mono ?_;rintro e w2 ⟨rfl,hp2,hb2⟩;have HP2:=bW hp2;have HB2:=bW hb2;have cd:=xF HS1.out OS hb2 comp hp2 t hns HAN.out;clear cnew hp2 hb2;go_wp2_with fail
 refine cd.mono ?_;rintro e w3 ⟨rfl,vk,vu,vl,hp3,hm3⟩;have HP3:=bW hp3;have HB3:=bW (HB2.out.trans (eW.below HP2.out hm3));clear cd hp3 hm3
 obtain ⟨b1,hb1⟩:∃ b1,w1.heap.size=b1:=⟨_,rfl⟩
 have HBB:=bW hb1;rw[hb1] at HP3 HB3 ⊢;have hlt:=HP3.out.lt;have HLT:=bW hlt;clear hb1 hlt
 obtain ⟨z,hz⟩:∃ z,(s.toList==t.toList)=z:=⟨_,rfl⟩
 have hz2:(s.toList != t.toList) = !z:=by rw[bne,hz]
 have HZ:=bW hz;cases z
 ·have HS3:=bW (HS1.out.below (HBB.out▸HB3.out))
  have HB03:Aside0 (Below w.heap.size w w3):=⟨HB1.out.trans (HB3.out.mono (by rw[← HBB.out];exact HB1.out.size))⟩
  have cnew:=tY w3 (.pointer (some ⟨pb,0,none⟩)) comp;clear HP2 HB2;go_wp2_with fail
  refine cnew.mono ?_;rintro e w4 ⟨rfl,hp4,hb4⟩;have HP4:=bW hp4;have HB4:=bW hb4;have cd:=xF HS3.out OS hb4 comp hp4 s hs HA.out;clear cnew hp4 hb4;have q25:=HP3.out.row.at 25 _ rfl;have f25:=HP3.out.row.free 25 bG;go_wp2_with fail
  refine cd.mono ?_;rintro e w5 ⟨rfl,vk2,vu2,vl2,hp5,hm5⟩;have HB5:=bW (HB4.out.trans (eW.below HP4.out hm5));have HP5:=bW (HP3.out.below HB5.out);have HQ5:=bW hp5;clear cd hp5 hm5 q25 f25;have q25:=HP5.out.row.at 25 _ rfl;have f25:=HP5.out.row.free 25 bG;go_wp2_with fail
  have hpa:=HP5.out.put 25 (.pointer (some ⟨w3.heap.size,0,none⟩)) (mDo (eH st) comp t { fM with comp:=comp }) (.pointer (some ⟨w3.heap.size,0,none⟩)) rfl rfl rfl rfl bA;have hqa:eF (w5.setCell ⟨b1,25,none⟩ (.pointer (some ⟨w3.heap.size,0,none⟩))) w3.heap.size w3.heap.size (gI (eH st) comp s) vk2 vu2 vl2 (.pointer none):=HQ5.out.beside (a:=⟨b1,25,none⟩) (by have:=HLT.out;show w3.heap.size≠b1;omega) (pP HQ5.out.ok HLT.out) (pP HQ5.out.ou HLT.out) (pP HQ5.out.ol HLT.out) (.pointer (some ⟨w3.heap.size,0,none⟩));have hbz:Below w.heap.size w (w5.setCell ⟨b1,25,none⟩ (.pointer (some ⟨w3.heap.size,0,none⟩))):=(HB03.out.trans (HB5.out.mono HB03.out.size)).setCell (p:=⟨b1,25,none⟩) (by rw[← HBB.out];exact HB1.out.size) (.pointer (some ⟨w3.heap.size,0,none⟩))
  refine bodyPost_ret (results_tmp2 bH _ _ _) rfl ⟨b1,w3.heap.size,vk,vu,vl,rfl,⟨?_,vk2,vu2,vl2,_,hqa.lower HB03.out.size⟩,hbz⟩;have:=hpa.lower (B':=w.heap.size) (by rw[← HBB.out];exact HB1.out.size);rw[← HT.out] at this;exact this
 have q25:=HP3.out.row.at 25 _ rfl;have f25:=HP3.out.row.free 25 bG
 have HST:=bW (show norm s=s by
  rw[HT.out];refine (L_inj ?_).symm;have h9:=beq_iff_eq.1 HZ.out;rw[L_toList,L_toList] at h9
  exact h9)
 clear HP2 HB2;go_wp2_with fail
 have hpa:=HP3.out.put 25 (.pointer (some ⟨b1,0,none⟩)) (mDo (eH st) comp t { fM with comp:=comp }) (.pointer (some ⟨b1,0,none⟩)) rfl rfl rfl rfl bA;have hbz:Below w.heap.size w (w3.setCell ⟨b1,25,none⟩ (.pointer (some ⟨b1,0,none⟩))):=(HB1.out.trans (HB3.out.mono (by rw[← HBB.out];exact HB1.out.size))).setCell (p:=⟨b1,25,none⟩) (by rw[← HBB.out];exact HB1.out.size) (.pointer (some ⟨b1,0,none⟩));have hp:=hpa.lower (B':=w.heap.size) (by rw[← HBB.out];exact HB1.out.size);rw[← HT.out] at hp;refine bodyPost_ret (results_tmp2 bH _ _ _) rfl ⟨b1,b1,vk,vu,vl,rfl,⟨hp,vk,vu,vl,.pointer (some ⟨b1,0,none⟩),?_⟩,hbz⟩;have h8:=hp;rw[HST.out] at h8;exact h8
theorem wK (S:iM w pb st sl sd sf sc mb sb fb) (OS:iR st) (comp s:ByteArray) (hs:s.size≤900000) (ha:asc s) :
 Calls Tryz.prog 41 #[.pointer (some ⟨pb,0,none⟩),.string comp,.string s] w fun e w' =>
  ∃ b ub vk vu vl,e = .returned (.pointer (some ⟨b,0,none⟩))∧aBo w' w.heap.size (eH st) comp s b ub vk vu vl∧Below w.heap.size w w':=by
 have c:=aD6 S OS comp s hs ha;clear S hs ha;go_enter Tryz.func41,Tryz.ntmps41;go_wp2_with fail
 refine c.mono ?_;rintro e w' ⟨b,ub,vk,vu,vl,rfl,hp,hb⟩;have HP:=bW hp;have HB:=bW hb;clear c hp hb;go_wp2_with fail
 go_ret;exact ⟨b,ub,vk,vu,vl,rfl,HP.out,HB.out⟩
end
open Go.RowKit Go.WideMaps Go.ZW.PrintWords Go.Proofs.YtlkoeeccebmjmaaGreatDoor.Base Go.Proofs.YtlkoeeccebmjmaaGreatDoor.Lower
structure SiteIn (w:World) (st:fF) (vl vd vf vc:Value):Prop where
 l:fA w 0 vl st.langs
 d:fA w 0 vd st.dis
 f:mV w 0 vf st.fmts
 c:fA w 0 vc st.cont
theorem SiteIn.below {w w' : World} {st:fF} {vl vd vf vc:Value} (H:SiteIn w st vl vd vf vc) (hb:Below w.heap.size w w'):SiteIn w' st vl vd vf vc :=
 ⟨H.l.below hb,H.d.below hb,H.f.below hb,H.c.below hb⟩
def Told (w:World) (B:Nat) (p:eE) (v1 v2 v3:Value):Prop:=fA w B v1 (kP p)∧fA w B v2 (kL p)∧fA w B v3 (lQ p)
theorem Told.below {w w' : World} {B:Nat} {p:eE} {v1 v2 v3:Value} (H:Told w B p v1 v2 v3) (hb:Below w.heap.size w w'):Told w' B p v1 v2 v3:=⟨H.1.below hb,H.2.1.below hb,H.2.2.below hb⟩
section
variable {w:World} {st:fF} {vl vd vf vc:Value}
theorem yN (S:SiteIn w st vl vd vf vc) (OS:iR st) (comp s:ByteArray) (hs:s.size≤900000) (ha:asc s) :
 Calls Tryz.prog 38 #[.agg #[vl,vd,vf,vc],.string comp,.string s] w fun e w' =>
  ∃ v1 v2 v3,e = .returned (lX (kA (gI (eH st) comp (norm s))) v1 v2 v3)∧Told w' w.heap.size (gI (eH st) comp (norm s)) v1 v2 v3∧Below w.heap.size w w':=by
 have HSI:=bW S;have hok:=rK (eH st) comp (norm s) (by rw[norm_size];exact hs);have HOK:=bW hok;have HA:=bW ha;obtain ⟨Al,cl,rfl,_,_⟩:=S.l;obtain ⟨Ad,cd,rfl,_,_⟩:=S.d;obtain ⟨Af,cf,rfl,_,_⟩:=S.f;obtain ⟨Ac,cc,rfl,_,_⟩:=S.c;clear S hok ha;have hB1:Below w.heap.size w (w.alloc (.cells #[.slice Al st.langs.length cl,.slice Ad st.dis.length cd,.slice Af st.fmts.length cf,.slice Ac st.cont.length cc] 25)):=(Below.refl _ _).alloc (Nat.le_refl _) _;have hR1:=Row.new w [.slice Al st.langs.length cl,.slice Ad st.dis.length cd,.slice Af st.fmts.length cf,.slice Ac st.cont.length cc] 25;have hs1:w.heap.size < (w.alloc (.cells #[.slice Al st.langs.length cl,.slice Ad st.dis.length cd,.slice Af st.fmts.length cf,.slice Ac st.cont.length cc] 25)).heap.size:=by simp
 go_enter Tryz.func38,Tryz.ntmps38;go_upto_region 1 with fail
 obtain ⟨w1,hw1⟩:∃ w1,w.alloc (.cells #[.slice Al st.langs.length cl,.slice Ad st.dis.length cd,.slice Af st.fmts.length cf,.slice Ac st.cont.length cc] 25)=w1:=⟨_,rfl⟩
 have hz1:w1.heap.size=w.heap.size+1:=by rw[← hw1];simp
 rw[hw1] at hB1 hR1 hs1 ⊢;clear hw1;have hB2:Below w1.heap.size w1 (w1.alloc (.cells fX.toArray 28)):=(Below.refl _ _).alloc (Nat.le_refl _) _;have hR2:Row (w1.alloc (.cells fX.toArray 28)) w1.heap.size fX:=Row.new w1 fX _;rw[show fX.toArray=TZ from rfl] at hB2 hR2
 obtain ⟨w2,hw2⟩:∃ w2,w1.alloc (.cells TZ 28)=w2:=⟨_,rfl⟩
 rw[hw2] at hB2 hR2;change Code.wp _ _ _ _ (w1.alloc (.cells TZ 28));rw[hw2];clear hw2;rw[hz1] at hR2;have hB:Below w.heap.size w w2:=hB1.trans (hB2.mono bA);have hRs:=hR1.below hB2 hs1;have r0:=hRs.at 0 _ rfl;have r1:=hRs.at 1 _ rfl;have r2:=hRs.at 2 _ rfl;have r3:=hRs.at 3 _ rfl;have HB:=bW hB;have HR2:=bW hR2;have hlt2:w.heap.size+1 < w2.heap.size:=hR2.lt bF;have cp:=rM (HSI.out.l.below hB) (HSI.out.d.below hB) (HSI.out.f.below hB) (HSI.out.c.below hB) OS;clear hB1 hR1 hs1 hB2 hR2 hB hRs hz1;go_wp2_with fail
 refine cp.mono ?_;rintro e w3 ⟨pb,mb,sb,fb,rfl,hS,hb3⟩;have cP:=wK hS OS comp s hs HA.out;have HB3:=bW hb3;clear cp hS hb3 r0 r1 r2 r3;go_wp2_with fail
 refine cP.mono ?_;rintro e w4 ⟨b,ub,vk,vu,vl,rfl,hp,hb4⟩;have ct:=aFx hp.1 HOK.out.1 HOK.out.2.1 HOK.out.2.2;have HB4:=bW (eA HB3.out hb4);clear cP hp hb4;go_wp2_with fail
 refine ct.mono ?_;rintro e w5 ⟨v1,v2,v3,rfl,hs1,hs2,hs3,hb5⟩;have HB5:=bW (eA HB4.out hb5);have hz5:=HB4.out.size;have S1:=bW hs1;have S2:=bW hs2;have S3:=bW hs3;obtain ⟨A1,c1,e1,_⟩:=S1.out;obtain ⟨A2,c2,e2,_⟩:=S2.out;obtain ⟨A3,c3,e3,_⟩:=S3.out;clear ct hb5 hs1 hs2 hs3
 obtain ⟨C,hC⟩:∃ C:Array Value,qU (kA (gI (eH st) comp (norm s))) v1 v2 v3=C:=⟨_,rfl⟩
 have hval:lX (kA (gI (eH st) comp (norm s))) v1 v2 v3 = .agg C:=by rw[← hC];rfl
 have hCs:C.size=31:=by rw[← hC];rfl
 have hl:C.toList.length=31:=by simpa using hCs
 have hone:C.all (·.oneCell')=true:=by rw[← hC,e1,e2,e3];exact pD _ _ _ _ _ _ _ _ _ _
 have HV:=bW hval;rw[hval];clear hval e1 e2 e3;have HC:=bW hC;have hRf:=HR2.out.below HB5.out hlt2;have ht:World.there _ (w.heap.size+1) 0 31:=hRf.there
 dsimp only
 refine (show ∀ (a:Act) (w:World),wpList _ _ _ _ a w→_ from by assumption) _ _ ?_;refine wpList_store_mid rfl 28 _ _ rfl (w.heap.size+1) 0 C rfl rfl (by rw[hCs];exact ht) (by rw[hCs];kernel_rfl) hone ?_;have hr:=World.rangeAt_setCells_same _ (w.heap.size+1) 0 C.toList (by rw[hl];exact ht);have hld:=run_loadVar_mid (P:=Tryz.prog) _ (w.heap.size+1) 0 28 C.toList _ hr Tryz.underlying28 rfl (by rw[hl];kernel_rfl);have hfar:∀ k,k≠w.heap.size+1→(w5.setCells (w.heap.size+1) 0 C.toList).heap[k]? = w5.heap[k]?:=fun k hk=>nJ _ _ k hk;have hbel:Below w.heap.size w (w5.setCells (w.heap.size+1) 0 C.toList):=below_setCells (Nat.le_succ _) _ _ _ (HB.out.trans (HB5.out.mono HB.out.size))
 obtain ⟨W,hW⟩:∃ W,w5.setCells (w.heap.size+1) 0 C.toList=W:=⟨_,rfl⟩
 rw[hW] at hld hbel hfar ⊢;have s1:=bW (S1.out.far fun k hk _=>hfar k bA);have s2:=bW (S2.out.far fun k hk _=>hfar k bA);have s3:=bW (S3.out.far fun k hk _=>hfar k bA);have HBel:=bW hbel;have hz4:w.heap.size≤w4.heap.size:=by omega
 clear hbel hfar hW hr hone hl hCs ht hRf S1 S2 S3;go_wp2_with fail
 refine bodyPost_ret (v:=.agg C) (oB Tryz.results38 rfl (by simpa using hld)) rfl ⟨v1,v2,v3,?_,⟨s1.out.mono hz4,s2.out.mono hz4,s3.out.mono hz4⟩,HBel.out⟩;rw[HV.out]
end
open Go.RowKit Go.WideMaps Go.ZW.PrintWords Go.Proofs.YtlkoeeccebmjmaaGreatDoor.Base Go.Proofs.YtlkoeeccebmjmaaGreatDoor.Lower Go.Proofs.YtlkoeeccebmjmaaGreatDoor.Total Go.Proofs.YtlkoeeccebmjmaaGreatDoor.PCore
structure nG (w:World) (st:fF) (vl vd vf vc:Value):Prop extends SiteIn w st vl vd vf vc where
 ll:st.langs.length≤9223372036854775807
 dl:st.dis.length≤9223372036854775807
 fl:st.fmts.length≤9223372036854775807
 cl:st.cont.length≤9223372036854775807
theorem nG.below {w w' : World} {st:fF} {vl vd vf vc:Value} (H:nG w st vl vd vf vc) (hb:Below w.heap.size w w'):nG w' st vl vd vf vc :=
 ⟨H.toSiteIn.below hb,H.ll,H.dl,H.fl,H.cl⟩
def tE (st:fF):Bool:=Total.fits1 st.langs st.dis (st.fmts.map mkF) st.cont
def shortS (st:fF) (comp s:ByteArray):Bool:=yZ st.langs st.dis (st.fmts.map mkF) st.cont comp s
section
variable {w:World} {st:fF} {vl vd vf vc:Value}
theorem vP (S:nG w st vl vd vf vc):Calls Tryz.prog 11 #[.agg #[vl,vd,vf,vc]] w fun e w'=>e = .returned (.bool (tE st))∧Below w.heap.size w w':=by
 obtain ⟨k,hk⟩:=(Total.ev_fits1 st.langs st.dis (st.fmts.map mkF) st.cont).rounds;obtain ⟨A0,c0,rfl,h0,r0⟩:=S.l.kd S.ll;obtain ⟨A1,c1,rfl,h1,r1⟩:=S.d.kd S.dl;obtain ⟨A2,c2,rfl,h2,r2⟩:=S.f.kd S.fl;obtain ⟨A3,c3,rfl,h3,r3⟩:=S.c.kd S.cl;exact kK.calls k A0 c0 _ A1 c1 _ A2 c2 _ A3 c3 _ _ w r0 h0 r1 h1 r2 h2 r3 h3 hk
theorem aCd {l:List ByteArray} (h:fewB l=true):l.length≤2000∧∀ x∈l,x.size≤2000:=by
 unfold fewB at h;simp only[decide_eq_true_eq] at h;refine ⟨aM,fun x hx=>?_⟩
 have:x.size≤wt l:=by
  unfold wt
  induction l with
  | nil=>cases hx
  | cons a r ih =>
   simp only[List.map_cons,List.sum_cons];rcases List.mem_cons.1 hx with rfl | hx
   ·omega
   have:=ih (by simp only[wt,List.map_cons,List.sum_cons,List.length_cons] at h;simp only[wt];omega) hx;omega
 omega
theorem aI8 (l:List (S53)):l.length≤wt3 l:=by
 unfold wt3
 induction l with
 | nil=>simp
 | cons a r ih=>simp only[List.map_cons,List.sum_cons,List.length_cons];omega
theorem aI9 (l:List (S53)) (x:S53) (hx:x∈l):x.f0.size+x.f1.size≤wt3 l:=by
 unfold wt3
 induction l with
 | nil=>cases hx
 | cons a r ih =>
  simp only[List.map_cons,List.sum_cons];rcases List.mem_cons.1 hx with rfl | hx
  ·omega
  have:=ih hx;omega
theorem aC1 {comp s:ByteArray} (h:shortS st comp s=true):iR st∧comp.size≤2000∧s.size≤2000∧st.langs.length≤2000∧st.dis.length≤2000∧(st.fmts.map mkF).length≤2000∧st.cont.length≤2000∧(∀ x∈st.langs,x.size≤2000)∧(∀ x∈st.dis,x.size≤2000)∧(∀ x∈st.fmts.map mkF,x.f0.size≤2000∧x.f1.size≤2000)∧(∀ x∈st.cont,x.size≤2000):=by
 unfold shortS yZ at h;simp only[Bool.and_eq_true,decide_eq_true_eq] at h;obtain ⟨h0,h1,h2,h3⟩:=h;obtain ⟨a1,a2⟩:=aCd h1;obtain ⟨b1,b2⟩:=aCd h2;obtain ⟨c1,c2⟩:=aCd h3;have hw:=aI8 (st.fmts.map mkF);have hm:=aI9 (st.fmts.map mkF);have hlen:(st.fmts.map mkF).length=st.fmts.length:=by simp
 refine ⟨⟨aM,aM,aM,aM,fun x hx=>Nat.le_trans (a2 x hx) bA⟩,aM,aM,a1,b1,aM,c1,a2,b2,fun x hx=>?_,c2⟩;have:=hm x hx;omega
theorem aF6 {s:ByteArray} (h:Ext.ascii (L s)=true):asc s:=by
 intro j c hc;have:=List.all_eq_true.1 h c (List.mem_of_getElem? hc);simp only[decide_eq_true_eq] at this;omega
theorem yW (S:nG w st vl vd vf vc) (comp s:ByteArray) (h:shortS st comp s=true):∃ r:Bool,(r=true→asc s∧asc comp∧s.size≤400∧pE st comp s)∧∀ w',Below w.heap.size w w'→Calls Tryz.prog 33 #[.agg #[vl,vd,vf,vc],.string comp,.string s] w' fun e w''=>e = .returned (.bool r)∧Below w'.heap.size w' w'':=by
 obtain ⟨_,h1,h2,h3,h4,h5,h6,h7,h8,h9,h10⟩:=aC1 h;obtain ⟨r,hr,hp⟩:=aC4 st.langs st.dis (st.fmts.map mkF) st.cont comp s bA bA bA bA (fun x hx=>Nat.le_trans (h7 x hx) bA) (fun x hx=>Nat.le_trans (h8 x hx) bA) (fun x hx=>⟨Nat.le_trans (h9 x hx).1 bA,Nat.le_trans (h9 x hx).2 bA⟩) (fun x hx=>Nat.le_trans (h10 x hx) bA) bA bA;obtain ⟨k,hk⟩:=hr.rounds;refine ⟨r,fun e=>⟨aF6 (hp e).ascY,aF6 (hp e).ascX,(hp e).most,hp e⟩,fun w' hb=>?_⟩;have S':=S.below hb;obtain ⟨A0,c0,rfl,g0,r0⟩:=S'.l.kd S.ll;obtain ⟨A1,c1,rfl,g1,r1⟩:=S'.d.kd S.dl;obtain ⟨A2,c2,rfl,g2,r2⟩:=S'.f.kd S.fl;obtain ⟨A3,c3,rfl,g3,r3⟩:=S'.c.kd S.cl
 exact iQ.calls k A0 c0 _ A1 c1 _ A2 c2 _ A3 c3 _ comp s _ w' r0 g0 r1 g1 r2 g2 r3 g3 hk
end
end Go.Proofs.YtlkoeeccebmjmaaGreatDoor.Path
namespace Go.Proofs.YtlkoeeccebmjmaaGreatDoor.SiteRow
open Go.ChangeShapes Go.WideShapes Go.ChangeAt Go.RowKit Go.Joins Go.Deep Go.Proofs.YtlkoeeccebmjmaaGreatDoor.Path
theorem laidOut:laidOutB Tryz.prog=true:=by kernel_rfl
theorem aBr {a:Addr} (h:a.spot=none) (j:Nat):a.add j=⟨a.block,a.off+j,none⟩:=by
 cases a with
 | mk b o s =>
  simp only at h;subst h;unfold Addr.add;split
  ·rename_i h0;subst h0;rfl
  rfl
theorem aAz {w:World} {a:Addr} {v:Value} (h:w.cell? a=some v):a.spot=none:=by
 unfold World.cell? at h;split at h
 ·cases hs:a.spot with
  | none=>rfl
  | some x=>rw[hs] at h;simp at h
 cases h
section
variable {H:Type} {enc:TypeId×Value→H} {W:World}
theorem open_strs {n:Nat} {v:Value} {y:DataW H×List MemPlace} (h:DataW.trod enc Tryz.prog W 0 (fun _=>true) true n 22 [v]=some y):∃ l,fA W 0 v l∧l.length≤9223372036854775807:=by
 rcases open_strings Tryz.underlying22 Tryz.underlying9 bB h with ⟨hcs,_⟩ | ⟨a,len,cap,ss,hcs,_,hl,hm,hz,_,hcell,_⟩
 ·injection hcs with hcs
  subst hcs;exact ⟨[],fA.nil _ _ _ _,dV⟩
 injection hcs with hcs
 subst hcs;simp only[if_true] at hz;have hlen:(ss.take len).length=len:=by rw[List.length_take];omega
 have hmx:cap≤9223372036854775807:=by have:=hm;unfold maxLen at this;omega
 refine ⟨ss.take len,⟨some a,cap,by rw[hlen],by rw[hlen];exact hl,fun hp=>?_⟩,by rw[hlen];omega⟩;rw[hlen] at hp;have hsp:a.spot=none:=aAz (show W.cell? a=_ by have:=hcell 0 bA;rwa[show a.add 0=a by simp[Addr.add]] at this);refine ⟨a.block,a.off,by cases a;simp only at hsp;subst hsp;rfl,Nat.zero_le _,fun j hj=>?_⟩;have hj2:j < len:=by rw[hlen] at hj;exact hj
 have:=hcell j bA;rw[aBr hsp] at this;rw[this];congr 2;rw[List.getElem_take,List.getD_eq_getElem?_getD,List.getElem?_eq_getElem bA];rfl
theorem aGu {n:Nat} {v:Value} {y:DataW H×List MemPlace} (h:DataW.trod enc Tryz.prog W 0 (fun _=>true) true n 23 [v]=some y):∃ l,mV W 0 v l∧l.length≤9223372036854775807:=by
 rcases open_slice Tryz.underlying23 h with ⟨hcs,_⟩ | ⟨a,len,cap,m,n2,D,Pl,hcs,_,hl,hm,hmm,_,hi⟩
 ·injection hcs with hcs
  subst hcs;exact ⟨[],⟨none,0,rfl,Nat.le_refl _,fun h=>absurd h bJ⟩,dV⟩
 injection hcs with hcs
 subst hcs;simp only[if_true] at hmm;have hmx:cap≤9223372036854775807:=by have:=hm;unfold maxLen at this;omega
 have h2:Tryz.prog.cellsOf 53=2:=by kernel_rfl
 have each:∀ i,i < len→∃ x:ByteArray×ByteArray,W.cell? (a.add (i * 2))=some (.string x.1)∧W.cell? (a.add (i * 2+1))=some (.string x.2):=by
  intro i hil;obtain ⟨cs,hc,ht⟩:=hi i bA;rw[h2] at hc;obtain ⟨_,hcl,hat⟩:=World.cells?_some hc;obtain ⟨y0,y1,n3,_,_,h0,h1⟩:=trod_struct2 Tryz.underlying53 ht
  match cs,hcl with
  | [c0,c1],_ =>
   have e0:DataW.trod enc Tryz.prog W 0 (fun _=>true) true n3 9 [c0]=some y0:=h0;have e1:DataW.trod enc Tryz.prog W 0 (fun _=>true) true n3 9 [c1]=some y1:=h1;obtain ⟨s0,hs0,_⟩:=DataW.trod_string Tryz.underlying9 e0;obtain ⟨s1,hs1,_⟩:=DataW.trod_string Tryz.underlying9 e1;injection hs0 with hs0
   injection hs1 with hs1
   subst hs0 hs1;have a0:=hat 0 bA;have a1:=hat 1 bA;rw[Go.Deep.add_add] at a0 a1;exact ⟨(s0,s1),a0,a1⟩
 obtain ⟨f,hf⟩:=choose_lt each;have hlen:((List.range len).map f).length=len:=by simp
 refine ⟨(List.range len).map f,⟨some a,cap,by rw[hlen],by rw[hlen];exact hl,fun hp=>?_⟩,by rw[hlen];omega⟩;rw[hlen] at hp;have hsp:a.spot=none:=aAz (show W.cell? a=_ by have:=(hf 0 hp).1;rwa[show a.add (0 * 2)=a by simp[Addr.add]] at this);refine ⟨a.block,a.off,by cases a;simp only at hsp;subst hsp;rfl,Nat.zero_le _,fun j hj=>?_⟩;have hj2:j < len:=by rw[hlen] at hj;exact hj
 obtain ⟨g1,g2⟩:=hf j hj2;rw[aBr hsp] at g1 g2;rw[g1,g2]
 simp
theorem open_site {r:Reach} {base:Nat} {v:Value} {d:DataW H} {p:List MemPlace} (hv:Value.okWide Tryz.prog W r base 25 v) (h:DataW.Trod enc Tryz.prog W 0 (fun _=>true) true 25 v d p) :
 ∃ st vl vd vf vc,v = .agg #[vl,vd,vf,vc]∧nG W st vl vd vf vc:=by
 obtain ⟨v0,v1,v2,v3,y0,y1,y2,y3,n,rfl,_,_,h0,h1,h2,h3⟩:=open_agg4 Tryz.underlying25 bB bB hv h;obtain ⟨l0,s0,z0⟩:=open_strs h0;obtain ⟨l1,s1,z1⟩:=open_strs h1;obtain ⟨l2,s2,z2⟩:=aGu h2;obtain ⟨l3,s3,z3⟩:=open_strs h3;exact ⟨⟨l0,l1,l2,l3⟩,v0,v1,v2,v3,rfl,⟨⟨s0,s1,s2,s3⟩,z0,z1,z2,z3⟩⟩
end
end Go.Proofs.YtlkoeeccebmjmaaGreatDoor.SiteRow
namespace Go.Proofs.YtlkoeeccebmjmaaGreatDoor.Path
open Go.RowKit Go.WideMaps Go.ZW.PrintWords Go.Proofs.YtlkoeeccebmjmaaGreatDoor.Base Go.Proofs.YtlkoeeccebmjmaaGreatDoor.Lower Go.Proofs.YtlkoeeccebmjmaaGreatDoor.Total Go.Proofs.YtlkoeeccebmjmaaGreatDoor.PCore
theorem qM {P:Program} {fn:Func} {tmps:Array Value} {a u:Nat} {t:TypeId} {v:Value} {w:World} {x:Addr} (hf:fn.results = #[.cell a t,.tmp u]) (ha:tmps.getD a undef = .pointer (some x)) (hl:(loadVar t x).run P w = .ok v w) :
 (results fn tmps).run P w = .ok (.tuple #[v,tmps.getD u undef]) w:=by
 unfold results;rw[hf];have ha' : tmps[a]?.getD undef = .pointer (some x):=by simpa using ha
 simp[Sem.run_bind,ha',hl,asAddr]
theorem pN {ops:Array Oper} {rest:List Oper} {op:Oper} {a:Act} {w:World} {Q:Exit→Act→World→Prop} (hgd:op.guard=none) (x y:Operand) (ho:op.op = .store 28 x y) (b:Nat) (C:Array Value)
 (hx:a.eval x = .pointer (some ⟨b,0,none⟩)) (hy:a.eval y = .agg C) {cs:List Value} (hR:Row w b cs) (hcs:cs.length=31) (hC:C.size=31) (hone:C.all (·.oneCell')=true) (h:wpList Tryz.prog ops Q rest (a.put op.dst undef) (w.setCells b 0 C.toList)) :
 wpList Tryz.prog ops Q (op::rest) a w:=by
 have ht:w.there b 0 31:=hcs▸hR.there;exact wpList_store_mid hgd 28 x y ho b 0 C hx hy (by rw[hC];exact ht) (by rw[hC];kernel_rfl) hone h
theorem sM {w:World} {b:Nat} {C:Array Value} {cs:List Value} (hR:Row w b cs) (hcs:cs.length=31) (hC:C.size=31):(loadVar 28 ⟨b,0,none⟩).run Tryz.prog (w.setCells b 0 C.toList) = .ok (.agg C) (w.setCells b 0 C.toList):=by
 have ht:w.there b 0 31:=hcs▸hR.there;have hl:C.toList.length=31:=by simpa using hC
 have hr:=World.rangeAt_setCells_same w b 0 C.toList (by rw[hl];exact ht);have hld:=run_loadVar_mid (P:=Tryz.prog) _ b 0 28 C.toList _ hr Tryz.underlying28 rfl (by rw[hl];kernel_rfl)
 simpa using hld
def aIh:gN:=⟨⟨#[]⟩,⟨#[]⟩,⟨#[]⟩,⟨#[]⟩,⟨#[]⟩,⟨#[]⟩,⟨#[]⟩,⟨#[]⟩,⟨#[]⟩,⟨#[]⟩,⟨#[]⟩,⟨#[]⟩,⟨#[]⟩,⟨#[]⟩,⟨#[]⟩,⟨#[]⟩,⟨#[]⟩,⟨#[]⟩,⟨#[]⟩,⟨#[]⟩,⟨#[]⟩,[],[],[],false,false,false,false,false,false,0⟩
open Go.RowKit Go.WideMaps Go.ZW.PrintWords Go.Proofs.YtlkoeeccebmjmaaGreatDoor.Base Go.Proofs.YtlkoeeccebmjmaaGreatDoor.Lower
theorem zC {w:World} {b:Nat} {C:Array Value} {cs:List Value} (hR:Row w b cs) (hcs:cs.length=31) (hC:C.size=31):∀ (j:Nat) (v:Value),C.toList[j]? = some v→(w.setCells b 0 C.toList).cell? ⟨b,j,none⟩=some v:=by
 have ht:w.there b 0 31:=hcs▸hR.there;have hl:C.toList.length=31:=by simpa using hC
 have hr:=World.rangeAt_setCells_same w b 0 C.toList (by rw[hl];exact ht);intro j v hv;have:=hr j v hv;rwa[Nat.zero_add] at this
theorem zD (w:World) (C:Array Value):Below w.heap.size w ((w.alloc (.cells fX.toArray 28)).setCells w.heap.size 0 C.toList) :=
 below_setCells (Nat.le_refl _) _ _ _ ((Below.refl _ _).alloc (Nat.le_refl _) _)
open Go.RowKit Go.ZW.PrintWords Go.Proofs.YtlkoeeccebmjmaaGreatDoor.Base Go.Proofs.YtlkoeeccebmjmaaGreatDoor.Total Go.Proofs.YtlkoeeccebmjmaaGreatDoor.Lower Go.Proofs.YtlkoeeccebmjmaaGreatDoor.PCore
structure aJr (st:fF):Prop where
 l:st.langs.length≤4000000000
 d:st.dis.length≤4000000000
 f:st.fmts.length≤4000000000
 c:st.cont.length≤4000000000
 lz:∀ x∈st.langs,x.size≤4000000000
 dz:∀ x∈st.dis,x.size≤4000000000
 cz:∀ x∈st.cont,x.size≤4000000000
 fz:∀ x∈st.fmts,x.1.size≤4000000000∧x.2.size≤4000000000
theorem xL {l:List ByteArray} (h:fits2 l=true):l.length≤4000000000∧∀ x∈l,x.size≤4000000000:=by
 unfold fits2 MM at h;simp only[Bool.and_eq_true,decide_eq_true_eq,List.all_eq_true] at h;exact ⟨aM,fun x hx=>by have:=h.2 x hx;omega⟩
theorem aGj {st:fF} (h:tE st=true):aJr st:=by
 unfold tE Total.fits1 at h;simp only[Bool.and_eq_true] at h;obtain ⟨h1,h2,h3,h4⟩:=h;obtain ⟨a1,a2⟩:=xL h1;obtain ⟨b1,b2⟩:=xL h2;obtain ⟨d1,d2⟩:=xL h4;unfold fits3 MM at h3;simp only[Bool.and_eq_true,decide_eq_true_eq,List.all_eq_true] at h3;rw[List.length_map] at h3;refine ⟨a1,b1,aM,d1,a2,b2,d2,fun x hx=>?_⟩;have:=h3.2 (mkF x) (List.mem_map_of_mem hx);exact ⟨by have:=this.1;simp only[mkF] at this;omega,by have:=this.2;simp only[mkF] at this;omega⟩
section
variable {w:World} {st:fF} {vl vd vf vc:Value}
theorem tG (S:nG w st vl vd vf vc) (comp s:ByteArray) {b1 b2:Bool} (hcs:∀ w',Below w.heap.size w w'→Calls Tryz.prog 19 #[.agg #[vl,vd,vf,vc],.string comp,.string s] w' fun e w''=>e = .returned (.bool b1)∧Below w'.heap.size w' w'')
 (hk2:b1=true→∀ w',Below w.heap.size w w'→Calls Tryz.prog 33 #[.agg #[vl,vd,vf,vc],.string comp,.string s] w' fun e w''=>e = .returned (.bool b2)∧Below w'.heap.size w' w'') (hok:b1=true→b2=true→iR st∧asc s∧s.size≤400) :
 Calls Tryz.prog 12 #[.agg #[vl,vd,vf,vc],.string comp,.string s] w fun e w' =>
  ∃ t l1 l2 l3 v1 v2 v3,e = .returned (.tuple #[lX t v1 v2 v3,.bool (b1 && b2)])∧(fA w' w.heap.size v1 l1∧fA w' w.heap.size v2 l2∧fA w' w.heap.size v3 l3) ∧
   ((b1 && b2)=true→t=kA (gI (eH st) comp (norm s))∧l1=kP (gI (eH st) comp (norm s))∧l2=kL (gI (eH st) comp (norm s))∧l3=lQ (gI (eH st) comp (norm s)))∧Below w.heap.size w w':=by
 have HSA:=bW S;have HCK:=bW hcs;have HOK:=bW hok;have HK2:=bW hk2;obtain ⟨Al,cl,rfl,_,_⟩:=S.l;obtain ⟨Ad,cd,rfl,_,_⟩:=S.d;obtain ⟨Af,cf,rfl,_,_⟩:=S.f;obtain ⟨Ac,cc,rfl,_,_⟩:=S.c;clear S hcs hok hk2;have hB1:Below w.heap.size w (w.alloc (.cells #[.slice Al st.langs.length cl,.slice Ad st.dis.length cd,.slice Af st.fmts.length cf,.slice Ac st.cont.length cc] 25)):=(Below.refl _ _).alloc (Nat.le_refl _) _;have hR1:=Row.new w [.slice Al st.langs.length cl,.slice Ad st.dis.length cd,.slice Af st.fmts.length cf,.slice Ac st.cont.length cc] 25;have hs1:w.heap.size < (w.alloc (.cells #[.slice Al st.langs.length cl,.slice Ad st.dis.length cd,.slice Af st.fmts.length cf,.slice Ac st.cont.length cc] 25)).heap.size:=by simp
 go_enter Tryz.func12,Tryz.ntmps12;go_upto_region 1 with fail
 obtain ⟨w1,hw1⟩:∃ w1,w.alloc (.cells #[.slice Al st.langs.length cl,.slice Ad st.dis.length cd,.slice Af st.fmts.length cf,.slice Ac st.cont.length cc] 25)=w1:=⟨_,rfl⟩
 have hz1:w1.heap.size=w.heap.size+1:=by rw[← hw1];simp
 rw[hw1] at hB1 hR1 hs1 ⊢;clear hw1;have hB2:Below w1.heap.size w1 (w1.alloc (.cells fX.toArray 28)):=(Below.refl _ _).alloc (Nat.le_refl _) _;have hR2:Row (w1.alloc (.cells fX.toArray 28)) w1.heap.size fX:=Row.new w1 fX _;rw[show fX.toArray=TZ from rfl] at hB2 hR2
 obtain ⟨w2,hw2⟩:∃ w2,w1.alloc (.cells TZ 28)=w2:=⟨_,rfl⟩
 rw[hw2] at hB2 hR2;change Code.wp _ _ _ _ (w1.alloc (.cells TZ 28));rw[hw2];clear hw2;rw[hz1] at hR2;have hB:Below w.heap.size w w2:=hB1.trans (hB2.mono bA);have hRs:=hR1.below hB2 hs1;have HRS:=bW hRs;have r0:=hRs.at 0 _ rfl;have r1:=hRs.at 1 _ rfl;have r2:=hRs.at 2 _ rfl;have r3:=hRs.at 3 _ rfl;have HB:=bW hB;have HR2:=bW hR2;have hlt2:w.heap.size+1 < w2.heap.size:=hR2.lt bF;have cs:=HCK.out w2 hB;clear hB1 hR1 hs1 hB2 hR2 hB hRs hz1;go_wp2_with fail
 refine cs.mono ?_;rintro e w3 ⟨rfl,hb3⟩;have HB3:=bW hb3;clear cs r0 r1 r2 r3;have hRs:=HRS.out.below hb3 bA;have r0:=hRs.at 0 _ rfl;have r1:=hRs.at 1 _ rfl;have r2:=hRs.at 2 _ rfl;have r3:=hRs.at 3 _ rfl;clear hb3 hRs;have HRr:=bW (HR2.out.below HB3.out hlt2);cases b1
 ·go_upto_region 2 with fail
  clear r0 r1 r2 r3
  go_wp2_with (first | (refine pN rfl _ _ rfl (w.heap.size+1) TZ rfl rfl HRr.out rfl rfl bB ?_) | fail)
  have hbel:Below w.heap.size w (w3.setCells (w.heap.size+1) 0 TZ.toList):=below_setCells (Nat.le_succ _) _ _ _ (HB.out.trans (HB3.out.mono HB.out.size));refine bodyPost_ret (qM Tryz.results12 rfl (sM HRr.out rfl rfl)) rfl ⟨aIh,[],[],[],.slice none 0 0,.slice none 0 0,.slice none 0 0,rfl,⟨fA.nil _ _ _ _,fA.nil _ _ _ _,fA.nil _ _ _ _⟩,(fun h=>by cases h),hbel⟩
 have cp:=HK2.out rfl w3 (HB.out.trans (HB3.out.mono HB.out.size));go_wp2_with fail
 refine cp.mono ?_;rintro e w4 ⟨rfl,hb4⟩;have HB4:=bW (eA HB3.out hb4);clear cp r0 r1 r2 r3;have hRs:=(HRS.out.below HB3.out bA).below hb4 (by have:=HB3.out.size;omega);have r0:=hRs.at 0 _ rfl;have r1:=hRs.at 1 _ rfl;have r2:=hRs.at 2 _ rfl;have r3:=hRs.at 3 _ rfl;clear hb4 hRs;have HRr:=bW (HR2.out.below HB4.out hlt2);cases b2
 ·go_upto_region 2 with fail
  clear r0 r1 r2 r3
  go_wp2_with (first | (refine pN rfl _ _ rfl (w.heap.size+1) TZ rfl rfl HRr.out rfl rfl bB ?_) | fail)
  have hbel:Below w.heap.size w (w4.setCells (w.heap.size+1) 0 TZ.toList):=below_setCells (Nat.le_succ _) _ _ _ (HB.out.trans (HB4.out.mono HB.out.size));refine bodyPost_ret (qM Tryz.results12 rfl (sM HRr.out rfl rfl)) rfl ⟨aIh,[],[],[],.slice none 0 0,.slice none 0 0,.slice none 0 0,rfl,⟨fA.nil _ _ _ _,fA.nil _ _ _ _,fA.nil _ _ _ _⟩,(fun h=>by cases h),hbel⟩
 have hok:=HOK.out (by first | rfl | trivial) (by first | rfl | trivial);have cP:=yN (HSA.out.toSiteIn.below (HB.out.trans (HB4.out.mono HB.out.size))) hok.1 comp s bA hok.2.1;clear hok;go_wp2_with fail
 refine cP.mono ?_;rintro e w5 ⟨v1,v2,v3,rfl,hT,hb5⟩;have HB5:=bW (eA HB4.out hb5);have hz4:w.heap.size+1 < w4.heap.size:=Nat.lt_of_lt_of_le hlt2 HB4.out.size;have HT:=bW hT;obtain ⟨A1,c1,e1,_⟩:=HT.out.1;obtain ⟨A2,c2,e2,_⟩:=HT.out.2.1;obtain ⟨A3,c3,e3,_⟩:=HT.out.2.2;have HR5:=bW (HRr.out.below hb5 hz4);clear cP hb5 r0 r1 r2 r3 hT HRr
 obtain ⟨C,hC⟩:∃ C:Array Value,qU (kA (gI (eH st) comp (norm s))) v1 v2 v3=C:=⟨_,rfl⟩
 have hval:lX (kA (gI (eH st) comp (norm s))) v1 v2 v3 = .agg C:=by rw[← hC];rfl
 have hCs:C.size=31:=by rw[← hC];rfl
 have hone:C.all (·.oneCell')=true:=by rw[← hC,e1,e2,e3];exact pD _ _ _ _ _ _ _ _ _ _
 have HV:=bW hval;have HCS:=bW hCs;have HON:=bW hone;rw[hval];clear hval e1 e2 e3 hC hCs hone
 go_wp2_with (first | (refine pN rfl _ _ rfl (w.heap.size+1) C rfl rfl HR5.out rfl HCS.out HON.out ?_) | fail)
 have hbel:Below w.heap.size w (w5.setCells (w.heap.size+1) 0 C.toList):=below_setCells (Nat.le_succ _) _ _ _ (HB.out.trans (HB5.out.mono HB.out.size));have hfar:∀ k,w4.heap.size≤k→(w5.setCells (w.heap.size+1) 0 C.toList).heap[k]? = w5.heap[k]?:=fun k hk=>nJ _ _ k bA;have s1:=HT.out.1.far fun k hk _=>hfar k hk;have s2:=HT.out.2.1.far fun k hk _=>hfar k hk;have s3:=HT.out.2.2.far fun k hk _=>hfar k hk;have hzw:w.heap.size≤w4.heap.size:=by omega
 refine bodyPost_ret (qM Tryz.results12 rfl (sM HR5.out rfl HCS.out)) rfl ⟨_,_,_,_,v1,v2,v3,?_,⟨s1.mono hzw,s2.mono hzw,s3.mono hzw⟩,fun _=>⟨rfl,rfl,rfl,rfl⟩,hbel⟩;rw[HV.out];rfl
theorem aG8 {a b:List ByteArray} {c:List S53} {d:List ByteArray} (K:sX a b c d):wt3 c≤1000:=by
 have h1:=K.lc
 have h2:∀ l:List S53,(∀ x∈l,lU x.f0∧lU x.f1)→wt3 l≤l.length * 41:=by
  intro l
  induction l with
  | nil=>intro _;simp[wt3]
  | cons x r ih =>
   intro h;have:=ih (fun y hy=>h y (List.mem_cons_of_mem _ hy));have h3:=(h x List.mem_cons_self).1.most;have h4:=(h x List.mem_cons_self).2.most;simp only[wt3,List.map_cons,List.sum_cons,List.length_cons] at *;omega
 have:=h2 c K.fmts;omega
theorem aH5 (a b:List ByteArray) (c:List S53) (d:List ByteArray) (x y:ByteArray) (h:Total.fits1 a b c d=true) (hxy:x.size+y.size≤4611686018427387904) :
 PEv (fun r=>r=true→yZ a b c d x y=true∨¬ sX a b c d) (fun k=>gG.f k a b c d x y):=by
 by_cases hb:x.size+y.size+wt3 c≤9223372036854775807
 ·exact ⟨_,aCa a b c d x y h hb,fun e=>.inl e⟩
 have hn:¬ sX a b c d:=fun K=>by have:=aG8 K;omega
 have hh:=h;unfold Total.fits1 at hh;simp only[Bool.and_eq_true] at hh;obtain ⟨ha,hb',hc,hd⟩:=hh
 have hl:c.length≤MM:=by
  unfold fits3 at hc;simp only[Bool.and_eq_true,decide_eq_true_eq] at hc;exact hc.1
 unfold MM at hl
 have main:∀ (n j:Nat) (z:Int),c.length - j=n→j≤c.length→PEv (fun _=>True) (fun k=>gG.l0 k z c (c.length:Int) (j:Int) a b c d):=by
  have fin:∀ z:Int,PEv (fun _=>True) (fun k=>if z≤2000 then ((gF.f k a).bind fun t=>(if t=true then ((gF.f k b).bind fun t=>(if t=true then ((gF.f k d).bind fun t=>(some t)) else (some false))) else (some false))) else (some false)):=by
   intro z;refine PEv.ite (fun _=>?_) (fun _=>PEv.now trivial);refine PEv.bind (P:=fun _=>True) ⟨_,sO a ha,trivial⟩ (fun _ _=>?_);refine PEv.ite (fun _=>?_) (fun _=>PEv.now trivial);refine PEv.bind (P:=fun _=>True) ⟨_,sO b hb',trivial⟩ (fun _ _=>?_);refine PEv.ite (fun _=>?_) (fun _=>PEv.now trivial);exact PEv.bind (P:=fun _=>True) ⟨_,sO d hd,trivial⟩ (fun _ _=>PEv.now trivial)
  intro n
  induction n with
  | zero =>
   intro j z h1 h2;refine PEv.succ ?_;simp only[gG.l0];exact PEv.ite (fun h=>absurd h bA) (fun _=>fin z)
  | succ n ih =>
   intro j z h1 h2;have hj:j < c.length:=by omega
   refine PEv.succ ?_;simp only[gG.l0];refine PEv.ite (fun _=>?_) (fun h=>absurd bA h);refine PEv.ite (fun _=>?_) (fun h=>absurd bA h);refine PEv.ite (fun _=>?_) (fun h=>absurd bA h);rw[w64 (n:=(j:Int)+1) bA bA];exact ih (j+1) _ bA bA
 obtain ⟨r,hr,_⟩:=main c.length 0 (wrap64 ((x.size:Int)+(y.size:Int))) bA bA;exact ⟨r,Ev.congr (fun k=>by unfold gG.f;rfl) hr,fun _=>.inr hn⟩
theorem aHl (S:nG w st vl vd vf vc) (hf:tE st=true) (comp s:ByteArray) (hcs:comp.size+s.size≤4611686018427387904) :
 ∃ ok:Bool,(ok=true→iR st∧asc s∧asc comp∧s.size≤400∧comp.size≤2000∧pE st comp s) ∧
 ∀ W,Below w.heap.size w W→Calls Tryz.prog 12 #[.agg #[vl,vd,vf,vc],.string comp,.string s] W fun e w' =>
  ∃ t l1 l2 l3 v1 v2 v3,e = .returned (.tuple #[lX t v1 v2 v3,.bool ok])∧(fA w' W.heap.size v1 l1∧fA w' W.heap.size v2 l2∧fA w' W.heap.size v3 l3) ∧
   (ok=true→t=kA (gI (eH st) comp (norm s))∧l1=kP (gI (eH st) comp (norm s))∧l2=kL (gI (eH st) comp (norm s))∧l3=lQ (gI (eH st) comp (norm s)))∧Below W.heap.size W w':=by
 have hfs:Total.fits1 st.langs st.dis (st.fmts.map mkF) st.cont=true:=hf;obtain ⟨b1,hr,hp⟩:=aH5 st.langs st.dis (st.fmts.map mkF) st.cont comp s hfs hcs;obtain ⟨k,hk⟩:=hr.rounds
 have cs:∀ w',Below w.heap.size w w'→Calls Tryz.prog 19 #[.agg #[vl,vd,vf,vc],.string comp,.string s] w' fun e w''=>e = .returned (.bool b1)∧Below w'.heap.size w' w'':=by
  intro w' hb;have S':=S.below hb;obtain ⟨A0,c0,rfl,h0,r0⟩:=S'.l.kd S.ll;obtain ⟨A1,c1,rfl,h1,r1⟩:=S'.d.kd S.dl;obtain ⟨A2,c2,rfl,h2,r2⟩:=S'.f.kd S.fl;obtain ⟨A3,c3,rfl,h3,r3⟩:=S'.c.kd S.cl;exact gG.calls k A0 c0 _ A1 c1 _ A2 c2 _ A3 c3 _ comp s _ w' r0 h0 r1 h1 r2 h2 r3 h3 hk
 cases b1 with
 | false=>exact ⟨false && false,fun h=>(by cases h),fun W hW=>tG (S.below hW) comp s (fun w' hb=>cs w' (hW.trans (hb.mono hW.size))) (fun h=>(by cases h)) (fun h=>(by cases h))⟩
 | true =>
  rcases hp rfl with h1 | h1
  ·obtain ⟨r,h2,h3⟩:=yW S comp s h1;have h4:=aC1 h1
   exact ⟨true && r,fun h=>by
    have h5:=h2 (by simpa using h)
    exact ⟨h4.1,h5.1,h5.2.1,h5.2.2.1,h4.2.1,h5.2.2.2⟩,fun W hW=>tG (S.below hW) comp s (fun w' hb=>cs w' (hW.trans (hb.mono hW.size))) (fun _ w' hb=>h3 w' (hW.trans (hb.mono hW.size))) (fun _ e=>⟨h4.1,(h2 e).1,(h2 e).2.2.1⟩)⟩
  have W:=aGj hf;have lf:(st.fmts.map mkF).length≤4000000000:=by rw[List.length_map];exact W.f
  obtain ⟨r,hr2,e⟩:=aCs st.langs st.dis (st.fmts.map mkF) st.cont comp s W.l W.d lf W.c W.lz W.dz (fun x hx=>by
   obtain ⟨y,hy,rfl⟩:=List.mem_map.1 hx
   exact W.fz y hy) W.cz h1
  subst e;obtain ⟨k2,hk2⟩:=hr2.rounds;refine ⟨true && false,fun h=>(by cases h),fun W hW=>tG (S.below hW) comp s (fun w' hb=>cs w' (hW.trans (hb.mono hW.size))) (fun _ w' hb0=>?_) (fun _ h=>(by cases h))⟩;have hb:=hW.trans (hb0.mono hW.size);have S':=S.below hb;obtain ⟨A0,c0,rfl,g0,r0⟩:=S'.l.kd S.ll;obtain ⟨A1,c1,rfl,g1,r1⟩:=S'.d.kd S.dl;obtain ⟨A2,c2,rfl,g2,r2⟩:=S'.f.kd S.fl;obtain ⟨A3,c3,rfl,g3,r3⟩:=S'.c.kd S.cl;exact iQ.calls k2 A0 c0 _ A1 c1 _ A2 c2 _ A3 c3 _ comp s _ w' r0 g0 r1 g1 r2 g2 r3 g3 hk2
theorem wP (S:nG w st vl vd vf vc) (hf:tE st=true) (comp s:ByteArray) (hcs:comp.size+s.size≤4611686018427387904) :
 ∃ ok:Bool,(ok=true→iR st∧asc s∧asc comp∧s.size≤400∧comp.size≤2000∧pE st comp s) ∧
 Calls Tryz.prog 12 #[.agg #[vl,vd,vf,vc],.string comp,.string s] w fun e w' =>
  ∃ t l1 l2 l3 v1 v2 v3,e = .returned (.tuple #[lX t v1 v2 v3,.bool ok])∧(fA w' w.heap.size v1 l1∧fA w' w.heap.size v2 l2∧fA w' w.heap.size v3 l3) ∧
   (ok=true→t=kA (gI (eH st) comp (norm s))∧l1=kP (gI (eH st) comp (norm s))∧l2=kL (gI (eH st) comp (norm s))∧l3=lQ (gI (eH st) comp (norm s)))∧Below w.heap.size w w':=by
 obtain ⟨ok,h,c⟩:=aHl S hf comp s hcs;exact ⟨ok,h,c w (Below.refl _ _)⟩
end
open Go.ZW.PrintLast
theorem aDa {st:fF} {comp s:ByteArray} (K:pE st comp s):lJ (wOf st comp (pathOf s false))=kA (gI (eH st) comp (norm s)):=by
 obtain ⟨h1,h2,h3⟩:=aH9 K (wOf st comp (pathOf s false)).typ false;have e:{ gI (eH st) comp (norm s) with typ:=(wOf st comp (pathOf s false)).typ,trim:=false }=gI (eH st) comp (norm s):=by rw[← h2,← h3]
 rw[e] at h1;rw[h1,aFs]
end Go.Proofs.YtlkoeeccebmjmaaGreatDoor.Path
