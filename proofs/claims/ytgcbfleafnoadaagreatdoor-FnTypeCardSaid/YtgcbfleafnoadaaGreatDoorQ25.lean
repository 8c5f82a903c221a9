/- Texts that the law leans on: Parse, Impl, Args, SiteRow, Known0, SpecParse, Asked, Texts. Condition: as told at each. -/
import Derived.SliceStrings
import Derived.Deep.Slices
import Derived.Deep.Fields
import Derived.Lib.SmallJoins
import Derived.ChangeSame
import Derived.Carry
import Derived.Test.YtgcbfleafnoadaaGreatDoorQa
import Derived.Test.YtgcbfleafnoadaaGreatDoorQ20
import Derived.Test.YtgcbfleafnoadaaGreatDoorQ22
import Derived.Test.YtgcbfleafnoadaaGreatDoorQ23
import Derived.Test.YtgcbfleafnoadaaGreatDoorQ24
set_option linter.unusedVariables false
set_option linter.unusedSimpArgs false
set_option maxRecDepth 100000
set_option maxHeartbeats 16000000
namespace Go.Proofs.YtgcbfleafnoadaaGreatDoor.Path
open Go.RowKit Go.WideMaps Go.Proofs.YtgcbfleafnoadaaGreatDoorW.PrintWords Go.Proofs.YtgcbfleafnoadaaGreatDoor.Base Go.Proofs.YtgcbfleafnoadaaGreatDoor.Lower Go.Proofs.YtgcbfleafnoadaaGreatDoor.Norm
theorem aH9 {s:ByteArray} (h:asc s):∀ c∈L s,c.toNat≤127:=by
 intro c hc;obtain ⟨k,hk⟩:=List.mem_iff_getElem?.1 hc;have:=h k c hk;omega
theorem aGx {s:ByteArray} (h:asc s):asc (norm s):=by
 intro j c hc;have e:(norm s).data.toList=(L s).map fun c=>lS (jF c):=aFt s;rw[e,List.getElem?_map] at hc
 cases hx:(L s)[j]? with
 | none=>rw[hx] at hc;cases hc
 | some x =>
  rw[hx] at hc;injection hc with hc
  have hx2:=h j x hx
  have h1:(jF x).toNat < 128:=by
   unfold jF;split
   ·rename_i h1
    rw[UInt8.toNat_add];have:(32:UInt8).toNat=32:=rfl;omega
   exact hx2
  rw[← hc];show (if jF x=32 then (45:UInt8) else jF x).toNat < 128
  by_cases c:jF x=32
  ·rw[if_pos c];decide
  rw[if_neg c];exact h1
theorem eF.lower {w:World} {B B' b:Nat} {p:eG} {vk vu vl u:Value} (H:eF w B b p vk vu vl u) (h:B'≤B):eF w B' b p vk vu vl u :=
 ⟨Nat.le_trans h H.base,H.row,pP H.ok h,pP H.ou h,pP H.ol h,H.nk,H.nu,H.nl,H.ku⟩
def aBe (w:World) (B:Nat) (E:Env) (comp s:ByteArray) (b ub:Nat) (vk vu vl:Value):Prop :=
 eF w B b (iR E comp (norm s)) vk vu vl (.pointer (some ⟨ub,0,none⟩))∧∃ vk2 vu2 vl2 u2,eF w B ub (iR E comp s) vk2 vu2 vl2 u2
theorem aBe.below {w w' : World} {B:Nat} {E:Env} {comp s:ByteArray} {b ub:Nat} {vk vu vl:Value} (H:aBe w B E comp s b ub vk vu vl) (hb:Below w.heap.size w w'):aBe w' B E comp s b ub vk vu vl:=by
 obtain ⟨h1,vk2,vu2,vl2,u2,h2⟩:=H;exact ⟨h1.below hb,vk2,vu2,vl2,u2,h2.below hb⟩
section
variable {w:World} {pb mb sb fb:Nat} {st:fJ} {sl sd sf sc:Value}
theorem aD0 (S:iT w pb st sl sd sf sc mb sb fb) (OS:jN st) (comp s:ByteArray) (hs:s.size≤900000) (ha:asc s) :
 Calls Tryz.prog 99 #[.pointer (some ⟨pb,0,none⟩),.string comp,.string s] w fun e w' =>
  ∃ b ub vk vu vl,e = .returned (.tuple #[.pointer (some ⟨b,0,none⟩),.nilIface])∧aBe w' w.heap.size (eJ st) comp s b ub vk vu vl∧Below w.heap.size w w':=by
 have HS:=bY S;have cn:=tT s w bA (aH9 ha);have hns:(norm s).size≤900000:=by rw[norm_size];exact hs
 have han:=aGx ha
 obtain ⟨t,ht⟩:∃ t,norm s=t:=⟨_,rfl⟩
 rw[ht] at cn hns han;have HT:=bY ht;have HA:=bY ha;have HAN:=bY han;clear S ha han ht;go_enter Tryz.func99,Tryz.ntmps99;go_wp2_with fail
 refine cn.mono ?_;rintro e w1 ⟨rfl,hb1⟩;have HS1:=bY (HS.out.below hb1);have HB1:=bY hb1;clear cn hb1;have cnew:=uF w1 (.pointer (some ⟨pb,0,none⟩)) comp;go_wp2_with fail
 refine cnew.mono ?_;rintro e w2 ⟨rfl,hp2,hb2⟩;have HP2:=bY hp2;have HB2:=bY hb2;have cd:=aBs HS1.out OS hb2 comp hp2 t hns HAN.out;clear cnew hp2 hb2;go_wp2_with fail
 refine cd.mono ?_;rintro e w3 ⟨rfl,vk,vu,vl,hp3,hm3⟩;have HP3:=bY hp3;have HB3:=bY (HB2.out.trans (eY.below HP2.out hm3));clear cd hp3 hm3
 obtain ⟨b1,hb1⟩:∃ b1,w1.heap.size=b1:=⟨_,rfl⟩
 have HBB:=bY hb1;rw[hb1] at HP3 HB3 ⊢;have hlt:=HP3.out.lt;have HLT:=bY hlt;clear hb1 hlt
 obtain ⟨z,hz⟩:∃ z,(s.toList==t.toList)=z:=⟨_,rfl⟩
 have hz2:(s.toList != t.toList) = !z:=by rw[bne,hz]
 have HZ:=bY hz;cases z
 ·have HS3:=bY (HS1.out.below (HBB.out▸HB3.out))
  have HB03:Aside0 (Below w.heap.size w w3):=⟨HB1.out.trans (HB3.out.mono (by rw[← HBB.out];exact HB1.out.size))⟩
  have cnew:=uF w3 (.pointer (some ⟨pb,0,none⟩)) comp;clear HP2 HB2;go_wp2_with fail
  refine cnew.mono ?_;rintro e w4 ⟨rfl,hp4,hb4⟩;have HP4:=bY hp4;have HB4:=bY hb4;have cd:=aBs HS3.out OS hb4 comp hp4 s hs HA.out;clear cnew hp4 hb4;have q25:=HP3.out.row.at 25 _ rfl;have f25:=HP3.out.row.free 25 bG;go_wp2_with fail
  refine cd.mono ?_;rintro e w5 ⟨rfl,vk2,vu2,vl2,hp5,hm5⟩;have HB5:=bY (HB4.out.trans (eY.below HP4.out hm5));have HP5:=bY (HP3.out.below HB5.out);have HQ5:=bY hp5;clear cd hp5 hm5 q25 f25;have q25:=HP5.out.row.at 25 _ rfl;have f25:=HP5.out.row.free 25 bG;go_wp2_with fail
  have hpa:=HP5.out.put 25 (.pointer (some ⟨w3.heap.size,0,none⟩)) (mDo (eJ st) comp t { fQ with comp:=comp }) (.pointer (some ⟨w3.heap.size,0,none⟩)) rfl rfl rfl rfl bA;have hqa:eF (w5.setCell ⟨b1,25,none⟩ (.pointer (some ⟨w3.heap.size,0,none⟩))) w3.heap.size w3.heap.size (iR (eJ st) comp s) vk2 vu2 vl2 (.pointer none):=HQ5.out.beside (a:=⟨b1,25,none⟩) (by have:=HLT.out;show w3.heap.size≠b1;omega) (pU HQ5.out.ok HLT.out) (pU HQ5.out.ou HLT.out) (pU HQ5.out.ol HLT.out) (.pointer (some ⟨w3.heap.size,0,none⟩));have hbz:Below w.heap.size w (w5.setCell ⟨b1,25,none⟩ (.pointer (some ⟨w3.heap.size,0,none⟩))):=(HB03.out.trans (HB5.out.mono HB03.out.size)).setCell (p:=⟨b1,25,none⟩) (by rw[← HBB.out];exact HB1.out.size) (.pointer (some ⟨w3.heap.size,0,none⟩))
  refine bodyPost_ret (results_tmp2 bH _ _ _) rfl ⟨b1,w3.heap.size,vk,vu,vl,rfl,⟨?_,vk2,vu2,vl2,_,hqa.lower HB03.out.size⟩,hbz⟩;have:=hpa.lower (B':=w.heap.size) (by rw[← HBB.out];exact HB1.out.size);rw[← HT.out] at this;exact this
 have q25:=HP3.out.row.at 25 _ rfl;have f25:=HP3.out.row.free 25 bG
 have HST:=bY (show norm s=s by
  rw[HT.out];refine (L_inj ?_).symm;have h9:=beq_iff_eq.1 HZ.out;rw[L_toList,L_toList] at h9
  exact h9)
 clear HP2 HB2;go_wp2_with fail
 have hpa:=HP3.out.put 25 (.pointer (some ⟨b1,0,none⟩)) (mDo (eJ st) comp t { fQ with comp:=comp }) (.pointer (some ⟨b1,0,none⟩)) rfl rfl rfl rfl bA;have hbz:Below w.heap.size w (w3.setCell ⟨b1,25,none⟩ (.pointer (some ⟨b1,0,none⟩))):=(HB1.out.trans (HB3.out.mono (by rw[← HBB.out];exact HB1.out.size))).setCell (p:=⟨b1,25,none⟩) (by rw[← HBB.out];exact HB1.out.size) (.pointer (some ⟨b1,0,none⟩));have hp:=hpa.lower (B':=w.heap.size) (by rw[← HBB.out];exact HB1.out.size);rw[← HT.out] at hp;refine bodyPost_ret (results_tmp2 bH _ _ _) rfl ⟨b1,b1,vk,vu,vl,rfl,⟨hp,vk,vu,vl,.pointer (some ⟨b1,0,none⟩),?_⟩,hbz⟩;have h8:=hp;rw[HST.out] at h8;exact h8
theorem aC5 (S:iT w pb st sl sd sf sc mb sb fb) (OS:jN st) (comp s:ByteArray) (hs:s.size≤900000) (ha:asc s) :
 Calls Tryz.prog 46 #[.pointer (some ⟨pb,0,none⟩),.string comp,.string s] w fun e w' =>
  ∃ b ub vk vu vl,e = .returned (.pointer (some ⟨b,0,none⟩))∧aBe w' w.heap.size (eJ st) comp s b ub vk vu vl∧Below w.heap.size w w':=by
 have c:=aD0 S OS comp s hs ha;clear S hs ha;go_enter Tryz.func46,Tryz.ntmps46;go_wp2_with fail
 refine c.mono ?_;rintro e w' ⟨b,ub,vk,vu,vl,rfl,hp,hb⟩;have HP:=bY hp;have HB:=bY hb;clear c hp hb;go_wp2_with fail
 go_ret;exact ⟨b,ub,vk,vu,vl,rfl,HP.out,HB.out⟩
end
end Go.Proofs.YtgcbfleafnoadaaGreatDoor.Path
namespace Go.Proofs.YtgcbfleafnoadaaGreatDoor.Path
open Go.RowKit Go.WideMaps Go.Proofs.YtgcbfleafnoadaaGreatDoorW.PrintWords Go.Proofs.YtgcbfleafnoadaaGreatDoor.Base Go.Proofs.YtgcbfleafnoadaaGreatDoor.Lower
structure SiteIn (w:World) (st:fJ) (vl vd vf vc:Value):Prop where
 l:eZ w 0 vl st.langs
 d:eZ w 0 vd st.dis
 f:mU w 0 vf st.fmts
 c:eZ w 0 vc st.cont
theorem SiteIn.below {w w' : World} {st:fJ} {vl vd vf vc:Value} (H:SiteIn w st vl vd vf vc) (hb:Below w.heap.size w w'):SiteIn w' st vl vd vf vc :=
 ⟨H.l.below hb,H.d.below hb,H.f.below hb,H.c.below hb⟩
def Told (w:World) (B:Nat) (p:eG) (v1 v2 v3:Value):Prop:=eZ w B v1 (lG p)∧eZ w B v2 (kN p)∧eZ w B v3 (lZ p)
theorem Told.below {w w' : World} {B:Nat} {p:eG} {v1 v2 v3:Value} (H:Told w B p v1 v2 v3) (hb:Below w.heap.size w w'):Told w' B p v1 v2 v3:=⟨H.1.below hb,H.2.1.below hb,H.2.2.below hb⟩
def nI (t:gK) (v1 v2 v3:Value):Array Value:=(pI t v1 v2 v3).toArray
theorem vS (t:gK) (A1 A2 A3:Option Addr) (n1 n2 n3 c1 c2 c3:Nat):(nI t (.slice A1 n1 c1) (.slice A2 n2 c2) (.slice A3 n3 c3)).all (·.oneCell')=true:=by kernel_rfl
def TZ:Array Value:=#[.string ⟨#[]⟩,.string ⟨#[]⟩,.string ⟨#[]⟩,.string ⟨#[]⟩,.string ⟨#[]⟩,.string ⟨#[]⟩,.string ⟨#[]⟩,.string ⟨#[]⟩,.string ⟨#[]⟩,.string ⟨#[]⟩,.string ⟨#[]⟩,.string ⟨#[]⟩,.string ⟨#[]⟩,.string ⟨#[]⟩,.string ⟨#[]⟩,.string ⟨#[]⟩,.string ⟨#[]⟩,.string ⟨#[]⟩,.string ⟨#[]⟩,.string ⟨#[]⟩,.string ⟨#[]⟩,.slice none 0 0,.slice none 0 0,.slice none 0 0,.bool false,.bool false,.bool false,.bool false,.bool false,.bool false,.int .i64 0]
section
variable {w:World} {st:fJ} {vl vd vf vc:Value}
theorem yG (S:SiteIn w st vl vd vf vc) (OS:jN st) (comp s:ByteArray) (hs:s.size≤900000) (ha:asc s) :
 Calls Tryz.prog 40 #[.agg #[vl,vd,vf,vc],.string comp,.string s] w fun e w' =>
  ∃ v1 v2 v3,e = .returned (jC (oO (iR (eJ st) comp (norm s))) v1 v2 v3)∧Told w' w.heap.size (iR (eJ st) comp (norm s)) v1 v2 v3∧Below w.heap.size w w':=by
 have HSI:=bY S;have hok:=aCh (eJ st) comp (norm s) (by rw[norm_size];exact hs);have HOK:=bY hok;have HA:=bY ha;obtain ⟨Al,cl,rfl,_,_⟩:=S.l;obtain ⟨Ad,cd,rfl,_,_⟩:=S.d;obtain ⟨Af,cf,rfl,_,_⟩:=S.f;obtain ⟨Ac,cc,rfl,_,_⟩:=S.c;clear S hok ha;have hB1:Below w.heap.size w (w.alloc (.cells #[.slice Al st.langs.length cl,.slice Ad st.dis.length cd,.slice Af st.fmts.length cf,.slice Ac st.cont.length cc] 25)):=(Below.refl _ _).alloc (Nat.le_refl _) _;have hR1:=Row.new w [.slice Al st.langs.length cl,.slice Ad st.dis.length cd,.slice Af st.fmts.length cf,.slice Ac st.cont.length cc] 25;have hs1:w.heap.size < (w.alloc (.cells #[.slice Al st.langs.length cl,.slice Ad st.dis.length cd,.slice Af st.fmts.length cf,.slice Ac st.cont.length cc] 25)).heap.size:=by simp
 go_enter Tryz.func40,Tryz.ntmps40;go_upto_region 1 with fail
 obtain ⟨w1,hw1⟩:∃ w1,w.alloc (.cells #[.slice Al st.langs.length cl,.slice Ad st.dis.length cd,.slice Af st.fmts.length cf,.slice Ac st.cont.length cc] 25)=w1:=⟨_,rfl⟩
 have hz1:w1.heap.size=w.heap.size+1:=by rw[← hw1];simp
 rw[hw1] at hB1 hR1 hs1 ⊢;clear hw1;have hB2:Below w1.heap.size w1 (w1.alloc (.cells eI.toArray 28)):=(Below.refl _ _).alloc (Nat.le_refl _) _;have hR2:Row (w1.alloc (.cells eI.toArray 28)) w1.heap.size eI:=Row.new w1 eI _;rw[show eI.toArray=TZ from rfl] at hB2 hR2
 obtain ⟨w2,hw2⟩:∃ w2,w1.alloc (.cells TZ 28)=w2:=⟨_,rfl⟩
 rw[hw2] at hB2 hR2;change Code.wp _ _ _ _ (w1.alloc (.cells TZ 28));rw[hw2];clear hw2;rw[hz1] at hR2;have hB:Below w.heap.size w w2:=hB1.trans (hB2.mono bA);have hRs:=hR1.below hB2 hs1;have r0:=hRs.at 0 _ rfl;have r1:=hRs.at 1 _ rfl;have r2:=hRs.at 2 _ rfl;have r3:=hRs.at 3 _ rfl;have HB:=bY hB;have HR2:=bY hR2;have hlt2:w.heap.size+1 < w2.heap.size:=hR2.lt bF;have cp:=aCl (HSI.out.l.below hB) (HSI.out.d.below hB) (HSI.out.f.below hB) (HSI.out.c.below hB) OS;clear hB1 hR1 hs1 hB2 hR2 hB hRs hz1;go_wp2_with fail
 refine cp.mono ?_;rintro e w3 ⟨pb,mb,sb,fb,rfl,hS,hb3⟩;have cP:=aC5 hS OS comp s hs HA.out;have HB3:=bY hb3;clear cp hS hb3 r0 r1 r2 r3;go_wp2_with fail
 refine cP.mono ?_;rintro e w4 ⟨b,ub,vk,vu,vl,rfl,hp,hb4⟩;have ct:=aFp hp.1 HOK.out.1 HOK.out.2.1 HOK.out.2.2;have HB4:=bY (eA HB3.out hb4);clear cP hp hb4;go_wp2_with fail
 refine ct.mono ?_;rintro e w5 ⟨v1,v2,v3,rfl,hs1,hs2,hs3,hb5⟩;have HB5:=bY (eA HB4.out hb5);have hz5:=HB4.out.size;have S1:=bY hs1;have S2:=bY hs2;have S3:=bY hs3;obtain ⟨A1,c1,e1,_⟩:=S1.out;obtain ⟨A2,c2,e2,_⟩:=S2.out;obtain ⟨A3,c3,e3,_⟩:=S3.out;clear ct hb5 hs1 hs2 hs3
 obtain ⟨C,hC⟩:∃ C:Array Value,nI (oO (iR (eJ st) comp (norm s))) v1 v2 v3=C:=⟨_,rfl⟩
 have hval:jC (oO (iR (eJ st) comp (norm s))) v1 v2 v3 = .agg C:=by rw[← hC];rfl
 have hCs:C.size=31:=by rw[← hC];rfl
 have hl:C.toList.length=31:=by simpa using hCs
 have hone:C.all (·.oneCell')=true:=by rw[← hC,e1,e2,e3];exact vS _ _ _ _ _ _ _ _ _ _
 have HV:=bY hval;rw[hval];clear hval e1 e2 e3;have HC:=bY hC;have hRf:=HR2.out.below HB5.out hlt2;have ht:World.there _ (w.heap.size+1) 0 31:=hRf.there
 dsimp only
 refine (show ∀ (a:Act) (w:World),wpList _ _ _ _ a w→_ from by assumption) _ _ ?_;refine wpList_store_mid rfl 28 _ _ rfl (w.heap.size+1) 0 C rfl rfl (by rw[hCs];exact ht) (by rw[hCs];kernel_rfl) hone ?_;have hr:=World.rangeAt_setCells_same _ (w.heap.size+1) 0 C.toList (by rw[hl];exact ht);have hld:=run_loadVar_mid (P:=Tryz.prog) _ (w.heap.size+1) 0 28 C.toList _ hr Tryz.underlying28 rfl (by rw[hl];kernel_rfl);have hfar:∀ k,k≠w.heap.size+1→(w5.setCells (w.heap.size+1) 0 C.toList).heap[k]? = w5.heap[k]?:=fun k hk=>hJ _ _ k hk;have hbel:Below w.heap.size w (w5.setCells (w.heap.size+1) 0 C.toList):=below_setCells (Nat.le_succ _) _ _ _ (HB.out.trans (HB5.out.mono HB.out.size))
 obtain ⟨W,hW⟩:∃ W,w5.setCells (w.heap.size+1) 0 C.toList=W:=⟨_,rfl⟩
 rw[hW] at hld hbel hfar ⊢;have s1:=bY (S1.out.far fun k hk _=>hfar k bA);have s2:=bY (S2.out.far fun k hk _=>hfar k bA);have s3:=bY (S3.out.far fun k hk _=>hfar k bA);have HBel:=bY hbel;have hz4:w.heap.size≤w4.heap.size:=by omega
 clear hbel hfar hW hr hone hl hCs ht hRf S1 S2 S3;go_wp2_with fail
 refine bodyPost_ret (v:=.agg C) (oE Tryz.results40 rfl (by simpa using hld)) rfl ⟨v1,v2,v3,?_,⟨s1.out.mono hz4,s2.out.mono hz4,s3.out.mono hz4⟩,HBel.out⟩;rw[HV.out]
end
end Go.Proofs.YtgcbfleafnoadaaGreatDoor.Path
namespace Go.Proofs.YtgcbfleafnoadaaGreatDoor.Path
open Go.RowKit Go.WideMaps Go.Proofs.YtgcbfleafnoadaaGreatDoorW.PrintWords Go.Proofs.YtgcbfleafnoadaaGreatDoor.Base Go.Proofs.YtgcbfleafnoadaaGreatDoor.Lower Go.Proofs.YtgcbfleafnoadaaGreatDoor.Total Go.Proofs.YtgcbfleafnoadaaGreatDoor.PCore
structure mD (w:World) (st:fJ) (vl vd vf vc:Value):Prop extends SiteIn w st vl vd vf vc where
 ll:st.langs.length≤9223372036854775807
 dl:st.dis.length≤9223372036854775807
 fl:st.fmts.length≤9223372036854775807
 cl:st.cont.length≤9223372036854775807
theorem mD.below {w w' : World} {st:fJ} {vl vd vf vc:Value} (H:mD w st vl vd vf vc) (hb:Below w.heap.size w w'):mD w' st vl vd vf vc :=
 ⟨H.toSiteIn.below hb,H.ll,H.dl,H.fl,H.cl⟩
def sC (st:fJ):Bool:=Total.fits1 st.langs st.dis (st.fmts.map mkF) st.cont
def shortS (st:fJ) (comp s:ByteArray):Bool:=aCt st.langs st.dis (st.fmts.map mkF) st.cont comp s
section
variable {w:World} {st:fJ} {vl vd vf vc:Value}
theorem oG (S:mD w st vl vd vf vc):Calls Tryz.prog 15 #[.agg #[vl,vd,vf,vc]] w fun e w'=>e = .returned (.bool (sC st))∧Below w.heap.size w w':=by
 obtain ⟨k,hk⟩:=(Total.ev_fits1 st.langs st.dis (st.fmts.map mkF) st.cont).rounds;obtain ⟨A0,c0,rfl,h0,r0⟩:=S.l.kd S.ll;obtain ⟨A1,c1,rfl,h1,r1⟩:=S.d.kd S.dl;obtain ⟨A2,c2,rfl,h2,r2⟩:=S.f.kd S.fl;obtain ⟨A3,c3,rfl,h3,r3⟩:=S.c.kd S.cl;exact lF.calls k A0 c0 _ A1 c1 _ A2 c2 _ A3 c3 _ _ w r0 h0 r1 h1 r2 h2 r3 h3 hk
theorem aD5 (S:mD w st vl vd vf vc) (hf:sC st=true) (comp s:ByteArray) (hc:comp.size≤MM) (hs:s.size≤MM):Calls Tryz.prog 21 #[.agg #[vl,vd,vf,vc],.string comp,.string s] w fun e w'=>e = .returned (.bool (shortS st comp s))∧Below w.heap.size w w':=by
 obtain ⟨k,hk⟩:=(aG6 st.langs st.dis (st.fmts.map mkF) st.cont comp s hf hc hs).rounds;obtain ⟨A0,c0,rfl,h0,r0⟩:=S.l.kd S.ll;obtain ⟨A1,c1,rfl,h1,r1⟩:=S.d.kd S.dl;obtain ⟨A2,c2,rfl,h2,r2⟩:=S.f.kd S.fl;obtain ⟨A3,c3,rfl,h3,r3⟩:=S.c.kd S.cl;exact gQ.calls k A0 c0 _ A1 c1 _ A2 c2 _ A3 c3 _ comp s _ w r0 h0 r1 h1 r2 h2 r3 h3 hk
theorem aB4 {l:List ByteArray} (h:fewB l=true):l.length≤2000∧∀ x∈l,x.size≤2000:=by
 unfold fewB at h;simp only[decide_eq_true_eq] at h;refine ⟨aR,fun x hx=>?_⟩
 have:x.size≤wt l:=by
  unfold wt
  induction l with
  | nil=>cases hx
  | cons a r ih =>
   simp only[List.map_cons,List.sum_cons];rcases List.mem_cons.1 hx with rfl | hx
   ·omega
   have:=ih (by simp only[wt,List.map_cons,List.sum_cons,List.length_cons] at h;simp only[wt];omega) hx;omega
 omega
theorem aIv (l:List (S47)):l.length≤wt3 l:=by
 unfold wt3
 induction l with
 | nil=>simp
 | cons a r ih=>simp only[List.map_cons,List.sum_cons,List.length_cons];omega
theorem aIw (l:List (S47)) (x:S47) (hx:x∈l):x.f0.size+x.f1.size≤wt3 l:=by
 unfold wt3
 induction l with
 | nil=>cases hx
 | cons a r ih =>
  simp only[List.map_cons,List.sum_cons];rcases List.mem_cons.1 hx with rfl | hx
  ·omega
  have:=ih hx;omega
theorem tU {comp s:ByteArray} (h:shortS st comp s=true):jN st∧comp.size≤2000∧s.size≤2000∧st.langs.length≤2000∧st.dis.length≤2000∧(st.fmts.map mkF).length≤2000∧st.cont.length≤2000∧(∀ x∈st.langs,x.size≤2000)∧(∀ x∈st.dis,x.size≤2000)∧(∀ x∈st.fmts.map mkF,x.f0.size≤2000∧x.f1.size≤2000)∧(∀ x∈st.cont,x.size≤2000):=by
 unfold shortS aCt at h;simp only[Bool.and_eq_true,decide_eq_true_eq] at h;obtain ⟨h0,h1,h2,h3⟩:=h;obtain ⟨a1,a2⟩:=aB4 h1;obtain ⟨b1,b2⟩:=aB4 h2;obtain ⟨c1,c2⟩:=aB4 h3;have hw:=aIv (st.fmts.map mkF);have hm:=aIw (st.fmts.map mkF);have hlen:(st.fmts.map mkF).length=st.fmts.length:=by simp
 refine ⟨⟨aR,aR,aR,aR,fun x hx=>Nat.le_trans (a2 x hx) bA⟩,aR,aR,a1,b1,aR,c1,a2,b2,fun x hx=>?_,c2⟩;have:=hm x hx;omega
theorem aFy {s:ByteArray} (h:Ext.ascii (L s)=true):asc s:=by
 intro j c hc;have:=List.all_eq_true.1 h c (List.mem_of_getElem? hc);simp only[decide_eq_true_eq] at this;omega
theorem yP (S:mD w st vl vd vf vc) (comp s:ByteArray) (h:shortS st comp s=true):∃ r:Bool,(r=true→asc s∧asc comp∧s.size≤400∧sW st comp s)∧∀ w',Below w.heap.size w w'→Calls Tryz.prog 35 #[.agg #[vl,vd,vf,vc],.string comp,.string s] w' fun e w''=>e = .returned (.bool r)∧Below w'.heap.size w' w'':=by
 obtain ⟨_,h1,h2,h3,h4,h5,h6,h7,h8,h9,h10⟩:=tU h;obtain ⟨r,hr,hp⟩:=aCw st.langs st.dis (st.fmts.map mkF) st.cont comp s bA bA bA bA (fun x hx=>Nat.le_trans (h7 x hx) bA) (fun x hx=>Nat.le_trans (h8 x hx) bA) (fun x hx=>⟨Nat.le_trans (h9 x hx).1 bA,Nat.le_trans (h9 x hx).2 bA⟩) (fun x hx=>Nat.le_trans (h10 x hx) bA) bA bA;obtain ⟨k,hk⟩:=hr.rounds;refine ⟨r,fun e=>⟨aFy (hp e).ascY,aFy (hp e).ascX,(hp e).most,hp e⟩,fun w' hb=>?_⟩;have S':=S.below hb;obtain ⟨A0,c0,rfl,g0,r0⟩:=S'.l.kd S.ll;obtain ⟨A1,c1,rfl,g1,r1⟩:=S'.d.kd S.dl;obtain ⟨A2,c2,rfl,g2,r2⟩:=S'.f.kd S.fl;obtain ⟨A3,c3,rfl,g3,r3⟩:=S'.c.kd S.cl
 exact kF.calls k A0 c0 _ A1 c1 _ A2 c2 _ A3 c3 _ comp s _ w' r0 g0 r1 g1 r2 g2 r3 g3 hk
end
end Go.Proofs.YtgcbfleafnoadaaGreatDoor.Path
namespace Go.Proofs.YtgcbfleafnoadaaGreatDoor.SiteRow
open Go.ChangeShapes Go.WideShapes Go.ChangeAt Go.RowKit Go.Joins Go.Deep Go.Proofs.YtgcbfleafnoadaaGreatDoor.Path
theorem laidOut:laidOutB Tryz.prog=true:=by kernel_rfl
theorem aBh {a:Addr} (h:a.spot=none) (j:Nat):a.add j=⟨a.block,a.off+j,none⟩:=by
 cases a with
 | mk b o s =>
  simp only at h;subst h;unfold Addr.add;split
  ·rename_i h0;subst h0;rfl
  rfl
theorem aAq {w:World} {a:Addr} {v:Value} (h:w.cell? a=some v):a.spot=none:=by
 unfold World.cell? at h;split at h
 ·cases hs:a.spot with
  | none=>rfl
  | some x=>rw[hs] at h;simp at h
 cases h
section
variable {H:Type} {enc:TypeId×Value→H} {W:World}
theorem open_strs {n:Nat} {v:Value} {y:DataW H×List MemPlace} (h:DataW.trod enc Tryz.prog W 0 (fun _=>true) true n 22 [v]=some y):∃ l,eZ W 0 v l∧l.length≤9223372036854775807:=by
 rcases open_strings Tryz.underlying22 Tryz.underlying9 bB h with ⟨hcs,_⟩ | ⟨a,len,cap,ss,hcs,_,hl,hm,hz,_,hcell,_⟩
 ·injection hcs with hcs
  subst hcs;exact ⟨[],eZ.nil _ _ _ _,dV⟩
 injection hcs with hcs
 subst hcs;simp only[if_true] at hz;have hlen:(ss.take len).length=len:=by rw[List.length_take];omega
 have hmx:cap≤9223372036854775807:=by have:=hm;unfold maxLen at this;omega
 refine ⟨ss.take len,⟨some a,cap,by rw[hlen],by rw[hlen];exact hl,fun hp=>?_⟩,by rw[hlen];omega⟩;rw[hlen] at hp;have hsp:a.spot=none:=aAq (show W.cell? a=_ by have:=hcell 0 bA;rwa[show a.add 0=a by simp[Addr.add]] at this);refine ⟨a.block,a.off,by cases a;simp only at hsp;subst hsp;rfl,Nat.zero_le _,fun j hj=>?_⟩;have hj2:j < len:=by rw[hlen] at hj;exact hj
 have:=hcell j bA;rw[aBh hsp] at this;rw[this];congr 2;rw[List.getElem_take,List.getD_eq_getElem?_getD,List.getElem?_eq_getElem bA];rfl
theorem aGk {n:Nat} {v:Value} {y:DataW H×List MemPlace} (h:DataW.trod enc Tryz.prog W 0 (fun _=>true) true n 23 [v]=some y):∃ l,mU W 0 v l∧l.length≤9223372036854775807:=by
 rcases open_slice Tryz.underlying23 h with ⟨hcs,_⟩ | ⟨a,len,cap,m,n2,D,Pl,hcs,_,hl,hm,hmm,_,hi⟩
 ·injection hcs with hcs
  subst hcs;exact ⟨[],⟨none,0,rfl,Nat.le_refl _,fun h=>absurd h bJ⟩,dV⟩
 injection hcs with hcs
 subst hcs;simp only[if_true] at hmm;have hmx:cap≤9223372036854775807:=by have:=hm;unfold maxLen at this;omega
 have h2:Tryz.prog.cellsOf 47=2:=by kernel_rfl
 have each:∀ i,i < len→∃ x:ByteArray×ByteArray,W.cell? (a.add (i * 2))=some (.string x.1)∧W.cell? (a.add (i * 2+1))=some (.string x.2):=by
  intro i hil;obtain ⟨cs,hc,ht⟩:=hi i bA;rw[h2] at hc;obtain ⟨_,hcl,hat⟩:=World.cells?_some hc;obtain ⟨y0,y1,n3,_,_,h0,h1⟩:=trod_struct2 Tryz.underlying47 ht
  match cs,hcl with
  | [c0,c1],_ =>
   have e0:DataW.trod enc Tryz.prog W 0 (fun _=>true) true n3 9 [c0]=some y0:=h0;have e1:DataW.trod enc Tryz.prog W 0 (fun _=>true) true n3 9 [c1]=some y1:=h1;obtain ⟨s0,hs0,_⟩:=DataW.trod_string Tryz.underlying9 e0;obtain ⟨s1,hs1,_⟩:=DataW.trod_string Tryz.underlying9 e1;injection hs0 with hs0
   injection hs1 with hs1
   subst hs0 hs1;have a0:=hat 0 bA;have a1:=hat 1 bA;rw[Go.Deep.add_add] at a0 a1;exact ⟨(s0,s1),a0,a1⟩
 obtain ⟨f,hf⟩:=choose_lt each;have hlen:((List.range len).map f).length=len:=by simp
 refine ⟨(List.range len).map f,⟨some a,cap,by rw[hlen],by rw[hlen];exact hl,fun hp=>?_⟩,by rw[hlen];omega⟩;rw[hlen] at hp;have hsp:a.spot=none:=aAq (show W.cell? a=_ by have:=(hf 0 hp).1;rwa[show a.add (0 * 2)=a by simp[Addr.add]] at this);refine ⟨a.block,a.off,by cases a;simp only at hsp;subst hsp;rfl,Nat.zero_le _,fun j hj=>?_⟩;have hj2:j < len:=by rw[hlen] at hj;exact hj
 obtain ⟨g1,g2⟩:=hf j hj2;rw[aBh hsp] at g1 g2;rw[g1,g2]
 simp
theorem open_site {r:Reach} {base:Nat} {v:Value} {d:DataW H} {p:List MemPlace} (hv:Value.okWide Tryz.prog W r base 25 v) (h:DataW.Trod enc Tryz.prog W 0 (fun _=>true) true 25 v d p) :
 ∃ st vl vd vf vc,v = .agg #[vl,vd,vf,vc]∧mD W st vl vd vf vc:=by
 obtain ⟨v0,v1,v2,v3,y0,y1,y2,y3,n,rfl,_,_,h0,h1,h2,h3⟩:=open_agg4 Tryz.underlying25 bB bB hv h;obtain ⟨l0,s0,z0⟩:=open_strs h0;obtain ⟨l1,s1,z1⟩:=open_strs h1;obtain ⟨l2,s2,z2⟩:=aGk h2;obtain ⟨l3,s3,z3⟩:=open_strs h3;exact ⟨⟨l0,l1,l2,l3⟩,v0,v1,v2,v3,rfl,⟨⟨s0,s1,s2,s3⟩,z0,z1,z2,z3⟩⟩
end
end Go.Proofs.YtgcbfleafnoadaaGreatDoor.SiteRow
namespace Go.Proofs.YtgcbfleafnoadaaGreatDoor.Path
open Go.RowKit Go.WideMaps Go.Proofs.YtgcbfleafnoadaaGreatDoorW.PrintWords Go.Proofs.YtgcbfleafnoadaaGreatDoor.Base Go.Proofs.YtgcbfleafnoadaaGreatDoor.Lower Go.Proofs.YtgcbfleafnoadaaGreatDoor.Total Go.Proofs.YtgcbfleafnoadaaGreatDoor.PCore
theorem jU {ops:Array Oper} {rest:List Oper} {op:Oper} {a:Act} {w:World} {Q:Exit→Act→World→Prop} (hgd:op.guard=none) (x y:Operand) (ho:op.op = .store 28 x y) (b:Nat) (C:Array Value)
 (hx:a.eval x = .pointer (some ⟨b,0,none⟩)) (hy:a.eval y = .agg C) {cs:List Value} (hR:Row w b cs) (hcs:cs.length=31) (hC:C.size=31) (hone:C.all (·.oneCell')=true) (h:wpList Tryz.prog ops Q rest (a.put op.dst undef) (w.setCells b 0 C.toList)) :
 wpList Tryz.prog ops Q (op::rest) a w:=by
 have ht:w.there b 0 31:=hcs▸hR.there;exact wpList_store_mid hgd 28 x y ho b 0 C hx hy (by rw[hC];exact ht) (by rw[hC];kernel_rfl) hone h
def aH4:gK:=⟨⟨#[]⟩,⟨#[]⟩,⟨#[]⟩,⟨#[]⟩,⟨#[]⟩,⟨#[]⟩,⟨#[]⟩,⟨#[]⟩,⟨#[]⟩,⟨#[]⟩,⟨#[]⟩,⟨#[]⟩,⟨#[]⟩,⟨#[]⟩,⟨#[]⟩,⟨#[]⟩,⟨#[]⟩,⟨#[]⟩,⟨#[]⟩,⟨#[]⟩,⟨#[]⟩,[],[],[],false,false,false,false,false,false,0⟩
end Go.Proofs.YtgcbfleafnoadaaGreatDoor.Path
namespace Go.Proofs.YtgcbfleafnoadaaGreatDoor.Path
open Go.RowKit Go.WideMaps Go.Proofs.YtgcbfleafnoadaaGreatDoorW.PrintWords Go.Proofs.YtgcbfleafnoadaaGreatDoor.Base Go.Proofs.YtgcbfleafnoadaaGreatDoor.Lower Go.Proofs.YtgcbfleafnoadaaGreatDoor.Total Go.Proofs.YtgcbfleafnoadaaGreatDoor.PCore
def nO (w:World) (B:Nat) (t:gK) (v1 v2 v3:Value):Prop:=eZ w B v1 t.langs∧eZ w B v2 t.ids∧eZ w B v3 t.unk
theorem nO.below {w w' : World} {B:Nat} {t:gK} {v1 v2 v3:Value} (H:nO w B t v1 v2 v3) (hb:Below w.heap.size w w'):nO w' B t v1 v2 v3:=⟨H.1.below hb,H.2.1.below hb,H.2.2.below hb⟩
theorem nO.mono {w:World} {B B' : Nat} {t:gK} {v1 v2 v3:Value} (H:nO w B t v1 v2 v3) (h:B'≤B):nO w B' t v1 v2 v3:=⟨H.1.mono h,H.2.1.mono h,H.2.2.mono h⟩
theorem nO.far {w w' : World} {B:Nat} {t:gK} {v1 v2 v3:Value} (H:nO w B t v1 v2 v3) (hb:∀ k,B≤k→k < w.heap.size→w'.heap[k]? = w.heap[k]?):nO w' B t v1 v2 v3:=⟨H.1.far hb,H.2.1.far hb,H.2.2.far hb⟩
theorem nO.one {w:World} {B:Nat} {t:gK} {v1 v2 v3:Value} (H:nO w B t v1 v2 v3):(nI t v1 v2 v3).all (·.oneCell')=true:=by
 obtain ⟨A1,c1,rfl,_⟩:=H.1;obtain ⟨A2,c2,rfl,_⟩:=H.2.1;obtain ⟨A3,c3,rfl,_⟩:=H.2.2;exact vS _ _ _ _ _ _ _ _ _ _
section
variable {w:World} {st:fJ} {vl vd vf vc:Value}
theorem yT (S:nE w st vl vd vf vc) (O:zA st) (comp s:ByteArray) (hs:s.size≤900000) :
 Calls Tryz.prog 43 #[.agg #[vl,vd,vf,vc],.string comp,.string s] w fun e w' =>
  ∃ v1 v2 v3,e = .returned (jC (sL (wOf st comp (pathOf s false))) v1 v2 v3)∧nO w' w.heap.size (sL (wOf st comp (pathOf s false))) v1 v2 v3∧Below w.heap.size w w':=by
 obtain ⟨x,hx⟩:∃ x,wOf st comp (pathOf s false)=x:=⟨_,rfl⟩
 have HO:Aside0 (uO x):=bY (hx▸aJa st comp s false hs);rw[hx];have HSI:=bY S;have HF:=bY O;obtain ⟨Al,cl,rfl,_,_⟩:=S.l;obtain ⟨Ad,cd,rfl,_,_⟩:=S.d;obtain ⟨Af,cf,rfl,_,_⟩:=S.f;obtain ⟨Ac,cc,rfl,_,_⟩:=S.c;clear S O;have hB1:Below w.heap.size w (w.alloc (.cells #[.slice Al st.langs.length cl,.slice Ad st.dis.length cd,.slice Af st.fmts.length cf,.slice Ac st.cont.length cc] 25)):=(Below.refl _ _).alloc (Nat.le_refl _) _;have hR1:=Row.new w [.slice Al st.langs.length cl,.slice Ad st.dis.length cd,.slice Af st.fmts.length cf,.slice Ac st.cont.length cc] 25;have hs1:w.heap.size < (w.alloc (.cells #[.slice Al st.langs.length cl,.slice Ad st.dis.length cd,.slice Af st.fmts.length cf,.slice Ac st.cont.length cc] 25)).heap.size:=by simp
 go_enter Tryz.func43,Tryz.ntmps43;go_upto_region 1 with fail
 obtain ⟨w1,hw1⟩:∃ w1,w.alloc (.cells #[.slice Al st.langs.length cl,.slice Ad st.dis.length cd,.slice Af st.fmts.length cf,.slice Ac st.cont.length cc] 25)=w1:=⟨_,rfl⟩
 have hz1:w1.heap.size=w.heap.size+1:=by rw[← hw1];simp
 rw[hw1] at hB1 hR1 hs1 ⊢;clear hw1;have hB2:Below w1.heap.size w1 (w1.alloc (.cells eI.toArray 28)):=(Below.refl _ _).alloc (Nat.le_refl _) _;have hR2:Row (w1.alloc (.cells eI.toArray 28)) w1.heap.size eI:=Row.new w1 eI _;rw[show eI.toArray=TZ from rfl] at hB2 hR2
 obtain ⟨w2,hw2⟩:∃ w2,w1.alloc (.cells TZ 28)=w2:=⟨_,rfl⟩
 rw[hw2] at hB2 hR2;change Code.wp _ _ _ _ (w1.alloc (.cells TZ 28));rw[hw2];clear hw2;rw[hz1] at hR2;have hB:Below w.heap.size w w2:=hB1.trans (hB2.mono bA);have hRs:=hR1.below hB2 hs1;have r0:=hRs.at 0 _ rfl;have r1:=hRs.at 1 _ rfl;have r2:=hRs.at 2 _ rfl;have r3:=hRs.at 3 _ rfl;have HB:=bY hB;have HR2:=bY hR2;have hlt2:w.heap.size+1 < w2.heap.size:=hR2.lt bF;have cp:=aA8 (HSI.out.below hB) HF.out comp s false hs;rw[hx] at cp;clear hx hB1 hR1 hs1 hB2 hR2 hB hRs hz1 HF;go_wp2_with fail
 refine cp.mono ?_;rintro e w3 ⟨v0,v1,v2,rfl,q0,q1,q2,hb3⟩;obtain ⟨A0,c0,e0,_⟩:=id q0;obtain ⟨A1,c1,e1,_⟩:=id q1;obtain ⟨A2,c2,e2,_⟩:=id q2;subst e0 e1 e2;have ca:=aAw HO.out (q0.mono (Nat.zero_le _)) (q1.mono (Nat.zero_le _)) (q2.mono (Nat.zero_le _));have HQ0:=bY q0;have HQ1:=bY q1;have HQ2:=bY q2;have HB3:=bY hb3;clear cp q0 q1 q2 hb3 r0 r1 r2 r3;go_wp2_with fail
 refine ca.mono ?_;rintro e w4 ⟨rfl,hb4⟩;have HB4:=bY (eA HB3.out hb4);have S1:=bY (HQ0.out.below hb4);have S2:=bY (HQ1.out.below hb4);have S3:=bY (HQ2.out.below hb4);clear ca hb4 HQ0 HQ1 HQ2 HB3
 obtain ⟨C,hC⟩:∃ C:Array Value,nI (sL x) (.slice A2 x.langs.length c2) (.slice A0 x.ids.length c0) (.slice A1 x.unk.length c1)=C:=⟨_,rfl⟩
 have hval:jC (sL x) (.slice A2 x.langs.length c2) (.slice A0 x.ids.length c0) (.slice A1 x.unk.length c1) = .agg C:=by rw[← hC];rfl
 have hCs:C.size=31:=by rw[← hC];rfl
 have hl:C.toList.length=31:=by simpa using hCs
 have hone:C.all (·.oneCell')=true:=by rw[← hC];exact vS _ _ _ _ _ _ _ _ _ _
 have HV:=bY hval;rw[hval];clear hval;have HC:=bY hC;have hRf:=HR2.out.below HB4.out hlt2;have ht:World.there _ (w.heap.size+1) 0 31:=hRf.there
 dsimp only
 refine (show ∀ (a:Act) (w:World),wpList _ _ _ _ a w→_ from by assumption) _ _ ?_;refine wpList_store_mid rfl 28 _ _ rfl (w.heap.size+1) 0 C rfl rfl (by rw[hCs];exact ht) (by rw[hCs];kernel_rfl) hone ?_;have hr:=World.rangeAt_setCells_same _ (w.heap.size+1) 0 C.toList (by rw[hl];exact ht);have hld:=run_loadVar_mid (P:=Tryz.prog) _ (w.heap.size+1) 0 28 C.toList _ hr Tryz.underlying28 rfl (by rw[hl];kernel_rfl);have hfar:∀ k,k≠w.heap.size+1→(w4.setCells (w.heap.size+1) 0 C.toList).heap[k]? = w4.heap[k]?:=fun k hk=>hJ _ _ k hk;have hbel:Below w.heap.size w (w4.setCells (w.heap.size+1) 0 C.toList):=below_setCells (Nat.le_succ _) _ _ _ (HB.out.trans (HB4.out.mono HB.out.size))
 obtain ⟨W,hW⟩:∃ W,w4.setCells (w.heap.size+1) 0 C.toList=W:=⟨_,rfl⟩
 rw[hW] at hld hbel hfar ⊢;have hz:=HB.out.size;have s1:=bY (S1.out.far fun k hk _=>hfar k bA);have s2:=bY (S2.out.far fun k hk _=>hfar k bA);have s3:=bY (S3.out.far fun k hk _=>hfar k bA);have HBel:=bY hbel;clear hbel hfar hW hr hone hl hCs ht hRf S1 S2 S3;go_wp2_with fail
 refine bodyPost_ret (v:=.agg C) (oE Tryz.results43 rfl (by simpa using hld)) rfl ⟨_,_,_,?_,⟨s3.out.mono hz,s1.out.mono hz,s2.out.mono hz⟩,HBel.out⟩;rw[HV.out]
end
end Go.Proofs.YtgcbfleafnoadaaGreatDoor.Path
namespace Go.Proofs.YtgcbfleafnoadaaGreatDoor.Path
open Go.RowKit Go.WideMaps Go.Proofs.YtgcbfleafnoadaaGreatDoorW.PrintWords Go.Proofs.YtgcbfleafnoadaaGreatDoor.Base Go.Proofs.YtgcbfleafnoadaaGreatDoor.Lower Go.Proofs.YtgcbfleafnoadaaGreatDoor.Total Go.Proofs.YtgcbfleafnoadaaGreatDoor.PCore
open Go.Proofs.YtgcbfleafnoadaaGreatDoorW.PrintLast
theorem qS {P:Program} {fn:Func} {tmps:Array Value} {a b u:Nat} {t:TypeId} {v1 v2:Value} {w:World} {x y:Addr} (hf:fn.results = #[.cell a t,.cell b t,.tmp u]) (l1:(loadVar t x).run P w = .ok v1 w) (l2:(loadVar t y).run P w = .ok v2 w) (ha:tmps.getD a undef = .pointer (some x):=by first | rfl | assumption) (hb:tmps.getD b undef = .pointer (some y):=by first | rfl | assumption) :
 (results fn tmps).run P w = .ok (.tuple #[v1,v2,tmps.getD u undef]) w:=by
 unfold results;rw[hf];have ha' : tmps[a]?.getD undef = .pointer (some x):=by simpa using ha
 have hb' : tmps[b]?.getD undef = .pointer (some y):=by simpa using hb
 simp[Sem.run_bind,ha',hb',l1,l2,asAddr]
theorem iE {w:World} {b b' : Nat} {cs:List Value} (H:Row w b cs) (hne:b≠b') (C:Array Value):Row (w.setCells b' 0 C.toList) b cs:=H.step (hJ _ _ _ hne)
theorem pL {w:World} {b:Nat} {C:Array Value} (hR:Row w b C.toList) (hC:C.size=31):(loadVar 28 ⟨b,0,none⟩).run Tryz.prog w = .ok (.agg C) w:=by
 have hl:C.toList.length=31:=by simpa using hC
 have hr:w.rangeAt b 0 C.toList:=by
  intro j v hv;rw[Nat.zero_add];exact hR.at j v hv
 have hld:=run_loadVar_mid (P:=Tryz.prog) _ b 0 28 C.toList _ hr Tryz.underlying28 rfl (by rw[hl];kernel_rfl)
 simpa using hld
theorem yU {ops:Array Oper} {oi:Oper} {a:Act} {w:World} {K:Act→World→Prop} {Q:Exit→Act→World→Prop} {b:Nat} {C:Array Value} {cs:List Value} (hw:Region.wanted oi (yielded ops a.tmps)=true) (hN:oi.dst=none) (x y:Operand) (ho:oi.op = .store 28 x y)
 (hx:a.eval x = .pointer (some ⟨b,0,none⟩)) (hy:a.eval y = .agg C) (hR:Row w b cs) (hcs:cs.length=31) (hC:C.size=31) (hone:C.all (·.oneCell')=true) (h:K a (w.setCells b 0 C.toList)) :
 if Region.wanted oi (yielded ops a.tmps)=true then Oper.wp Tryz.prog oi a w K Q else K (a.put none undef) w:=by
 have ht:w.there b 0 31:=hcs▸hR.there;rw[if_pos hw];refine wp_store_mid 28 x y ho b 0 C hx hy (by rw[hC];exact ht) (by rw[hC];kernel_rfl) hone ?_;rw[hN];exact h
theorem aGa {st:fJ} {comp s:ByteArray} (h:shortS st comp s=true):zA st:=by
 obtain ⟨_,_,_,h1,h2,h3,h4,h5,h6,_,h7⟩:=tU h;have hlen:(st.fmts.map mkF).length=st.fmts.length:=by simp
 exact ⟨aR,aR,aR,aR,fun x hx=>Nat.le_trans (h5 x hx) bA,fun x hx=>Nat.le_trans (h6 x hx) bA,fun x hx=>Nat.le_trans (h7 x hx) bA⟩
theorem aHy {st:fJ} {comp s:ByteArray} (K:sW st comp s):sL (wOf st comp (pathOf s false))=oO (iR (eJ st) comp (norm s)):=by
 obtain ⟨h1,h2,h3⟩:=aHx K (wOf st comp (pathOf s false)).typ false;have e:{ iR (eJ st) comp (norm s) with typ:=(wOf st comp (pathOf s false)).typ,trim:=false }=iR (eJ st) comp (norm s):=by rw[← h2,← h3]
 rw[e] at h1;rw[h1,aFk]
section
variable {w:World} {st:fJ} {vl vd vf vc:Value}
theorem oW (S:mD w st vl vd vf vc) (hf:sC st=true) (comp s:ByteArray) (hc:comp.size≤MM) (hs:s.size≤MM) :
 ∃ ok:Bool,(ok=true→jN st∧asc s∧asc comp∧s.size≤400∧comp.size≤2000∧sW st comp s) ∧
 Calls Tryz.prog 19 #[.agg #[vl,vd,vf,vc],.string comp,.string s] w fun e w' =>
  ∃ t v1 v2 v3 u1 u2 u3,e = .returned (.tuple #[jC t v1 v2 v3,jC t u1 u2 u3,.bool ok])∧nO w' w.heap.size t v1 v2 v3∧nO w' w.heap.size t u1 u2 u3 ∧
   (ok=true→t=oO (iR (eJ st) comp (norm s)))∧Below w.heap.size w w':=by
 obtain ⟨b1,hb1⟩:∃ b1,shortS st comp s=b1:=⟨_,rfl⟩
 obtain ⟨b2,hb2,hk2⟩:∃ b2:Bool,(b1=true→b2=true→asc s∧asc comp∧s.size≤400∧sW st comp s)∧(b1=true→∀ w',Below w.heap.size w w'→Calls Tryz.prog 35 #[.agg #[vl,vd,vf,vc],.string comp,.string s] w' fun e w''=>e = .returned (.bool b2)∧Below w'.heap.size w' w''):=by
  cases b1 with
  | false=>exact ⟨false,fun h=>(by cases h),fun h=>(by cases h)⟩
  | true =>
   obtain ⟨r,h1,h2⟩:=yP S comp s hb1;exact ⟨r,fun _=>h1,fun _=>h2⟩
 refine ⟨b1 && b2,fun h=>?_,?_⟩
 ·simp only[Bool.and_eq_true] at h;obtain ⟨h1,h2⟩:=h;rw[h1] at hb1;have h3:=tU hb1;have h4:=hb2 h1 h2;exact ⟨h3.1,h4.1,h4.2.1,h4.2.2.1,h3.2.1,h4.2.2.2⟩
 have HSA:=bY S;have HB1:=bY hb1;have HB2:=bY hb2;have HK2:=bY hk2;obtain ⟨Al,cl,rfl,_,_⟩:=S.l;obtain ⟨Ad,cd,rfl,_,_⟩:=S.d;obtain ⟨Af,cf,rfl,_,_⟩:=S.f;obtain ⟨Ac,cc,rfl,_,_⟩:=S.c;clear S hb1 hb2 hk2;have hB1:Below w.heap.size w (w.alloc (.cells #[.slice Al st.langs.length cl,.slice Ad st.dis.length cd,.slice Af st.fmts.length cf,.slice Ac st.cont.length cc] 25)):=(Below.refl _ _).alloc (Nat.le_refl _) _;have hR1:=Row.new w [.slice Al st.langs.length cl,.slice Ad st.dis.length cd,.slice Af st.fmts.length cf,.slice Ac st.cont.length cc] 25;have hs1:w.heap.size < (w.alloc (.cells #[.slice Al st.langs.length cl,.slice Ad st.dis.length cd,.slice Af st.fmts.length cf,.slice Ac st.cont.length cc] 25)).heap.size:=by simp
 go_enter Tryz.func19,Tryz.ntmps19;go_upto_region 1 with fail
 obtain ⟨w1,hw1⟩:∃ w1,w.alloc (.cells #[.slice Al st.langs.length cl,.slice Ad st.dis.length cd,.slice Af st.fmts.length cf,.slice Ac st.cont.length cc] 25)=w1:=⟨_,rfl⟩
 have hz1:w1.heap.size=w.heap.size+1:=by rw[← hw1];simp
 rw[hw1] at hB1 hR1 hs1 ⊢;clear hw1;have hBa:Below w1.heap.size w1 (w1.alloc (.cells eI.toArray 28)):=(Below.refl _ _).alloc (Nat.le_refl _) _;have hRa:Row (w1.alloc (.cells eI.toArray 28)) w1.heap.size eI:=Row.new w1 eI _;have hBb:Below w1.heap.size w1 ((w1.alloc (.cells eI.toArray 28)).alloc (.cells eI.toArray 28)):=hBa.alloc bJ _;have hRb:Row ((w1.alloc (.cells eI.toArray 28)).alloc (.cells eI.toArray 28)) (w1.alloc (.cells eI.toArray 28)).heap.size eI:=Row.new _ eI _;have hRa':=hRa.alloc (hRa.lt bF) (.cells eI.toArray 28);rw[show (w1.alloc (.cells eI.toArray 28)).heap.size=w.heap.size+2 by simp[hz1]] at hRb;rw[hz1] at hRa';rw[show eI.toArray=TZ from rfl] at hBb hRb hRa';clear hBa hRa
 obtain ⟨w2,hw2⟩:∃ w2,(w1.alloc (.cells TZ 28)).alloc (.cells TZ 28)=w2:=⟨_,rfl⟩
 rw[hw2] at hBb hRb hRa';change Code.wp _ _ _ _ ((w1.alloc (.cells TZ 28)).alloc (.cells TZ 28));rw[hw2];clear hw2;have hB:Below w.heap.size w w2:=hB1.trans (hBb.mono bA);have hRs:=hR1.below hBb hs1;have HRS:=bY hRs;have r0:=hRs.at 0 _ rfl;have r1:=hRs.at 1 _ rfl;have r2:=hRs.at 2 _ rfl;have r3:=hRs.at 3 _ rfl;have HB:=bY hB;have HRA:=bY hRa';have HRB:=bY hRb;have hlt2:w.heap.size+2 < w2.heap.size:=hRb.lt bF;have hS2:=HSA.out.below hB;have cs:=aD5 hS2 hf comp s hc hs;rw[HB1.out] at cs;clear hB1 hR1 hs1 hBb hRb hRa' hB hRs hz1 hS2;go_wp2_with fail
 refine cs.mono ?_;rintro e w3 ⟨rfl,hb3⟩;have HB3:=bY hb3;clear cs r0 r1 r2 r3;have hRs:=HRS.out.below hb3 bA;have r0:=hRs.at 0 _ rfl;have r1:=hRs.at 1 _ rfl;have r2:=hRs.at 2 _ rfl;have r3:=hRs.at 3 _ rfl;clear hb3 hRs;cases b1
 ·have HRa:=bY (HRA.out.below HB3.out bA);have HRb:=bY (HRB.out.below HB3.out hlt2);go_upto_region 2 with fail
  clear r0 r1 r2 r3
  go_wp2_with (first | (refine jU rfl (.tmp 6) (.tmp 21) rfl (w.heap.size+1) TZ rfl rfl ?q4 (cs:=eI) rfl rfl bB ?_;(case q4=>exact HRa.out)) | (refine jU rfl (.tmp 7) (.tmp 22) rfl (w.heap.size+2) TZ rfl rfl ?q4 (cs:=eI) rfl rfl bB ?_;(case q4=>exact iE HRb.out (Nat.succ_ne_self _) _)) | fail)
  have hbel:Below w.heap.size w ((w3.setCells (w.heap.size+1) 0 TZ.toList).setCells (w.heap.size+2) 0 TZ.toList):=below_setCells bA _ _ _ (below_setCells bA _ _ _ (HB.out.trans (HB3.out.mono HB.out.size)));refine bodyPost_ret (qS Tryz.results19 (pL (iE (Row.setAll (ds:=TZ.toList) HRa.out rfl) bA _) rfl) (pL (Row.setAll (ds:=TZ.toList) (iE HRb.out (Nat.succ_ne_self _) TZ) rfl) rfl)) rfl ⟨aH4,.slice none 0 0,.slice none 0 0,.slice none 0 0,.slice none 0 0,.slice none 0 0,.slice none 0 0,rfl,⟨eZ.nil _ _ _ _,eZ.nil _ _ _ _,eZ.nil _ _ _ _⟩,⟨eZ.nil _ _ _ _,eZ.nil _ _ _ _,eZ.nil _ _ _ _⟩,(fun h=>by cases h),hbel⟩
 have cp:=HK2.out rfl w3 (HB.out.trans (HB3.out.mono HB.out.size));go_wp2_with fail
 refine cp.mono ?_;rintro e w4 ⟨rfl,hb4⟩;have HB4:=bY (eA HB3.out hb4);clear cp r0 r1 r2 r3;have hRs:=(HRS.out.below HB3.out bA).below hb4 (by have:=HB3.out.size;omega);have r0:=hRs.at 0 _ rfl;have r1:=hRs.at 1 _ rfl;have r2:=hRs.at 2 _ rfl;have r3:=hRs.at 3 _ rfl;clear hb4 hRs;have HRa:=bY (HRA.out.below HB4.out bA);have HRb:=bY (HRB.out.below HB4.out hlt2);cases b2
 ·go_upto_region 2 with fail
  clear r0 r1 r2 r3
  go_wp2_with (first | (refine jU rfl (.tmp 6) (.tmp 21) rfl (w.heap.size+1) TZ rfl rfl ?q4 (cs:=eI) rfl rfl bB ?_;(case q4=>exact HRa.out)) | (refine jU rfl (.tmp 7) (.tmp 22) rfl (w.heap.size+2) TZ rfl rfl ?q4 (cs:=eI) rfl rfl bB ?_;(case q4=>exact iE HRb.out (Nat.succ_ne_self _) _)) | fail)
  have hbel:Below w.heap.size w ((w4.setCells (w.heap.size+1) 0 TZ.toList).setCells (w.heap.size+2) 0 TZ.toList):=below_setCells bA _ _ _ (below_setCells bA _ _ _ (HB.out.trans (HB4.out.mono HB.out.size)));refine bodyPost_ret (qS Tryz.results19 (pL (iE (Row.setAll (ds:=TZ.toList) HRa.out rfl) bA _) rfl) (pL (Row.setAll (ds:=TZ.toList) (iE HRb.out (Nat.succ_ne_self _) TZ) rfl) rfl)) rfl ⟨aH4,.slice none 0 0,.slice none 0 0,.slice none 0 0,.slice none 0 0,.slice none 0 0,.slice none 0 0,rfl,⟨eZ.nil _ _ _ _,eZ.nil _ _ _ _,eZ.nil _ _ _ _⟩,⟨eZ.nil _ _ _ _,eZ.nil _ _ _ _,eZ.nil _ _ _ _⟩,(fun h=>by cases h),hbel⟩
 have hok:=HB2.out (by first | rfl | trivial) (by first | rfl | trivial);have ho:=tU HB1.out;have hfew:=aGa HB1.out;have HB4d:Aside0 (Below w2.heap.size w2 w4.drew):=bY HB4.out.drew;have HSI:=bY (HSA.out.toSiteIn.below (HB.out.trans (HB4d.out.mono HB.out.size)));have HOK:=bY hok;have HOS:=bY ho.1;have HFW:=bY hfew;have hs9:Aside0 (s.size≤900000):=bY bA;have hz4:w2.heap.size≤w4.heap.size:=HB4.out.size;clear hok ho hfew;go_upto_region 3 with fail
 refine hO (n:=11) (S:=fun w'=>w'.cell? ⟨w.heap.size,0,none⟩=some (.slice Al st.langs.length cl)∧w'.cell? ⟨w.heap.size,1,none⟩=some (.slice Ad st.dis.length cd)∧w'.cell? ⟨w.heap.size,2,none⟩=some (.slice Af st.fmts.length cf)∧w'.cell? ⟨w.heap.size,3,none⟩=some (.slice Ac st.cont.length cc)) (ds:=[8,9]) _ bB rfl rfl ⟨r0,r1,r2,r3⟩ (fun hHeld=>?_);refine sA1 1 (some 24) sB1 ?_
 refine sA1 2 (some 25) sB1 ?_
 refine sA1 5 (some 28) sB1 ?_
 refine sA1 6 (some 29) sB1 ?_
 refine sC1 0 (some 23) sP1 ?_
 refine sC1 4 (some 27) sP1 ?_
 refine sF1 3 (some 26) sG1 (fun K hK=>?_);refine kW Tryz.func40 bB rfl #[.agg #[.slice Al st.langs.length cl,.slice Ad st.dis.length cd,.slice Af st.fmts.length cf,.slice Ac st.cont.length cc],.string comp,.string s] bH rfl rfl bI ?_
 with_reducible refine ((yG HSI.out HOS.out comp s hs9.out HOK.out.1)).mono ?_
 rintro e w5 ⟨v1,v2,v3,rfl,hT,hb5⟩;refine ⟨_,rfl,?_⟩;have HT:Aside0 (nO w5 w4.heap.size (oO (iR (eJ st) comp (norm s))) v1 v2 v3):=bY hT;have HB5:=bY (eA HB4d.out hb5);have r0_5:=cell_far (w:=w4.drew) r0 hb5;have r1_5:=cell_far (w:=w4.drew) r1 hb5;have r2_5:=cell_far (w:=w4.drew) r2 hb5;have r3_5:=cell_far (w:=w4.drew) r3 hb5;have HS5:=bY (HSI.out.below hb5);have hz5:w4.heap.size≤w5.heap.size:=hb5.size;clear hT;generalize hC:jC (oO (iR (eJ st) comp (norm s))) v1 v2 v3=TV;have HTV:=bY hC;clear hC;refine hK.out _ _ ⟨r0_5,r1_5,r2_5,r3_5⟩ (fun hHeld=>?_);clear hK K;refine gD sJ1 ?_
 refine sF1 7 (some 30) sG1 (fun K hK=>?_);refine kW Tryz.func43 bB rfl #[.agg #[.slice Al st.langs.length cl,.slice Ad st.dis.length cd,.slice Af st.fmts.length cf,.slice Ac st.cont.length cc],.string comp,.string s] bH rfl rfl bI ?_
 with_reducible refine ((aHy HOK.out.2.2.2▸yT ⟨HS5.out.l,HS5.out.d,HS5.out.f,HS5.out.c⟩ HFW.out comp s hs9.out)).mono ?_
 rintro e w6 ⟨u1,u2,u3,rfl,hU,hb6⟩;refine ⟨_,rfl,?_⟩;have HU:=bY hU;have HT6:=bY (HT.out.below hb6);have HB6:=bY (eA HB5.out hb6);have HRa:=bY (HRA.out.below HB6.out bA);have HRb:=bY (HRB.out.below HB6.out hlt2);have hz6:w5.heap.size≤w6.heap.size:=hb6.size
 obtain ⟨t,ht⟩:∃ t,oO (iR (eJ st) comp (norm s))=t:=⟨_,rfl⟩
 rw[ht] at HT6 HU HTV ⊢
 obtain ⟨A,hA⟩:∃ A:Array Value,nI t v1 v2 v3=A:=⟨_,rfl⟩
 obtain ⟨D,hD⟩:∃ D:Array Value,nI t u1 u2 u3=D:=⟨_,rfl⟩
 have HAS:=bY (show A.size=31 by rw[← hA];rfl);have HDS:=bY (show D.size=31 by rw[← hD];rfl);have HAO:=bY (show A.all (·.oneCell')=true by rw[← hA];exact HT6.out.one);have HDO:=bY (show D.all (·.oneCell')=true by rw[← hD];exact HU.out.one);have hval:jC t u1 u2 u3 = .agg D:=by rw[← hD];rfl
 have HV:=bY hval;obtain rfl:TV = .agg A:=by rw[← HTV.out,← hA];rfl
 have HTR:=bY ht;rw[hval];clear hval hA hD ht hU;refine hK.out _ _ ⟨(cell_far (w:=w5) r0_5 hb6),(cell_far (w:=w5) r1_5 hb6),(cell_far (w:=w5) r2_5 hb6),(cell_far (w:=w5) r3_5 hb6)⟩ (fun hHeld=>?_);clear hK K;refine gD sJ1 ?_
 refine sH1 8 none sI1 (fun K hK=>?_);refine yU bH rfl (.tmp 6) (.tmp 26) rfl rfl rfl HRa.out rfl HAS.out HAO.out ?_;refine hK.out _ _ ?_;clear hK K;refine sH1 9 none sI1 (fun K hK=>?_);refine yU bH rfl (.tmp 7) (.tmp 30) rfl rfl rfl (iE HRb.out (Nat.succ_ne_self _) A) rfl HDS.out HDO.out ?_;refine hK.out _ _ ?_;clear hK K;refine sA1 10 (some 8) sB1 ?_
 refine iM bB ?_;have hbel:Below w.heap.size w ((w6.setCells (w.heap.size+1) 0 A.toList).setCells (w.heap.size+2) 0 D.toList):=below_setCells bA _ _ _ (below_setCells bA _ _ _ (HB.out.trans (HB6.out.mono HB.out.size)));have hfar:∀ k,w4.heap.size≤k→((w6.setCells (w.heap.size+1) 0 A.toList).setCells (w.heap.size+2) 0 D.toList).heap[k]? = w6.heap[k]?:=fun k hk=>(hJ _ _ k bA).trans (hJ _ _ k bA);have s1:=HT6.out.far fun k hk _=>hfar k hk;have s2:=HU.out.far fun k hk _=>hfar k bA;have hzw:w.heap.size≤w4.heap.size:=by omega
 have l1:=pL (iE (Row.setAll (ds:=A.toList) HRa.out (by rw[Array.length_toList,HAS.out];rfl)) (show w.heap.size+1≠w.heap.size+2 by omega) D) HAS.out;have l2:=pL (Row.setAll (ds:=D.toList) (iE HRb.out (Nat.succ_ne_self _) A) (by rw[Array.length_toList,HDS.out];rfl)) HDS.out;have HBEL:=bY hbel;have HS1:=bY s1;have HS2:=bY s2;clear hbel hfar s1 s2 r0 r1 r2 r3 r0_5 r1_5 r2_5 r3_5
 obtain ⟨W,hW⟩:∃ W,(w6.setCells (w.heap.size+1) 0 A.toList).setCells (w.heap.size+2) 0 D.toList=W:=⟨_,rfl⟩
 rw[hW] at l1 l2 HBEL HS1 HS2 ⊢;clear hW;have HL1:=bY l1;have HL2:=bY l2;clear l1 l2;go_wp2_with fail
 refine bodyPost_ret (qS Tryz.results19 HL1.out HL2.out) rfl ⟨t,v1,v2,v3,u1,u2,u3,?_,HS1.out.mono hzw,HS2.out.mono bA,fun _=>HTR.out.symm,HBEL.out⟩;rw[HV.out,HTV.out];rfl
end
end Go.Proofs.YtgcbfleafnoadaaGreatDoor.Path
namespace Go.Proofs.YtgcbfleafnoadaaGreatDoor.Path
open Go.RowKit Go.WideMaps Go.Proofs.YtgcbfleafnoadaaGreatDoorW.PrintWords Go.Proofs.YtgcbfleafnoadaaGreatDoor.Base Go.Proofs.YtgcbfleafnoadaaGreatDoor.Lower
section
variable {w:World}
theorem aDi (l:List ByteArray) (hl:l.length≤1000000):∀ (n j:Nat),l.length - j=n→j≤l.length→Ev (fun k=>Go.Proofs.YtgcbfleafnoadaaGreatDoor.PTexts.laws_texts.l0 k l l (l.length:Int) (j:Int)) true:=by
 intro n
 induction n with
 | zero =>
  intro j h1 h2;refine Ev.step (f:=fun _=>some true) (fun k=>?_) (Ev.now _);simp only[Go.Proofs.YtgcbfleafnoadaaGreatDoor.PTexts.laws_texts.l0];rw[if_neg bA]
 | succ n ih =>
  intro j h1 h2;refine Ev.step (fun k=>?_) (ih (j+1) bA bA);simp only[Go.Proofs.YtgcbfleafnoadaaGreatDoor.PTexts.laws_texts.l0];rw[if_pos bA,if_pos bA,if_pos bA,if_pos bA,if_pos trivial,w64 bA bA];rfl
theorem sV {v u:Value} {l:List ByteArray} (H:eZ w 0 v l) (H' : eZ w 0 u l) (hl:l.length≤1000000):Calls Tryz.prog 26 #[v,u] w fun e w'=>e = .returned (.bool true)∧Below w.heap.size w w':=by
 have h:Ev (fun k=>Go.Proofs.YtgcbfleafnoadaaGreatDoor.PTexts.laws_texts.f k l l) true:=by
  refine Ev.congr (fun k=>?_) (aDi l hl l.length 0 bA bA);unfold Go.Proofs.YtgcbfleafnoadaaGreatDoor.PTexts.laws_texts.f;rw[if_pos rfl];rfl
 obtain ⟨k,hk⟩:=h.rounds;obtain ⟨A0,c0,rfl,h0,r0⟩:=H.kd bA;obtain ⟨A1,c1,rfl,h1,r1⟩:=H'.kd bA
 exact (Go.Proofs.YtgcbfleafnoadaaGreatDoor.PTexts.laws_texts.calls k A0 c0 l A1 c1 l true w r0 h0 r1 h1 hk).mono fun _ _ ⟨h1,h2⟩=>⟨h1,h2.below⟩
end
end Go.Proofs.YtgcbfleafnoadaaGreatDoor.Path
