/- Texts that the law leans on: Parse, Impl, Args, SiteRow, Known0, LawKit, Wide, Known, BFns, Texts, BuiltKit, KnowKit, AtSite, UnnKit. Condition: as told at each. -/
import Derived.SliceStrings
import Derived.Deep.Slices
import Derived.Deep.Fields
import Derived.Lib.SmallJoins
import Derived.ChangeSame
import Derived.Carry
import Derived.Test.YtcdgldnphhidlaaGreatDoorVa
import Derived.Test.YtcdgldnphhidlaaGreatDoorV19
import Derived.Test.YtcdgldnphhidlaaGreatDoorV20
set_option linter.unusedVariables false
set_option linter.unusedSimpArgs false
set_option maxRecDepth 100000
set_option maxHeartbeats 16000000
namespace Go.Proofs.YtcdgldnphhidlaaGreatDoor.Path
open Go.RowKit Go.WideMaps Go.ZW.PrintWords Go.Proofs.YtcdgldnphhidlaaGreatDoor.Base Go.Proofs.YtcdgldnphhidlaaGreatDoor.Lower Go.Proofs.YtcdgldnphhidlaaGreatDoor.Norm
theorem aG6 {s:ByteArray} (h:asc s):∀ c∈L s,c.toNat≤127:=by
 intro c hc;obtain ⟨k,hk⟩:=List.mem_iff_getElem?.1 hc;have:=h k c hk;omega
theorem aF2 {s:ByteArray} (h:asc s):asc (norm s):=by
 intro j c hc;have e:(norm s).data.toList=(L s).map fun c=>jF (gZ c):=rW s;rw[e,List.getElem?_map] at hc
 cases hx:(L s)[j]? with
 | none=>rw[hx] at hc;cases hc
 | some x =>
  rw[hx] at hc;injection hc with hc
  have hx2:=h j x hx
  have h1:(gZ x).toNat < 128:=by
   unfold gZ;split
   ·rename_i h1
    rw[UInt8.toNat_add];have:(32:UInt8).toNat=32:=rfl;omega
   exact hx2
  rw[← hc];show (if gZ x=32 then (45:UInt8) else gZ x).toNat < 128
  by_cases c:gZ x=32
  ·rw[if_pos c];decide
  rw[if_neg c];exact h1
theorem eM.lower {w:World} {B B' b:Nat} {p:eJ} {vk vu vl u:Value} (H:eM w B b p vk vu vl u) (h:B'≤B):eM w B' b p vk vu vl u :=
 ⟨Nat.le_trans h H.base,H.row,qC H.ok h,qC H.ou h,qC H.ol h,H.nk,H.nu,H.nl,H.ku⟩
def aBd (w:World) (B:Nat) (E:Env) (comp s:ByteArray) (b ub:Nat) (vk vu vl:Value):Prop :=
 eM w B b (fL E comp (norm s)) vk vu vl (.pointer (some ⟨ub,0,none⟩))∧∃ vk2 vu2 vl2 u2,eM w B ub (fL E comp s) vk2 vu2 vl2 u2
theorem aBd.below {w w' : World} {B:Nat} {E:Env} {comp s:ByteArray} {b ub:Nat} {vk vu vl:Value} (H:aBd w B E comp s b ub vk vu vl) (hb:Below w.heap.size w w'):aBd w' B E comp s b ub vk vu vl:=by
 obtain ⟨h1,vk2,vu2,vl2,u2,h2⟩:=H;exact ⟨h1.below hb,vk2,vu2,vl2,u2,h2.below hb⟩
section
variable {w:World} {pb mb sb fb:Nat} {st:fD} {sl sd sf sc:Value}
theorem aDl (S:jB w pb st sl sd sf sc mb sb fb) (OS:jM st) (comp s:ByteArray) (hs:s.size≤900000) (ha:asc s) :
 Calls Tryz.prog 78 #[.pointer (some ⟨pb,0,none⟩),.string comp,.string s] w fun e w' =>
  ∃ b ub vk vu vl,e = .returned (.tuple #[.pointer (some ⟨b,0,none⟩),.nilIface])∧aBd w' w.heap.size (eI st) comp s b ub vk vu vl∧Below w.heap.size w w':=by
 have HS:=cH S;have cn:=normalizeBasic_calls s w bA (aG6 ha);have hns:(norm s).size≤900000:=by rw[norm_size];exact hs
 have han:=aF2 ha
 obtain ⟨t,ht⟩:∃ t,norm s=t:=⟨_,rfl⟩
 rw[ht] at cn hns han;have HT:=cH ht;have HA:=cH ha;have HAN:=cH han;clear S ha han ht;go_enter Tryz.func78,Tryz.ntmps78;go_wp2_with fail
 refine cn.mono ?_;rintro e w1 ⟨rfl,hb1⟩;have HS1:=cH (HS.out.below hb1);have HB1:=cH hb1;clear cn hb1;have cnew:=uP w1 (.pointer (some ⟨pb,0,none⟩)) comp;go_wp2_with fail
 refine cnew.mono ?_;rintro e w2 ⟨rfl,hp2,hb2⟩;have HP2:=cH hp2;have HB2:=cH hb2;have cd:=aBp HS1.out OS hb2 comp hp2 t hns HAN.out;clear cnew hp2 hb2;go_wp2_with fail
 refine cd.mono ?_;rintro e w3 ⟨rfl,vk,vu,vl,hp3,hm3⟩;have HP3:=cH hp3;have HB3:=cH (HB2.out.trans (fC.below HP2.out hm3));clear cd hp3 hm3
 obtain ⟨b1,hb1⟩:∃ b1,w1.heap.size=b1:=⟨_,rfl⟩
 have HBB:=cH hb1;rw[hb1] at HP3 HB3 ⊢;have hlt:=HP3.out.lt;have HLT:=cH hlt;clear hb1 hlt
 obtain ⟨z,hz⟩:∃ z,(s.toList==t.toList)=z:=⟨_,rfl⟩
 have hz2:(s.toList != t.toList) = !z:=by rw[bne,hz]
 have HZ:=cH hz;cases z
 ·have HS3:=cH (HS1.out.below (HBB.out▸HB3.out))
  have HB03:Aside0 (Below w.heap.size w w3):=⟨HB1.out.trans (HB3.out.mono (by rw[← HBB.out];exact HB1.out.size))⟩
  have cnew:=uP w3 (.pointer (some ⟨pb,0,none⟩)) comp;clear HP2 HB2;go_wp2_with fail
  refine cnew.mono ?_;rintro e w4 ⟨rfl,hp4,hb4⟩;have HP4:=cH hp4;have HB4:=cH hb4;have cd:=aBp HS3.out OS hb4 comp hp4 s hs HA.out;clear cnew hp4 hb4;have q25:=HP3.out.row.at 25 _ rfl;have f25:=HP3.out.row.free 25 bI;go_wp2_with fail
  refine cd.mono ?_;rintro e w5 ⟨rfl,vk2,vu2,vl2,hp5,hm5⟩;have HB5:=cH (HB4.out.trans (fC.below HP4.out hm5));have HP5:=cH (HP3.out.below HB5.out);have HQ5:=cH hp5;clear cd hp5 hm5 q25 f25;have q25:=HP5.out.row.at 25 _ rfl;have f25:=HP5.out.row.free 25 bI;go_wp2_with fail
  have hpa:=HP5.out.put 25 (.pointer (some ⟨w3.heap.size,0,none⟩)) (mDo (eI st) comp t { fT with comp:=comp }) (.pointer (some ⟨w3.heap.size,0,none⟩)) rfl rfl rfl rfl bA;have hqa:eM (w5.setCell ⟨b1,25,none⟩ (.pointer (some ⟨w3.heap.size,0,none⟩))) w3.heap.size w3.heap.size (fL (eI st) comp s) vk2 vu2 vl2 (.pointer none):=HQ5.out.beside (a:=⟨b1,25,none⟩) (by have:=HLT.out;show w3.heap.size≠b1;omega) (rQ HQ5.out.ok HLT.out) (rQ HQ5.out.ou HLT.out) (rQ HQ5.out.ol HLT.out) (.pointer (some ⟨w3.heap.size,0,none⟩));have hbz:Below w.heap.size w (w5.setCell ⟨b1,25,none⟩ (.pointer (some ⟨w3.heap.size,0,none⟩))):=(HB03.out.trans (HB5.out.mono HB03.out.size)).setCell (p:=⟨b1,25,none⟩) (by rw[← HBB.out];exact HB1.out.size) (.pointer (some ⟨w3.heap.size,0,none⟩))
  refine bodyPost_ret (results_tmp2 bK _ _ _) rfl ⟨b1,w3.heap.size,vk,vu,vl,rfl,⟨?_,vk2,vu2,vl2,_,hqa.lower HB03.out.size⟩,hbz⟩;have:=hpa.lower (B':=w.heap.size) (by rw[← HBB.out];exact HB1.out.size);rw[← HT.out] at this;exact this
 have q25:=HP3.out.row.at 25 _ rfl;have f25:=HP3.out.row.free 25 bI
 have HST:=cH (show norm s=s by
  rw[HT.out];refine (L_inj ?_).symm;have h9:=beq_iff_eq.1 HZ.out;rw[L_toList,L_toList] at h9
  exact h9)
 clear HP2 HB2;go_wp2_with fail
 have hpa:=HP3.out.put 25 (.pointer (some ⟨b1,0,none⟩)) (mDo (eI st) comp t { fT with comp:=comp }) (.pointer (some ⟨b1,0,none⟩)) rfl rfl rfl rfl bA;have hbz:Below w.heap.size w (w3.setCell ⟨b1,25,none⟩ (.pointer (some ⟨b1,0,none⟩))):=(HB1.out.trans (HB3.out.mono (by rw[← HBB.out];exact HB1.out.size))).setCell (p:=⟨b1,25,none⟩) (by rw[← HBB.out];exact HB1.out.size) (.pointer (some ⟨b1,0,none⟩));have hp:=hpa.lower (B':=w.heap.size) (by rw[← HBB.out];exact HB1.out.size);rw[← HT.out] at hp;refine bodyPost_ret (results_tmp2 bK _ _ _) rfl ⟨b1,b1,vk,vu,vl,rfl,⟨hp,vk,vu,vl,.pointer (some ⟨b1,0,none⟩),?_⟩,hbz⟩;have h8:=hp;rw[HST.out] at h8;exact h8
theorem wQ (S:jB w pb st sl sd sf sc mb sb fb) (OS:jM st) (comp s:ByteArray) (hs:s.size≤900000) (ha:asc s) :
 Calls Tryz.prog 52 #[.pointer (some ⟨pb,0,none⟩),.string comp,.string s] w fun e w' =>
  ∃ b ub vk vu vl,e = .returned (.pointer (some ⟨b,0,none⟩))∧aBd w' w.heap.size (eI st) comp s b ub vk vu vl∧Below w.heap.size w w':=by
 have c:=aDl S OS comp s hs ha;clear S hs ha;go_enter Tryz.func52,Tryz.ntmps52;go_wp2_with fail
 refine c.mono ?_;rintro e w' ⟨b,ub,vk,vu,vl,rfl,hp,hb⟩;have HP:=cH hp;have HB:=cH hb;clear c hp hb;go_wp2_with fail
 go_ret;exact ⟨b,ub,vk,vu,vl,rfl,HP.out,HB.out⟩
end
open Go.RowKit Go.WideMaps Go.ZW.PrintWords Go.Proofs.YtcdgldnphhidlaaGreatDoor.Base Go.Proofs.YtcdgldnphhidlaaGreatDoor.Lower
structure SiteIn (w:World) (st:fD) (vl vd vf vc:Value):Prop where
 l:eT w 0 vl st.langs
 d:eT w 0 vd st.dis
 f:oI w 0 vf st.fmts
 c:eT w 0 vc st.cont
theorem SiteIn.below {w w' : World} {st:fD} {vl vd vf vc:Value} (H:SiteIn w st vl vd vf vc) (hb:Below w.heap.size w w'):SiteIn w' st vl vd vf vc :=
 ⟨H.l.below hb,H.d.below hb,H.f.below hb,H.c.below hb⟩
def Told (w:World) (B:Nat) (p:eJ) (v1 v2 v3:Value):Prop:=eT w B v1 (iT p)∧eT w B v2 (iV p)∧eT w B v3 (kB p)
theorem Told.below {w w' : World} {B:Nat} {p:eJ} {v1 v2 v3:Value} (H:Told w B p v1 v2 v3) (hb:Below w.heap.size w w'):Told w' B p v1 v2 v3:=⟨H.1.below hb,H.2.1.below hb,H.2.2.below hb⟩
section
variable {w:World} {st:fD} {vl vd vf vc:Value}
theorem yL (S:SiteIn w st vl vd vf vc) (OS:jM st) (comp s:ByteArray) (hs:s.size≤900000) (ha:asc s) :
 Calls Tryz.prog 40 #[.agg #[vl,vd,vf,vc],.string comp,.string s] w fun e w' =>
  ∃ v1 v2 v3,e = .returned (iB (gQ (fL (eI st) comp (norm s))) v1 v2 v3)∧Told w' w.heap.size (fL (eI st) comp (norm s)) v1 v2 v3∧Below w.heap.size w w':=by
 have HSI:=cH S;have hok:=nP (eI st) comp (norm s) (by rw[norm_size];exact hs);have HOK:=cH hok;have HA:=cH ha;obtain ⟨Al,cl,rfl,_,_⟩:=S.l;obtain ⟨Ad,cd,rfl,_,_⟩:=S.d;obtain ⟨Af,cf,rfl,_,_⟩:=S.f;obtain ⟨Ac,cc,rfl,_,_⟩:=S.c;clear S hok ha;have hB1:Below w.heap.size w (w.alloc (.cells #[.slice Al st.langs.length cl,.slice Ad st.dis.length cd,.slice Af st.fmts.length cf,.slice Ac st.cont.length cc] 25)):=(Below.refl _ _).alloc (Nat.le_refl _) _;have hR1:=Row.new w [.slice Al st.langs.length cl,.slice Ad st.dis.length cd,.slice Af st.fmts.length cf,.slice Ac st.cont.length cc] 25;have hs1:w.heap.size < (w.alloc (.cells #[.slice Al st.langs.length cl,.slice Ad st.dis.length cd,.slice Af st.fmts.length cf,.slice Ac st.cont.length cc] 25)).heap.size:=by simp
 go_enter Tryz.func40,Tryz.ntmps40;go_upto_region 1 with fail
 obtain ⟨w1,hw1⟩:∃ w1,w.alloc (.cells #[.slice Al st.langs.length cl,.slice Ad st.dis.length cd,.slice Af st.fmts.length cf,.slice Ac st.cont.length cc] 25)=w1:=⟨_,rfl⟩
 have hz1:w1.heap.size=w.heap.size+1:=by rw[← hw1];simp
 rw[hw1] at hB1 hR1 hs1 ⊢;clear hw1;have hB2:Below w1.heap.size w1 (w1.alloc (.cells fY.toArray 35)):=(Below.refl _ _).alloc (Nat.le_refl _) _;have hR2:Row (w1.alloc (.cells fY.toArray 35)) w1.heap.size fY:=Row.new w1 fY _;rw[show fY.toArray=TZ from rfl] at hB2 hR2
 obtain ⟨w2,hw2⟩:∃ w2,w1.alloc (.cells TZ 35)=w2:=⟨_,rfl⟩
 rw[hw2] at hB2 hR2;change Code.wp _ _ _ _ (w1.alloc (.cells TZ 35));rw[hw2];clear hw2;rw[hz1] at hR2;have hB:Below w.heap.size w w2:=hB1.trans (hB2.mono bA);have hRs:=hR1.below hB2 hs1;have r0:=hRs.at 0 _ rfl;have r1:=hRs.at 1 _ rfl;have r2:=hRs.at 2 _ rfl;have r3:=hRs.at 3 _ rfl;have HB:=cH hB;have HR2:=cH hR2;have hlt2:w.heap.size+1 < w2.heap.size:=hR2.lt bH;have cp:=vO (HSI.out.l.below hB) (HSI.out.d.below hB) (HSI.out.f.below hB) (HSI.out.c.below hB) OS;clear hB1 hR1 hs1 hB2 hR2 hB hRs hz1;go_wp2_with fail
 refine cp.mono ?_;rintro e w3 ⟨pb,mb,sb,fb,rfl,hS,hb3⟩;have cP:=wQ hS OS comp s hs HA.out;have HB3:=cH hb3;clear cp hS hb3 r0 r1 r2 r3;go_wp2_with fail
 refine cP.mono ?_;rintro e w4 ⟨b,ub,vk,vu,vl,rfl,hp,hb4⟩;have ct:=zC hp.1 HOK.out.1 HOK.out.2.1 HOK.out.2.2;have HB4:=cH (eB HB3.out hb4);clear cP hp hb4;go_wp2_with fail
 refine ct.mono ?_;rintro e w5 ⟨v1,v2,v3,rfl,hs1,hs2,hs3,hb5⟩;have HB5:=cH (eB HB4.out hb5);have hz5:=HB4.out.size;have S1:=cH hs1;have S2:=cH hs2;have S3:=cH hs3;obtain ⟨A1,c1,e1,_⟩:=S1.out;obtain ⟨A2,c2,e2,_⟩:=S2.out;obtain ⟨A3,c3,e3,_⟩:=S3.out;clear ct hb5 hs1 hs2 hs3
 obtain ⟨C,hC⟩:∃ C:Array Value,oY (gQ (fL (eI st) comp (norm s))) v1 v2 v3=C:=⟨_,rfl⟩
 have hval:iB (gQ (fL (eI st) comp (norm s))) v1 v2 v3 = .agg C:=by rw[← hC];rfl
 have hCs:C.size=31:=by rw[← hC];rfl
 have hl:C.toList.length=31:=by simpa using hCs
 have hone:C.all (·.oneCell')=true:=by rw[← hC,e1,e2,e3];exact mF _ _ _ _ _ _ _ _ _ _
 have HV:=cH hval;rw[hval];clear hval e1 e2 e3;have HC:=cH hC;have hRf:=HR2.out.below HB5.out hlt2;have ht:World.there _ (w.heap.size+1) 0 31:=hRf.there
 dsimp only
 refine (show ∀ (a:Act) (w:World),wpList _ _ _ _ a w→_ from by assumption) _ _ ?_;refine wpList_store_mid rfl 35 _ _ rfl (w.heap.size+1) 0 C rfl rfl (by rw[hCs];exact ht) (by rw[hCs];kernel_rfl) hone ?_;have hr:=World.rangeAt_setCells_same _ (w.heap.size+1) 0 C.toList (by rw[hl];exact ht);have hld:=run_loadVar_mid (P:=Tryz.prog) _ (w.heap.size+1) 0 35 C.toList _ hr Tryz.underlying35 rfl (by rw[hl];kernel_rfl);have hfar:∀ k,k≠w.heap.size+1→(w5.setCells (w.heap.size+1) 0 C.toList).heap[k]? = w5.heap[k]?:=fun k hk=>hZ _ _ k hk;have hbel:Below w.heap.size w (w5.setCells (w.heap.size+1) 0 C.toList):=below_setCells (Nat.le_succ _) _ _ _ (HB.out.trans (HB5.out.mono HB.out.size))
 obtain ⟨W,hW⟩:∃ W,w5.setCells (w.heap.size+1) 0 C.toList=W:=⟨_,rfl⟩
 rw[hW] at hld hbel hfar ⊢;have s1:=cH (S1.out.far fun k hk _=>hfar k bA);have s2:=cH (S2.out.far fun k hk _=>hfar k bA);have s3:=cH (S3.out.far fun k hk _=>hfar k bA);have HBel:=cH hbel;have hz4:w.heap.size≤w4.heap.size:=by omega
 clear hbel hfar hW hr hone hl hCs ht hRf S1 S2 S3;go_wp2_with fail
 refine bodyPost_ret (v:=.agg C) (sI Tryz.results40 rfl (by simpa using hld)) rfl ⟨v1,v2,v3,?_,⟨s1.out.mono hz4,s2.out.mono hz4,s3.out.mono hz4⟩,HBel.out⟩;rw[HV.out]
end
open Go.RowKit Go.WideMaps Go.ZW.PrintWords Go.Proofs.YtcdgldnphhidlaaGreatDoor.Base Go.Proofs.YtcdgldnphhidlaaGreatDoor.Lower Go.Proofs.YtcdgldnphhidlaaGreatDoor.Total Go.Proofs.YtcdgldnphhidlaaGreatDoor.PCore
structure lW (w:World) (st:fD) (vl vd vf vc:Value):Prop extends SiteIn w st vl vd vf vc where
 ll:st.langs.length≤9223372036854775807
 dl:st.dis.length≤9223372036854775807
 fl:st.fmts.length≤9223372036854775807
 cl:st.cont.length≤9223372036854775807
theorem lW.below {w w' : World} {st:fD} {vl vd vf vc:Value} (H:lW w st vl vd vf vc) (hb:Below w.heap.size w w'):lW w' st vl vd vf vc :=
 ⟨H.toSiteIn.below hb,H.ll,H.dl,H.fl,H.cl⟩
def pY (st:fD):Bool:=Total.fits1 st.langs st.dis (st.fmts.map mkF) st.cont
def shortS (st:fD) (comp s:ByteArray):Bool:=yY st.langs st.dis (st.fmts.map mkF) st.cont comp s
section
variable {w:World} {st:fD} {vl vd vf vc:Value}
theorem nX (S:lW w st vl vd vf vc):Calls Tryz.prog 15 #[.agg #[vl,vd,vf,vc]] w fun e w'=>e = .returned (.bool (pY st))∧Below w.heap.size w w':=by
 obtain ⟨k,hk⟩:=(Total.ev_fits1 st.langs st.dis (st.fmts.map mkF) st.cont).rounds;obtain ⟨A0,c0,rfl,h0,r0⟩:=S.l.kd S.ll;obtain ⟨A1,c1,rfl,h1,r1⟩:=S.d.kd S.dl;obtain ⟨A2,c2,rfl,h2,r2⟩:=S.f.kd S.fl;obtain ⟨A3,c3,rfl,h3,r3⟩:=S.c.kd S.cl;exact kX.calls k A0 c0 _ A1 c1 _ A2 c2 _ A3 c3 _ _ w r0 h0 r1 h1 r2 h2 r3 h3 hk
theorem aBx {l:List ByteArray} (h:fewB l=true):l.length≤2000∧∀ x∈l,x.size≤2000:=by
 unfold fewB at h;simp only[decide_eq_true_eq] at h;refine ⟨aQ,fun x hx=>?_⟩
 have:x.size≤wt l:=by
  unfold wt
  induction l with
  | nil=>cases hx
  | cons a r ih =>
   simp only[List.map_cons,List.sum_cons];rcases List.mem_cons.1 hx with rfl | hx
   ·omega
   have:=ih (by simp only[wt,List.map_cons,List.sum_cons,List.length_cons] at h;simp only[wt];omega) hx;omega
 omega
theorem aHq (l:List (S46)):l.length≤wt3 l:=by
 unfold wt3
 induction l with
 | nil=>simp
 | cons a r ih=>simp only[List.map_cons,List.sum_cons,List.length_cons];omega
theorem aHr (l:List (S46)) (x:S46) (hx:x∈l):x.f0.size+x.f1.size≤wt3 l:=by
 unfold wt3
 induction l with
 | nil=>cases hx
 | cons a r ih =>
  simp only[List.map_cons,List.sum_cons];rcases List.mem_cons.1 hx with rfl | hx
  ·omega
  have:=ih hx;omega
theorem aCm {comp s:ByteArray} (h:shortS st comp s=true):jM st∧comp.size≤2000∧s.size≤2000∧st.langs.length≤2000∧st.dis.length≤2000∧(st.fmts.map mkF).length≤2000∧st.cont.length≤2000∧(∀ x∈st.langs,x.size≤2000)∧(∀ x∈st.dis,x.size≤2000)∧(∀ x∈st.fmts.map mkF,x.f0.size≤2000∧x.f1.size≤2000)∧(∀ x∈st.cont,x.size≤2000):=by
 unfold shortS yY at h;simp only[Bool.and_eq_true,decide_eq_true_eq] at h;obtain ⟨h0,h1,h2,h3⟩:=h;obtain ⟨a1,a2⟩:=aBx h1;obtain ⟨b1,b2⟩:=aBx h2;obtain ⟨c1,c2⟩:=aBx h3;have hw:=aHq (st.fmts.map mkF);have hm:=aHr (st.fmts.map mkF);have hlen:(st.fmts.map mkF).length=st.fmts.length:=by simp
 refine ⟨⟨aQ,aQ,aQ,aQ,fun x hx=>Nat.le_trans (a2 x hx) bA⟩,aQ,aQ,a1,b1,aQ,c1,a2,b2,fun x hx=>?_,c2⟩;have:=hm x hx;omega
theorem aBj {s:ByteArray} (h:Ext.ascii (L s)=true):asc s:=by
 intro j c hc;have:=List.all_eq_true.1 h c (List.mem_of_getElem? hc);simp only[decide_eq_true_eq] at this;omega
theorem yT (S:lW w st vl vd vf vc) (comp s:ByteArray) (h:shortS st comp s=true):∃ r:Bool,(r=true→asc s∧asc comp∧s.size≤400∧nZ st comp s)∧∀ w',Below w.heap.size w w'→Calls Tryz.prog 38 #[.agg #[vl,vd,vf,vc],.string comp,.string s] w' fun e w''=>e = .returned (.bool r)∧Below w'.heap.size w' w'':=by
 obtain ⟨_,h1,h2,h3,h4,h5,h6,h7,h8,h9,h10⟩:=aCm h;obtain ⟨r,hr,hp⟩:=vV st.langs st.dis (st.fmts.map mkF) st.cont comp s bA bA bA bA (fun x hx=>Nat.le_trans (h7 x hx) bA) (fun x hx=>Nat.le_trans (h8 x hx) bA) (fun x hx=>⟨Nat.le_trans (h9 x hx).1 bA,Nat.le_trans (h9 x hx).2 bA⟩) (fun x hx=>Nat.le_trans (h10 x hx) bA) bA bA;obtain ⟨k,hk⟩:=hr.rounds;refine ⟨r,fun e=>⟨aBj (hp e).ascY,aBj (hp e).ascX,(hp e).most,hp e⟩,fun w' hb=>?_⟩;have S':=S.below hb;obtain ⟨A0,c0,rfl,g0,r0⟩:=S'.l.kd S.ll;obtain ⟨A1,c1,rfl,g1,r1⟩:=S'.d.kd S.dl;obtain ⟨A2,c2,rfl,g2,r2⟩:=S'.f.kd S.fl;obtain ⟨A3,c3,rfl,g3,r3⟩:=S'.c.kd S.cl
 exact hU.calls k A0 c0 _ A1 c1 _ A2 c2 _ A3 c3 _ comp s _ w' r0 g0 r1 g1 r2 g2 r3 g3 hk
end
end Go.Proofs.YtcdgldnphhidlaaGreatDoor.Path
namespace Go.Proofs.YtcdgldnphhidlaaGreatDoor.SiteRow
open Go.ChangeShapes Go.WideShapes Go.ChangeAt Go.RowKit Go.Joins Go.Deep Go.Proofs.YtcdgldnphhidlaaGreatDoor.Path
theorem laidOut:laidOutB Tryz.prog=true:=by kernel_rfl
theorem aBg {a:Addr} (h:a.spot=none) (j:Nat):a.add j=⟨a.block,a.off+j,none⟩:=by
 cases a with
 | mk b o s =>
  simp only at h;subst h;unfold Addr.add;split
  ·rename_i h0;subst h0;rfl
  rfl
theorem aAs {w:World} {a:Addr} {v:Value} (h:w.cell? a=some v):a.spot=none:=by
 unfold World.cell? at h;split at h
 ·cases hs:a.spot with
  | none=>rfl
  | some x=>rw[hs] at h;simp at h
 cases h
section
variable {H:Type} {enc:TypeId×Value→H} {W:World}
theorem open_strs {n:Nat} {v:Value} {y:DataW H×List MemPlace} (h:DataW.trod enc Tryz.prog W 0 (fun _=>true) true n 22 [v]=some y):∃ l,eT W 0 v l∧l.length≤9223372036854775807:=by
 rcases open_strings Tryz.underlying22 Tryz.underlying9 bB h with ⟨hcs,_⟩ | ⟨a,len,cap,ss,hcs,_,hl,hm,hz,_,hcell,_⟩
 ·injection hcs with hcs
  subst hcs;exact ⟨[],eT.nil _ _ _ _,dY⟩
 injection hcs with hcs
 subst hcs;simp only[if_true] at hz;have hlen:(ss.take len).length=len:=by rw[List.length_take];omega
 have hmx:cap≤9223372036854775807:=by have:=hm;unfold maxLen at this;omega
 refine ⟨ss.take len,⟨some a,cap,by rw[hlen],by rw[hlen];exact hl,fun hp=>?_⟩,by rw[hlen];omega⟩;rw[hlen] at hp;have hsp:a.spot=none:=aAs (show W.cell? a=_ by have:=hcell 0 bA;rwa[show a.add 0=a by simp[Addr.add]] at this);refine ⟨a.block,a.off,by cases a;simp only at hsp;subst hsp;rfl,Nat.zero_le _,fun j hj=>?_⟩;have hj2:j < len:=by rw[hlen] at hj;exact hj
 have:=hcell j bA;rw[aBg hsp] at this;rw[this];congr 2;rw[List.getElem_take,List.getD_eq_getElem?_getD,List.getElem?_eq_getElem bA];rfl
theorem aFq {n:Nat} {v:Value} {y:DataW H×List MemPlace} (h:DataW.trod enc Tryz.prog W 0 (fun _=>true) true n 23 [v]=some y):∃ l,oI W 0 v l∧l.length≤9223372036854775807:=by
 rcases open_slice Tryz.underlying23 h with ⟨hcs,_⟩ | ⟨a,len,cap,m,n2,D,Pl,hcs,_,hl,hm,hmm,_,hi⟩
 ·injection hcs with hcs
  subst hcs;exact ⟨[],⟨none,0,rfl,Nat.le_refl _,fun h=>absurd h bJ⟩,dY⟩
 injection hcs with hcs
 subst hcs;simp only[if_true] at hmm;have hmx:cap≤9223372036854775807:=by have:=hm;unfold maxLen at this;omega
 have h2:Tryz.prog.cellsOf 46=2:=by kernel_rfl
 have each:∀ i,i < len→∃ x:ByteArray×ByteArray,W.cell? (a.add (i * 2))=some (.string x.1)∧W.cell? (a.add (i * 2+1))=some (.string x.2):=by
  intro i hil;obtain ⟨cs,hc,ht⟩:=hi i bA;rw[h2] at hc;obtain ⟨_,hcl,hat⟩:=World.cells?_some hc;obtain ⟨y0,y1,n3,_,_,h0,h1⟩:=trod_struct2 Tryz.underlying46 ht
  match cs,hcl with
  | [c0,c1],_ =>
   have e0:DataW.trod enc Tryz.prog W 0 (fun _=>true) true n3 9 [c0]=some y0:=h0;have e1:DataW.trod enc Tryz.prog W 0 (fun _=>true) true n3 9 [c1]=some y1:=h1;obtain ⟨s0,hs0,_⟩:=DataW.trod_string Tryz.underlying9 e0;obtain ⟨s1,hs1,_⟩:=DataW.trod_string Tryz.underlying9 e1;injection hs0 with hs0
   injection hs1 with hs1
   subst hs0 hs1;have a0:=hat 0 bA;have a1:=hat 1 bA;rw[Go.Deep.add_add] at a0 a1;exact ⟨(s0,s1),a0,a1⟩
 obtain ⟨f,hf⟩:=choose_lt each;have hlen:((List.range len).map f).length=len:=by simp
 refine ⟨(List.range len).map f,⟨some a,cap,by rw[hlen],by rw[hlen];exact hl,fun hp=>?_⟩,by rw[hlen];omega⟩;rw[hlen] at hp;have hsp:a.spot=none:=aAs (show W.cell? a=_ by have:=(hf 0 hp).1;rwa[show a.add (0 * 2)=a by simp[Addr.add]] at this);refine ⟨a.block,a.off,by cases a;simp only at hsp;subst hsp;rfl,Nat.zero_le _,fun j hj=>?_⟩;have hj2:j < len:=by rw[hlen] at hj;exact hj
 obtain ⟨g1,g2⟩:=hf j hj2;rw[aBg hsp] at g1 g2;rw[g1,g2]
 simp
theorem open_site {r:Reach} {base:Nat} {v:Value} {d:DataW H} {p:List MemPlace} (hv:Value.okWide Tryz.prog W r base 25 v) (h:DataW.Trod enc Tryz.prog W 0 (fun _=>true) true 25 v d p) :
 ∃ st vl vd vf vc,v = .agg #[vl,vd,vf,vc]∧lW W st vl vd vf vc:=by
 obtain ⟨v0,v1,v2,v3,y0,y1,y2,y3,n,rfl,_,_,h0,h1,h2,h3⟩:=open_agg4 Tryz.underlying25 bB bB hv h;obtain ⟨l0,s0,z0⟩:=open_strs h0;obtain ⟨l1,s1,z1⟩:=open_strs h1;obtain ⟨l2,s2,z2⟩:=aFq h2;obtain ⟨l3,s3,z3⟩:=open_strs h3;exact ⟨⟨l0,l1,l2,l3⟩,v0,v1,v2,v3,rfl,⟨⟨s0,s1,s2,s3⟩,z0,z1,z2,z3⟩⟩
end
end Go.Proofs.YtcdgldnphhidlaaGreatDoor.SiteRow
namespace Go.Proofs.YtcdgldnphhidlaaGreatDoor.Path
open Go.RowKit Go.WideMaps Go.ZW.PrintWords Go.Proofs.YtcdgldnphhidlaaGreatDoor.Base Go.Proofs.YtcdgldnphhidlaaGreatDoor.Lower Go.Proofs.YtcdgldnphhidlaaGreatDoor.Total Go.Proofs.YtcdgldnphhidlaaGreatDoor.PCore
theorem rE {P:Program} {fn:Func} {tmps:Array Value} {a u:Nat} {t:TypeId} {v:Value} {w:World} {x:Addr} (hf:fn.results = #[.cell a t,.tmp u]) (ha:tmps.getD a undef = .pointer (some x)) (hl:(loadVar t x).run P w = .ok v w) :
 (results fn tmps).run P w = .ok (.tuple #[v,tmps.getD u undef]) w:=by
 unfold results;rw[hf];have ha' : tmps[a]?.getD undef = .pointer (some x):=by simpa using ha
 simp[Sem.run_bind,ha',hl,asAddr]
theorem nN {ops:Array Oper} {rest:List Oper} {op:Oper} {a:Act} {w:World} {Q:Exit→Act→World→Prop} (hgd:op.guard=none) (x y:Operand) (ho:op.op = .store 35 x y) (b:Nat) (C:Array Value)
 (hx:a.eval x = .pointer (some ⟨b,0,none⟩)) (hy:a.eval y = .agg C) {cs:List Value} (hR:Row w b cs) (hcs:cs.length=31) (hC:C.size=31) (hone:C.all (·.oneCell')=true) (h:wpList Tryz.prog ops Q rest (a.put op.dst undef) (w.setCells b 0 C.toList)) :
 wpList Tryz.prog ops Q (op::rest) a w:=by
 have ht:w.there b 0 31:=hcs▸hR.there;exact wpList_store_mid hgd 35 x y ho b 0 C hx hy (by rw[hC];exact ht) (by rw[hC];kernel_rfl) hone h
theorem tE {w:World} {b:Nat} {C:Array Value} {cs:List Value} (hR:Row w b cs) (hcs:cs.length=31) (hC:C.size=31):(loadVar 35 ⟨b,0,none⟩).run Tryz.prog (w.setCells b 0 C.toList) = .ok (.agg C) (w.setCells b 0 C.toList):=by
 have ht:w.there b 0 31:=hcs▸hR.there;have hl:C.toList.length=31:=by simpa using hC
 have hr:=World.rangeAt_setCells_same w b 0 C.toList (by rw[hl];exact ht);have hld:=run_loadVar_mid (P:=Tryz.prog) _ b 0 35 C.toList _ hr Tryz.underlying35 rfl (by rw[hl];kernel_rfl)
 simpa using hld
def aG3:ToldV:=⟨⟨#[]⟩,⟨#[]⟩,⟨#[]⟩,⟨#[]⟩,⟨#[]⟩,⟨#[]⟩,⟨#[]⟩,⟨#[]⟩,⟨#[]⟩,⟨#[]⟩,⟨#[]⟩,⟨#[]⟩,⟨#[]⟩,⟨#[]⟩,⟨#[]⟩,⟨#[]⟩,⟨#[]⟩,⟨#[]⟩,⟨#[]⟩,⟨#[]⟩,⟨#[]⟩,[],[],[],false,false,false,false,false,false,0⟩
open Go.RowKit Go.WideMaps Go.ZW.PrintWords Go.Proofs.YtcdgldnphhidlaaGreatDoor.Base Go.Proofs.YtcdgldnphhidlaaGreatDoor.Lower
theorem nM {w:World} {b:Nat} {C:Array Value} {cs:List Value} (hR:Row w b cs) (hcs:cs.length=31) (hC:C.size=31):∀ (j:Nat) (v:Value),C.toList[j]? = some v→(w.setCells b 0 C.toList).cell? ⟨b,j,none⟩=some v:=by
 have ht:w.there b 0 31:=hcs▸hR.there;have hl:C.toList.length=31:=by simpa using hC
 have hr:=World.rangeAt_setCells_same w b 0 C.toList (by rw[hl];exact ht);intro j v hv;have:=hr j v hv;rwa[Nat.zero_add] at this
theorem qD (w:World) (C:Array Value):Below w.heap.size w ((w.alloc (.cells fY.toArray 35)).setCells w.heap.size 0 C.toList) :=
 below_setCells (Nat.le_refl _) _ _ _ ((Below.refl _ _).alloc (Nat.le_refl _) _)
open Go.RowKit Go.ZW.PrintWords Go.Proofs.YtcdgldnphhidlaaGreatDoor.Base Go.Proofs.YtcdgldnphhidlaaGreatDoor.Total Go.Proofs.YtcdgldnphhidlaaGreatDoor.Lower Go.Proofs.YtcdgldnphhidlaaGreatDoor.PCore
structure yA (st:fD):Prop where
 l:st.langs.length≤4000000000
 d:st.dis.length≤4000000000
 f:st.fmts.length≤4000000000
 c:st.cont.length≤4000000000
 lz:∀ x∈st.langs,x.size≤4000000000
 dz:∀ x∈st.dis,x.size≤4000000000
 cz:∀ x∈st.cont,x.size≤4000000000
 fz:∀ x∈st.fmts,x.1.size≤4000000000∧x.2.size≤4000000000
theorem oK {l:List ByteArray} (h:fits2 l=true):l.length≤4000000000∧∀ x∈l,x.size≤4000000000:=by
 unfold fits2 MM at h;simp only[Bool.and_eq_true,decide_eq_true_eq,List.all_eq_true] at h;exact ⟨aQ,fun x hx=>by have:=h.2 x hx;omega⟩
theorem jQ {st:fD} (h:pY st=true):yA st:=by
 unfold pY Total.fits1 at h;simp only[Bool.and_eq_true] at h;obtain ⟨h1,h2,h3,h4⟩:=h;obtain ⟨a1,a2⟩:=oK h1;obtain ⟨b1,b2⟩:=oK h2;obtain ⟨d1,d2⟩:=oK h4;unfold fits3 MM at h3;simp only[Bool.and_eq_true,decide_eq_true_eq,List.all_eq_true] at h3;rw[List.length_map] at h3;refine ⟨a1,b1,aQ,d1,a2,b2,d2,fun x hx=>?_⟩;have:=h3.2 (mkF x) (List.mem_map_of_mem hx);exact ⟨by have:=this.1;simp only[mkF] at this;omega,by have:=this.2;simp only[mkF] at this;omega⟩
section
variable {w:World} {st:fD} {vl vd vf vc:Value}
theorem tX (S:lW w st vl vd vf vc) (comp s:ByteArray) {b1 b2:Bool} (hcs:∀ w',Below w.heap.size w w'→Calls Tryz.prog 16 #[.agg #[vl,vd,vf,vc],.string comp,.string s] w' fun e w''=>e = .returned (.bool b1)∧Below w'.heap.size w' w'')
 (hk2:b1=true→∀ w',Below w.heap.size w w'→Calls Tryz.prog 38 #[.agg #[vl,vd,vf,vc],.string comp,.string s] w' fun e w''=>e = .returned (.bool b2)∧Below w'.heap.size w' w'') (hok:b1=true→b2=true→jM st∧asc s∧s.size≤400) :
 Calls Tryz.prog 29 #[.agg #[vl,vd,vf,vc],.string comp,.string s] w fun e w' =>
  ∃ t l1 l2 l3 v1 v2 v3,e = .returned (.tuple #[iB t v1 v2 v3,.bool (b1 && b2)])∧(eT w' w.heap.size v1 l1∧eT w' w.heap.size v2 l2∧eT w' w.heap.size v3 l3) ∧
   ((b1 && b2)=true→t=gQ (fL (eI st) comp (norm s))∧l1=iT (fL (eI st) comp (norm s))∧l2=iV (fL (eI st) comp (norm s))∧l3=kB (fL (eI st) comp (norm s)))∧Below w.heap.size w w':=by
 have HSA:=cH S;have HCK:=cH hcs;have HOK:=cH hok;have HK2:=cH hk2;obtain ⟨Al,cl,rfl,_,_⟩:=S.l;obtain ⟨Ad,cd,rfl,_,_⟩:=S.d;obtain ⟨Af,cf,rfl,_,_⟩:=S.f;obtain ⟨Ac,cc,rfl,_,_⟩:=S.c;clear S hcs hok hk2;have hB1:Below w.heap.size w (w.alloc (.cells #[.slice Al st.langs.length cl,.slice Ad st.dis.length cd,.slice Af st.fmts.length cf,.slice Ac st.cont.length cc] 25)):=(Below.refl _ _).alloc (Nat.le_refl _) _;have hR1:=Row.new w [.slice Al st.langs.length cl,.slice Ad st.dis.length cd,.slice Af st.fmts.length cf,.slice Ac st.cont.length cc] 25;have hs1:w.heap.size < (w.alloc (.cells #[.slice Al st.langs.length cl,.slice Ad st.dis.length cd,.slice Af st.fmts.length cf,.slice Ac st.cont.length cc] 25)).heap.size:=by simp
 go_enter Tryz.func29,Tryz.ntmps29;go_upto_region 1 with fail
 obtain ⟨w1,hw1⟩:∃ w1,w.alloc (.cells #[.slice Al st.langs.length cl,.slice Ad st.dis.length cd,.slice Af st.fmts.length cf,.slice Ac st.cont.length cc] 25)=w1:=⟨_,rfl⟩
 have hz1:w1.heap.size=w.heap.size+1:=by rw[← hw1];simp
 rw[hw1] at hB1 hR1 hs1 ⊢;clear hw1;have hB2:Below w1.heap.size w1 (w1.alloc (.cells fY.toArray 35)):=(Below.refl _ _).alloc (Nat.le_refl _) _;have hR2:Row (w1.alloc (.cells fY.toArray 35)) w1.heap.size fY:=Row.new w1 fY _;rw[show fY.toArray=TZ from rfl] at hB2 hR2
 obtain ⟨w2,hw2⟩:∃ w2,w1.alloc (.cells TZ 35)=w2:=⟨_,rfl⟩
 rw[hw2] at hB2 hR2;change Code.wp _ _ _ _ (w1.alloc (.cells TZ 35));rw[hw2];clear hw2;rw[hz1] at hR2;have hB:Below w.heap.size w w2:=hB1.trans (hB2.mono bA);have hRs:=hR1.below hB2 hs1;have HRS:=cH hRs;have r0:=hRs.at 0 _ rfl;have r1:=hRs.at 1 _ rfl;have r2:=hRs.at 2 _ rfl;have r3:=hRs.at 3 _ rfl;have HB:=cH hB;have HR2:=cH hR2;have hlt2:w.heap.size+1 < w2.heap.size:=hR2.lt bH;have cs:=HCK.out w2 hB;clear hB1 hR1 hs1 hB2 hR2 hB hRs hz1;go_wp2_with fail
 refine cs.mono ?_;rintro e w3 ⟨rfl,hb3⟩;have HB3:=cH hb3;clear cs r0 r1 r2 r3;have hRs:=HRS.out.below hb3 bA;have r0:=hRs.at 0 _ rfl;have r1:=hRs.at 1 _ rfl;have r2:=hRs.at 2 _ rfl;have r3:=hRs.at 3 _ rfl;clear hb3 hRs;have HRr:=cH (HR2.out.below HB3.out hlt2);cases b1
 ·go_upto_region 2 with fail
  clear r0 r1 r2 r3
  go_wp2_with (first | (refine nN rfl _ _ rfl (w.heap.size+1) TZ rfl rfl HRr.out rfl rfl bB ?_) | fail)
  have hbel:Below w.heap.size w (w3.setCells (w.heap.size+1) 0 TZ.toList):=below_setCells (Nat.le_succ _) _ _ _ (HB.out.trans (HB3.out.mono HB.out.size));refine bodyPost_ret (rE Tryz.results29 rfl (tE HRr.out rfl rfl)) rfl ⟨aG3,[],[],[],.slice none 0 0,.slice none 0 0,.slice none 0 0,rfl,⟨eT.nil _ _ _ _,eT.nil _ _ _ _,eT.nil _ _ _ _⟩,(fun h=>by cases h),hbel⟩
 have cp:=HK2.out rfl w3 (HB.out.trans (HB3.out.mono HB.out.size));go_wp2_with fail
 refine cp.mono ?_;rintro e w4 ⟨rfl,hb4⟩;have HB4:=cH (eB HB3.out hb4);clear cp r0 r1 r2 r3;have hRs:=(HRS.out.below HB3.out bA).below hb4 (by have:=HB3.out.size;omega);have r0:=hRs.at 0 _ rfl;have r1:=hRs.at 1 _ rfl;have r2:=hRs.at 2 _ rfl;have r3:=hRs.at 3 _ rfl;clear hb4 hRs;have HRr:=cH (HR2.out.below HB4.out hlt2);cases b2
 ·go_upto_region 2 with fail
  clear r0 r1 r2 r3
  go_wp2_with (first | (refine nN rfl _ _ rfl (w.heap.size+1) TZ rfl rfl HRr.out rfl rfl bB ?_) | fail)
  have hbel:Below w.heap.size w (w4.setCells (w.heap.size+1) 0 TZ.toList):=below_setCells (Nat.le_succ _) _ _ _ (HB.out.trans (HB4.out.mono HB.out.size));refine bodyPost_ret (rE Tryz.results29 rfl (tE HRr.out rfl rfl)) rfl ⟨aG3,[],[],[],.slice none 0 0,.slice none 0 0,.slice none 0 0,rfl,⟨eT.nil _ _ _ _,eT.nil _ _ _ _,eT.nil _ _ _ _⟩,(fun h=>by cases h),hbel⟩
 have hok:=HOK.out bL bL;have cP:=yL (HSA.out.toSiteIn.below (HB.out.trans (HB4.out.mono HB.out.size))) hok.1 comp s bA hok.2.1;clear hok;go_wp2_with fail
 refine cP.mono ?_;rintro e w5 ⟨v1,v2,v3,rfl,hT,hb5⟩;have HB5:=cH (eB HB4.out hb5);have hz4:w.heap.size+1 < w4.heap.size:=Nat.lt_of_lt_of_le hlt2 HB4.out.size;have HT:=cH hT;obtain ⟨A1,c1,e1,_⟩:=HT.out.1;obtain ⟨A2,c2,e2,_⟩:=HT.out.2.1;obtain ⟨A3,c3,e3,_⟩:=HT.out.2.2;have HR5:=cH (HRr.out.below hb5 hz4);clear cP hb5 r0 r1 r2 r3 hT HRr
 obtain ⟨C,hC⟩:∃ C:Array Value,oY (gQ (fL (eI st) comp (norm s))) v1 v2 v3=C:=⟨_,rfl⟩
 have hval:iB (gQ (fL (eI st) comp (norm s))) v1 v2 v3 = .agg C:=by rw[← hC];rfl
 have hCs:C.size=31:=by rw[← hC];rfl
 have hone:C.all (·.oneCell')=true:=by rw[← hC,e1,e2,e3];exact mF _ _ _ _ _ _ _ _ _ _
 have HV:=cH hval;have HCS:=cH hCs;have HON:=cH hone;rw[hval];clear hval e1 e2 e3 hC hCs hone
 go_wp2_with (first | (refine nN rfl _ _ rfl (w.heap.size+1) C rfl rfl HR5.out rfl HCS.out HON.out ?_) | fail)
 have hbel:Below w.heap.size w (w5.setCells (w.heap.size+1) 0 C.toList):=below_setCells (Nat.le_succ _) _ _ _ (HB.out.trans (HB5.out.mono HB.out.size));have hfar:∀ k,w4.heap.size≤k→(w5.setCells (w.heap.size+1) 0 C.toList).heap[k]? = w5.heap[k]?:=fun k hk=>hZ _ _ k bA;have s1:=HT.out.1.far fun k hk _=>hfar k hk;have s2:=HT.out.2.1.far fun k hk _=>hfar k hk;have s3:=HT.out.2.2.far fun k hk _=>hfar k hk;have hzw:w.heap.size≤w4.heap.size:=by omega
 refine bodyPost_ret (rE Tryz.results29 rfl (tE HR5.out rfl HCS.out)) rfl ⟨_,_,_,_,v1,v2,v3,?_,⟨s1.mono hzw,s2.mono hzw,s3.mono hzw⟩,fun _=>⟨rfl,rfl,rfl,rfl⟩,hbel⟩;rw[HV.out];rfl
theorem aF1 {a b:List ByteArray} {c:List S46} {d:List ByteArray} (K:tP a b c d):wt3 c≤1000:=by
 have h1:=K.lc
 have h2:∀ l:List S46,(∀ x∈l,lQ x.f0∧lQ x.f1)→wt3 l≤l.length * 41:=by
  intro l
  induction l with
  | nil=>intro _;simp[wt3]
  | cons x r ih =>
   intro h;have:=ih (fun y hy=>h y (List.mem_cons_of_mem _ hy));have h3:=(h x List.mem_cons_self).1.most;have h4:=(h x List.mem_cons_self).2.most;simp only[wt3,List.map_cons,List.sum_cons,List.length_cons] at *;omega
 have:=h2 c K.fmts;omega
theorem aGu (a b:List ByteArray) (c:List S46) (d:List ByteArray) (x y:ByteArray) (h:Total.fits1 a b c d=true) (hxy:x.size+y.size≤4611686018427387904) :
 PEv (fun r=>r=true→yY a b c d x y=true∨¬ tP a b c d) (fun k=>gJ.f k a b c d x y):=by
 by_cases hb:x.size+y.size+wt3 c≤9223372036854775807
 ·exact ⟨_,aBu a b c d x y h hb,fun e=>.inl e⟩
 have hn:¬ tP a b c d:=fun K=>by have:=aF1 K;omega
 have hh:=h;unfold Total.fits1 at hh;simp only[Bool.and_eq_true] at hh;obtain ⟨ha,hb',hc,hd⟩:=hh
 have hl:c.length≤MM:=by
  unfold fits3 at hc;simp only[Bool.and_eq_true,decide_eq_true_eq] at hc;exact hc.1
 unfold MM at hl
 have main:∀ (n j:Nat) (z:Int),c.length - j=n→j≤c.length→PEv (fun _=>True) (fun k=>gJ.l0 k z c (c.length:Int) (j:Int) a b c d):=by
  have fin:∀ z:Int,PEv (fun _=>True) (fun k=>if z≤2000 then ((gF.f k a).bind fun t=>(if t=true then ((gF.f k b).bind fun t=>(if t=true then ((gF.f k d).bind fun t=>(some t)) else (some false))) else (some false))) else (some false)):=by
   intro z;refine PEv.ite (fun _=>?_) (fun _=>PEv.now trivial);refine PEv.bind (P:=fun _=>True) ⟨_,rZ a ha,trivial⟩ (fun _ _=>?_);refine PEv.ite (fun _=>?_) (fun _=>PEv.now trivial);refine PEv.bind (P:=fun _=>True) ⟨_,rZ b hb',trivial⟩ (fun _ _=>?_);refine PEv.ite (fun _=>?_) (fun _=>PEv.now trivial);exact PEv.bind (P:=fun _=>True) ⟨_,rZ d hd,trivial⟩ (fun _ _=>PEv.now trivial)
  intro n
  induction n with
  | zero =>
   intro j z h1 h2;refine PEv.succ ?_;simp only[gJ.l0];exact PEv.ite (fun h=>absurd h bA) (fun _=>fin z)
  | succ n ih =>
   intro j z h1 h2;have hj:j < c.length:=by omega
   refine PEv.succ ?_;simp only[gJ.l0];refine PEv.ite (fun _=>?_) (fun h=>absurd bA h);refine PEv.ite (fun _=>?_) (fun h=>absurd bA h);refine PEv.ite (fun _=>?_) (fun h=>absurd bA h);rw[w64 (n:=(j:Int)+1) bA bA];exact ih (j+1) _ bA bA
 obtain ⟨r,hr,_⟩:=main c.length 0 (wrap64 ((x.size:Int)+(y.size:Int))) bA bA;exact ⟨r,Ev.congr (fun k=>by unfold gJ.f;rfl) hr,fun _=>.inr hn⟩
theorem tW (S:lW w st vl vd vf vc) (hf:pY st=true) (comp s:ByteArray) (hcs:comp.size+s.size≤4611686018427387904) :
 ∃ ok:Bool,(ok=true→jM st∧asc s∧asc comp∧s.size≤400∧comp.size≤2000∧nZ st comp s) ∧
 ∀ W,Below w.heap.size w W→Calls Tryz.prog 29 #[.agg #[vl,vd,vf,vc],.string comp,.string s] W fun e w' =>
  ∃ t l1 l2 l3 v1 v2 v3,e = .returned (.tuple #[iB t v1 v2 v3,.bool ok])∧(eT w' W.heap.size v1 l1∧eT w' W.heap.size v2 l2∧eT w' W.heap.size v3 l3) ∧
   (ok=true→t=gQ (fL (eI st) comp (norm s))∧l1=iT (fL (eI st) comp (norm s))∧l2=iV (fL (eI st) comp (norm s))∧l3=kB (fL (eI st) comp (norm s)))∧Below W.heap.size W w':=by
 have hfs:Total.fits1 st.langs st.dis (st.fmts.map mkF) st.cont=true:=hf;obtain ⟨b1,hr,hp⟩:=aGu st.langs st.dis (st.fmts.map mkF) st.cont comp s hfs hcs;obtain ⟨k,hk⟩:=hr.rounds
 have cs:∀ w',Below w.heap.size w w'→Calls Tryz.prog 16 #[.agg #[vl,vd,vf,vc],.string comp,.string s] w' fun e w''=>e = .returned (.bool b1)∧Below w'.heap.size w' w'':=by
  intro w' hb;have S':=S.below hb;obtain ⟨A0,c0,rfl,h0,r0⟩:=S'.l.kd S.ll;obtain ⟨A1,c1,rfl,h1,r1⟩:=S'.d.kd S.dl;obtain ⟨A2,c2,rfl,h2,r2⟩:=S'.f.kd S.fl;obtain ⟨A3,c3,rfl,h3,r3⟩:=S'.c.kd S.cl;exact gJ.calls k A0 c0 _ A1 c1 _ A2 c2 _ A3 c3 _ comp s _ w' r0 h0 r1 h1 r2 h2 r3 h3 hk
 cases b1 with
 | false=>exact ⟨false && false,fun h=>(by cases h),fun W hW=>tX (S.below hW) comp s (fun w' hb=>cs w' (hW.trans (hb.mono hW.size))) (fun h=>(by cases h)) (fun h=>(by cases h))⟩
 | true =>
  rcases hp rfl with h1 | h1
  ·obtain ⟨r,h2,h3⟩:=yT S comp s h1;have h4:=aCm h1
   exact ⟨true && r,fun h=>by
    have h5:=h2 (by simpa using h)
    exact ⟨h4.1,h5.1,h5.2.1,h5.2.2.1,h4.2.1,h5.2.2.2⟩,fun W hW=>tX (S.below hW) comp s (fun w' hb=>cs w' (hW.trans (hb.mono hW.size))) (fun _ w' hb=>h3 w' (hW.trans (hb.mono hW.size))) (fun _ e=>⟨h4.1,(h2 e).1,(h2 e).2.2.1⟩)⟩
  have W:=jQ hf;have lf:(st.fmts.map mkF).length≤4000000000:=by rw[List.length_map];exact W.f
  obtain ⟨r,hr2,e⟩:=aCb st.langs st.dis (st.fmts.map mkF) st.cont comp s W.l W.d lf W.c W.lz W.dz (fun x hx=>by
   obtain ⟨y,hy,rfl⟩:=List.mem_map.1 hx
   exact W.fz y hy) W.cz h1
  subst e;obtain ⟨k2,hk2⟩:=hr2.rounds;refine ⟨true && false,fun h=>(by cases h),fun W hW=>tX (S.below hW) comp s (fun w' hb=>cs w' (hW.trans (hb.mono hW.size))) (fun _ w' hb0=>?_) (fun _ h=>(by cases h))⟩;have hb:=hW.trans (hb0.mono hW.size);have S':=S.below hb;obtain ⟨A0,c0,rfl,g0,r0⟩:=S'.l.kd S.ll;obtain ⟨A1,c1,rfl,g1,r1⟩:=S'.d.kd S.dl;obtain ⟨A2,c2,rfl,g2,r2⟩:=S'.f.kd S.fl;obtain ⟨A3,c3,rfl,g3,r3⟩:=S'.c.kd S.cl;exact hU.calls k2 A0 c0 _ A1 c1 _ A2 c2 _ A3 c3 _ comp s _ w' r0 g0 r1 g1 r2 g2 r3 g3 hk2
theorem pD (S:lW w st vl vd vf vc) (hf:pY st=true) (comp s:ByteArray) (hcs:comp.size+s.size≤4611686018427387904) :
 ∃ ok:Bool,(ok=true→jM st∧asc s∧asc comp∧s.size≤400∧comp.size≤2000∧nZ st comp s) ∧
 Calls Tryz.prog 29 #[.agg #[vl,vd,vf,vc],.string comp,.string s] w fun e w' =>
  ∃ t l1 l2 l3 v1 v2 v3,e = .returned (.tuple #[iB t v1 v2 v3,.bool ok])∧(eT w' w.heap.size v1 l1∧eT w' w.heap.size v2 l2∧eT w' w.heap.size v3 l3) ∧
   (ok=true→t=gQ (fL (eI st) comp (norm s))∧l1=iT (fL (eI st) comp (norm s))∧l2=iV (fL (eI st) comp (norm s))∧l3=kB (fL (eI st) comp (norm s)))∧Below w.heap.size w w':=by
 obtain ⟨ok,h,c⟩:=tW S hf comp s hcs;exact ⟨ok,h,c w (Below.refl _ _)⟩
end
open Go.RowKit Go.ZW.PrintWords Go.Proofs.YtcdgldnphhidlaaGreatDoor.Base Go.Proofs.YtcdgldnphhidlaaGreatDoor.Total Go.Proofs.YtcdgldnphhidlaaGreatDoor.Ext Go.Proofs.YtcdgldnphhidlaaGreatDoor.Lower Go.Proofs.YtcdgldnphhidlaaGreatDoor.PCore
def sO (j:Nat) (c:UInt8):Prop:=(97≤c.toNat∧c.toNat≤122)∨(j≠0∧((48≤c.toNat∧c.toNat≤57)∨c.toNat=45))
instance (j:Nat) (c:UInt8):Decidable (sO j c):=by unfold sO;exact inferInstance
theorem aDr (s:ByteArray) (hs:s.size≤4000000000):∀ (n j:Nat),s.size - j=n→j≤s.size→(∀ (i:Nat) (h:i < (L s).length),i < j→sO i (L s)[i])→PEv (fun r=>r=true→gK s) (fun k=>fF.l0 k s (j:Int)):=by
 have hl:=eK s;intro n
 induction n with
 | zero =>
  intro j h1 h2 h3;refine PEv.succ ?_;simp only[fF.l0];refine PEv.ite (fun h=>absurd h bA) (fun _=>?_);refine PEv.ite (fun _=>PEv.now (fun h=>by cases h)) (fun c1=>?_);refine PEv.ite (fun _=>PEv.now (fun h=>by cases h)) (fun c2=>?_);refine PEv.ite (fun _=>PEv.now (fun h=>by cases h)) (fun c3=>?_);rw[aC7 s hs,Option.bind_some];refine PEv.now (fun h=>?_);have hk:isKind s=false:=by simpa using h
  have hne:L s≠[]:=by rw[← L_toList];exact c1
  refine ⟨hne,fun c hc=>?_,fun c hc=>?_,by rw[← L_toList];exact c2,c3,hk⟩
  ·obtain ⟨i,hi,rfl⟩:=List.mem_iff_getElem.1 hc;have:=h3 i hi bA;unfold sO at this;unfold iW;omega
  rw[List.head?_eq_getElem?] at hc;obtain ⟨hi,hx⟩:=List.getElem?_eq_some_iff.1 hc;have:=h3 0 hi bA;rw[hx] at this;unfold sO at this;omega
 | succ n ih =>
  intro j h1 h2 h3;have hj:j < (L s).length:=by omega
  have hb:=tF s j hj
  by_cases hC:sO j (L s)[j]
  ·have hrec:=ih (j+1) bA bA (fun i hi hij=>by
    rcases Nat.lt_or_ge i j with h | h
    ·exact h3 i hi h
    obtain rfl:i=j:=by omega
    exact hC)
   refine PEv.succ ?_
   have e:(fun k=>fF.l0 (k+1) s (j:Int))=fun k=>fF.l0 k s ((j+1:Nat):Int):=by
    funext k
    simp only[fF.l0];rw[if_pos bA,if_pos bA,hb,w64 bA bA];unfold sO at hC
    repeat' split
    all_goals first | rfl | (exfalso;omega)
   rw[e];exact hrec
  refine PEv.succ ?_
  have e:(fun k=>fF.l0 (k+1) s (j:Int))=fun _=>some false:=by
   funext k
   simp only[fF.l0];rw[if_pos bA,if_pos bA,hb,w64 bA bA];unfold sO at hC
   repeat' split
   all_goals first | rfl | (exfalso;omega)
  rw[e];exact PEv.now (fun h=>by cases h)
theorem sJ (s:ByteArray) (hs:s.size≤4000000000):PEv (fun r=>r=true→gK s) (fun k=>fF.f k s) :=
 aDr s hs s.size 0 bA bA (fun i _ h=>by omega)
theorem aCq (l:List ByteArray) (hf:fits2 l=true) (hz:∀ x∈l,x.size≤4000000000):∀ (n j:Nat),l.length - j=n→j≤l.length→(∀ (i:Nat) (h:i < l.length),i < j→gK l[i])→PEv (fun r=>r=true→(∀ x∈l,gK x)∧fewB l=true) (fun k=>gT.l0 k l l (l.length:Int) (j:Int)):=by
 have hl:l.length≤MM:=by
  unfold fits2 at hf;simp only[Bool.and_eq_true,decide_eq_true_eq] at hf;exact hf.1
 unfold MM at hl;intro n
 induction n with
 | zero =>
  intro j h1 h2 h3;refine PEv.succ ?_;simp only[gT.l0];refine PEv.ite (fun h=>absurd h bA) (fun _=>?_);refine PEv.bind (P:=fun r=>r=fewB l) ⟨_,rZ l hf,rfl⟩ (fun r hr=>?_);refine PEv.now (fun h=>⟨fun x hx=>?_,by rw[← hr];exact h⟩);obtain ⟨i,hi,rfl⟩:=List.mem_iff_getElem.1 hx;exact h3 i hi bA
 | succ n ih =>
  intro j h1 h2 h3;have hj:j < l.length:=by omega
  refine PEv.succ ?_;simp only[gT.l0];refine PEv.ite (fun _=>?_) (fun h=>absurd bA h);refine PEv.ite (fun _=>?_) (fun h=>absurd bA h);refine PEv.ite (fun _=>?_) (fun h=>absurd bA h);simp only[lY _ _ _ hj,w64 (n:=(j:Int)+1) bA bA];refine PEv.bind (sJ l[j] (hz _ (List.getElem_mem hj))) (fun r hr=>?_);refine PEv.ite (fun h=>?_) (fun _=>PEv.now (fun h=>by cases h));refine ih (j+1) bA bA (fun i hi hij=>?_);rcases Nat.lt_or_ge i j with h' | h'
  ·exact h3 i hi h'
  obtain rfl:i=j:=by omega
  exact hr h
theorem aFu (l:List ByteArray) (hf:fits2 l=true) (hz:∀ x∈l,x.size≤4000000000):PEv (fun r=>r=true→(∀ x∈l,gK x)∧fewB l=true) (fun k=>gT.f k l) :=
 aCq l hf hz l.length 0 bA bA (fun i _ h=>by omega)
theorem aBz (l:List ByteArray):(gD l).length=l.length+wt l:=by
 induction l with
 | nil=>rfl
 | cons d ds ih =>
  rw[qQ,List.length_append,ih];simp only[List.length_cons,wt,List.map_cons,List.sum_cons];rw[eK];omega
theorem nT (l:List ByteArray):(gU l).size=l.length+wt l:=by rw[← eK,jL,aBz]
theorem aAv (a b:List ByteArray):wt (a++b)=wt a+wt b:=by unfold wt;rw[List.map_append,List.sum_append]
theorem aBy (a:List ByteArray) (d:ByteArray):gU (a++[d])=gU a++((⟨#[47]⟩:ByteArray)++d):=by
 refine L_inj ?_;rw[jL,iP,iP,jL,yK,qQ];show _=gD a++([47]++L d)
 simp[gD]
theorem aBs (l:List ByteArray) (hl:l.length+wt l≤4000000000):∀ (n j:Nat),l.length - j=n→j≤l.length→Ev (fun k=>gR.l0 k (gU (l.take j)) l (l.length:Int) (j:Int)) (gU l):=by
 intro n
 induction n with
 | zero =>
  intro j h1 h2;rw[List.take_of_length_le bA];refine Ev.step (f:=fun _=>some (gU l)) (fun k=>?_) (Ev.now _);simp only[gR.l0];rw[if_neg bA]
 | succ n ih =>
  intro j h1 h2;have hj:j < l.length:=by omega
  have e1:l.take (j+1)=l.take j++[l[j]]:=List.take_succ_eq_append_getElem hj
  have hw:wt (l.take j)+l[j].size≤wt l:=by
   have h9:wt l=wt (l.take (j+1))+wt (l.drop (j+1)):=by rw[← aAv,List.take_append_drop]
   rw[h9,e1,aAv];have:wt [l[j]]=l[j].size:=by unfold wt;simp
   omega
  have hb:=nT (l.take j);rw[List.length_take] at hb;have hz:((⟨#[47]⟩:ByteArray)++l[j]).size=1+l[j].size:=by rw[size_append];rfl
  refine Ev.step (fun k=>?_) (ih (j+1) bA bA);simp only[gR.l0];rw[if_pos bA,if_pos bA,if_pos bA,lY _ _ _ hj,if_pos bA,if_pos (by rw[hz];omega),w64 bA bA,e1,aBy];rfl
theorem aAe (l:List ByteArray) (hl:l.length+wt l≤4000000000):Ev (fun k=>gR.f k l) (gU l):=aBs l hl l.length 0 bA bA
theorem aFw (a b:List ByteArray) (c:List S46) (d:List ByteArray) (n:Int) (hz:∀ x∈a,x.size≤4000000000):PEv (fun r=>r=⟨#[]⟩∨(gK r∧listed a r=true)) (fun k=>lJ.f k a b c d n):=by
 unfold lJ.f;refine PEv.ite (fun _=>PEv.now (.inl rfl)) (fun h1=>?_);refine PEv.ite (fun _=>PEv.now (.inl rfl)) (fun h2=>?_)
 obtain ⟨i,rfl⟩:∃ i:Nat,n=(i:Int):=⟨n.toNat,aQ⟩
 have hi:i < a.length:=by omega
 refine PEv.ite (fun _=>?_) (fun h=>absurd bA h);refine PEv.ite (fun _=>?_) (fun h=>absurd bA h);simp only[lY _ _ _ hi];refine PEv.bind (sJ a[i] (hz _ (List.getElem_mem hi))) (fun r hr=>?_);refine PEv.ite (fun h=>PEv.now (.inr ⟨hr h,tY a a[i] i hi (beq_self_eq_true _)⟩)) (fun _=>PEv.now (.inl rfl))
theorem aE1 (a b:List ByteArray) (c:List S46) (d:List ByteArray) (n:Int) (hz:∀ x∈d,x.size≤4000000000):PEv (fun r=>r=⟨#[]⟩∨(gK r∧listed d r=true)) (fun k=>kW.f k a b c d n):=by
 unfold kW.f;refine PEv.ite (fun _=>PEv.now (.inl rfl)) (fun h1=>?_);refine PEv.ite (fun _=>PEv.now (.inl rfl)) (fun h2=>?_)
 obtain ⟨i,rfl⟩:∃ i:Nat,n=(i:Int):=⟨n.toNat,aQ⟩
 have hi:i < d.length:=by omega
 refine PEv.ite (fun _=>?_) (fun h=>absurd bA h);refine PEv.ite (fun _=>?_) (fun h=>absurd bA h);simp only[lY _ _ _ hi];refine PEv.bind (sJ d[i] (hz _ (List.getElem_mem hi))) (fun r hr=>?_);refine PEv.ite (fun h=>PEv.now (.inr ⟨hr h,tY d d[i] i hi (beq_self_eq_true _)⟩)) (fun _=>PEv.now (.inl rfl))
theorem aAf (l:List ByteArray) (s:ByteArray) (hl:l.length≤9223372036854775807):Ev (fun k=>fU.f k l s) (listed l s) :=
 Ev.congr (g:=fun k=>fU.f k l s) (fun k=>rfl) (vD l s hl l.length 0 bA bA)
def qB (st:fD) (s:ByteArray):Bool:=iE st s || (listed st.langs s || listed st.dis s)
theorem aBt (st:fD) (s:ByteArray) (h1:st.fmts.length≤4000000000) (h2:st.langs.length≤4000000000) (h3:st.dis.length≤4000000000):Ev (fun k=>gI.f k st.langs st.dis (st.fmts.map mkF) st.cont s) (qB st s):=by
 have e:iE st s=((st.fmts.map mkF).drop 0).any fun x=>x.f0.toList==s.toList:=by unfold iE;rw[List.drop_zero,List.any_map];rfl
 have hl' : (st.fmts.map mkF).length≤4000000000:=by rw[List.length_map];exact h1
 unfold qB;rw[e];show Ev (fun k=>gI.l0 k s (st.fmts.map mkF) ((st.fmts.map mkF).length:Int) ((0:Nat):Int) st.langs st.dis (st.fmts.map mkF) st.cont) _;generalize st.fmts.map mkF=l at hl'
 have main:∀ (n j:Nat),l.length - j=n→j≤l.length→Ev (fun k=>gI.l0 k s l (l.length:Int) (j:Int) st.langs st.dis l st.cont) (((l.drop j).any fun x=>x.f0.toList==s.toList) || (listed st.langs s || listed st.dis s)):=by
  intro n
  induction n with
  | zero =>
   intro j a1 a2;rw[List.drop_of_length_le bA,List.any_nil,Bool.false_or];refine Ev.step (f:=fun k=>(fU.f k st.langs s).bind fun t197=>(if t197=true then (some true) else ((fU.f k st.dis s).bind fun t198=>(some t198)))) (fun k=>?_) ?_
   ·simp only[gI.l0];rw[if_neg bA]
   refine Ev.bind (aAf st.langs s bA) ?_;cases listed st.langs s
   ·simp only[Bool.false_or];exact Ev.bind (aAf st.dis s bA) (Ev.now _)
   exact Ev.now _
  | succ n ih =>
   intro j a1 a2;have hj:j < l.length:=by omega
   rw[List.drop_eq_getElem_cons hj,List.any_cons]
   cases c:(l[j].f0.toList==s.toList) with
   | true =>
    rw[Bool.true_or,Bool.true_or];refine Ev.step (f:=fun _=>some true) (fun k=>?_) (Ev.now _);simp only[gI.l0];rw[if_pos bA,if_pos bA,if_pos bA,qI _ _ hj,if_pos (beq_iff_eq.1 c)]
   | false =>
    rw[Bool.false_or];refine Ev.step (fun k=>?_) (ih (j+1) bA bA);simp only[gI.l0];rw[if_pos bA,if_pos bA,if_pos bA,qI _ _ hj,if_neg (by simpa using c),w64 bA bA];rfl
 exact main l.length 0 bA bA
section
variable {w:World}
theorem oE {v:Value} {l:List ByteArray} (H:eT w 0 v l) (hl:l.length≤9223372036854775807):Calls Tryz.prog 23 #[v] w fun e w'=>e = .returned (.bool (fits2 l))∧Below w.heap.size w w':=by
 obtain ⟨k,hk⟩:=(Total.ev_fits2 l).rounds;obtain ⟨A0,c0,rfl,h0,r0⟩:=H.kd hl
 exact (fG.calls k A0 c0 l _ w r0 h0 hk).mono fun _ _ ⟨h1,h2⟩=>⟨h1,dQ⟩
theorem aHb {v:Value} {l:List ByteArray} (H:eT w 0 v l) (hl:l.length≤1000000):Calls Tryz.prog 30 #[v] w fun e w'=>e = .returned (.string (l.head?.getD ⟨#[]⟩))∧∃ m,w'=w.drewN m:=by
 obtain ⟨A0,c0,rfl,h0,r0⟩:=H.kd bA
 have hk:mQ.f l=some (l.head?.getD ⟨#[]⟩):=by
  unfold mQ.f
  cases l with
  | nil=>rfl
  | cons a r =>
   have h9:(a::r).length=r.length+1:=rfl;rw[if_neg bA,if_pos bA];rfl
 exact (mQ.calls A0 c0 l _ w r0 h0 hk).mono fun _ _ ⟨h1,h2⟩=>⟨h1,h2.out⟩
theorem nQ (s:ByteArray) (hs:s.size≤4000000000):∃ r,(r=true→gK s)∧∀ w,Calls Tryz.prog 33 #[.string s] w fun e w'=>e = .returned (.bool r)∧Below w.heap.size w w':=by
 obtain ⟨r,hr,hp⟩:=sJ s hs;obtain ⟨k,hk⟩:=hr.rounds;exact ⟨r,hp,fun w=>(fF.calls k s r w hk).mono fun _ _ ⟨h1,h2⟩=>⟨h1,dQ⟩⟩
theorem oM {v:Value} {l:List ByteArray} (H:eT w 0 v l) (hf:fits2 l=true) (hz:∀ x∈l,x.size≤4000000000):∃ r,(r=true→(∀ x∈l,gK x)∧fewB l=true)∧Calls Tryz.prog 26 #[v] w fun e w'=>e = .returned (.bool r)∧Below w.heap.size w w':=by
 obtain ⟨r,hr,hp⟩:=aFu l hf hz;obtain ⟨k,hk⟩:=hr.rounds
 have hl:l.length≤MM:=by
  unfold fits2 at hf;simp only[Bool.and_eq_true,decide_eq_true_eq] at hf;exact hf.1
 unfold MM at hl;obtain ⟨A0,c0,rfl,h0,r0⟩:=H.kd bA;exact ⟨r,hp,(gT.calls k A0 c0 l r w r0 h0 hk).mono fun _ _ ⟨h1,h2⟩=>⟨h1,dQ⟩⟩
theorem mV {v:Value} {l:List ByteArray} (H:eT w 0 v l) (hl:l.length+wt l≤4000000000):Calls Tryz.prog 28 #[v] w fun e w'=>e = .returned (.string (gU l))∧Below w.heap.size w w':=by
 obtain ⟨k,hk⟩:=(aAe l hl).rounds;obtain ⟨A0,c0,rfl,h0,r0⟩:=H.kd bA
 exact (gR.calls k A0 c0 l _ w r0 h0 hk).mono fun _ _ ⟨h1,h2⟩=>⟨h1,dQ⟩
theorem uL {v:Value} {l:List ByteArray} (H:eT w 0 v l) (hl:l.length≤4000000000):Calls Tryz.prog 30 #[v] w fun e w'=>e = .returned (.string (l.head?.getD ⟨#[]⟩))∧Below w.heap.size w w':=by
 obtain ⟨A0,c0,rfl,h0,r0⟩:=H.kd bA
 have hk:mQ.f l=some (l.head?.getD ⟨#[]⟩):=by
  unfold mQ.f
  cases l with
  | nil=>rfl
  | cons a r =>
   have h9:(a::r).length=r.length+1:=rfl;rw[if_neg bA,if_pos bA];rfl
 exact (mQ.calls A0 c0 l _ w r0 h0 hk).mono fun _ _ ⟨h1,h2⟩=>⟨h1,dQ⟩
variable {st:fD} {vl vd vf vc:Value}
theorem vZ (S:pI w st vl vd vf vc) (O:yA st) (n:Int):∃ r,(r=⟨#[]⟩∨(gK r∧listed st.langs r=true))∧∀ w',Below w.heap.size w w'→Calls Tryz.prog 24 #[.agg #[vl,vd,vf,vc],.int .i64 n] w' fun e w''=>e = .returned (.string r)∧Below w'.heap.size w' w'':=by
 obtain ⟨r,hr,hp⟩:=aFw st.langs st.dis (st.fmts.map mkF) st.cont n O.lz;obtain ⟨k,hk⟩:=hr.rounds;refine ⟨r,hp,fun w' hb=>?_⟩;have:=O.l;have:=O.d;have:=O.f;have:=O.c;obtain ⟨A0,c0,rfl,g0,r0⟩:=(S.l.below hb).kd bA;obtain ⟨A1,c1,rfl,g1,r1⟩:=(S.d.below hb).kd bA;obtain ⟨A2,c2,rfl,g2,r2⟩:=(S.f.below hb).kd bA;obtain ⟨A3,c3,rfl,g3,r3⟩:=(S.c.below hb).kd bA
 exact (lJ.calls k A0 c0 _ A1 c1 _ A2 c2 _ A3 c3 _ n r w' r0 g0 r1 g1 r2 g2 r3 g3 hk).mono fun _ _ ⟨h1,h2⟩=>⟨h1,dQ⟩
theorem rB (S:pI w st vl vd vf vc) (O:yA st) (n:Int):∃ r,(r=⟨#[]⟩∨(gK r∧listed st.cont r=true))∧∀ w',Below w.heap.size w w'→Calls Tryz.prog 25 #[.agg #[vl,vd,vf,vc],.int .i64 n] w' fun e w''=>e = .returned (.string r)∧Below w'.heap.size w' w'':=by
 obtain ⟨r,hr,hp⟩:=aE1 st.langs st.dis (st.fmts.map mkF) st.cont n O.cz;obtain ⟨k,hk⟩:=hr.rounds;refine ⟨r,hp,fun w' hb=>?_⟩;have:=O.l;have:=O.d;have:=O.f;have:=O.c;obtain ⟨A0,c0,rfl,g0,r0⟩:=(S.l.below hb).kd bA;obtain ⟨A1,c1,rfl,g1,r1⟩:=(S.d.below hb).kd bA;obtain ⟨A2,c2,rfl,g2,r2⟩:=(S.f.below hb).kd bA;obtain ⟨A3,c3,rfl,g3,r3⟩:=(S.c.below hb).kd bA
 exact (kW.calls k A0 c0 _ A1 c1 _ A2 c2 _ A3 c3 _ n r w' r0 g0 r1 g1 r2 g2 r3 g3 hk).mono fun _ _ ⟨h1,h2⟩=>⟨h1,dQ⟩
theorem xC (S:pI w st vl vd vf vc) (O:yA st) (s:ByteArray):Calls Tryz.prog 27 #[.agg #[vl,vd,vf,vc],.string s] w fun e w''=>e = .returned (.bool (qB st s))∧Below w.heap.size w w'':=by
 obtain ⟨k,hk⟩:=(aBt st s O.f O.l O.d).rounds;have:=O.l;have:=O.d;have:=O.f;have:=O.c;obtain ⟨A0,c0,rfl,g0,r0⟩:=S.l.kd bA;obtain ⟨A1,c1,rfl,g1,r1⟩:=S.d.kd bA;obtain ⟨A2,c2,rfl,g2,r2⟩:=S.f.kd bA;obtain ⟨A3,c3,rfl,g3,r3⟩:=S.c.kd bA
 exact (gI.calls k A0 c0 _ A1 c1 _ A2 c2 _ A3 c3 _ s _ w r0 g0 r1 g1 r2 g2 r3 g3 hk).mono fun _ _ ⟨h1,h2⟩=>⟨h1,dQ⟩
theorem aCl (S:pI w st vl vd vf vc) (O:yA st) (s:ByteArray) (hs:s.size≤4000000000):∃ r,(r=true→gK s∧qB st s=false)∧Calls Tryz.prog 36 #[.agg #[vl,vd,vf,vc],.string s] w fun e w''=>e = .returned (.bool r)∧Below w.heap.size w w'':=by
 have hq:PEv (fun r=>r=true→gK s∧qB st s=false) (fun k=>lI.f k st.langs st.dis (st.fmts.map mkF) st.cont s):=by
  unfold lI.f;refine PEv.bind (sJ s hs) (fun r hr=>?_);refine PEv.ite (fun h=>?_) (fun _=>PEv.now (fun h=>by cases h));refine PEv.bind (P:=fun q=>q=qB st s) ⟨_,aBt st s O.f O.l O.d,rfl⟩ (fun q hq=>?_);exact PEv.now (fun h2=>⟨hr h,by rw[← hq];simpa using h2⟩)
 obtain ⟨r,hr,hp⟩:=hq;obtain ⟨k,hk⟩:=hr.rounds;have:=O.l;have:=O.d;have:=O.f;have:=O.c;obtain ⟨A0,c0,rfl,g0,r0⟩:=S.l.kd bA;obtain ⟨A1,c1,rfl,g1,r1⟩:=S.d.kd bA;obtain ⟨A2,c2,rfl,g2,r2⟩:=S.f.kd bA;obtain ⟨A3,c3,rfl,g3,r3⟩:=S.c.kd bA;exact ⟨r,hp,(lI.calls k A0 c0 _ A1 c1 _ A2 c2 _ A3 c3 _ s r w r0 g0 r1 g1 r2 g2 r3 g3 hk).mono fun _ _ ⟨h1,h2⟩=>⟨h1,dQ⟩⟩
end
section
variable {w:World}
theorem aC4 (l:List ByteArray) (hl:l.length≤1000000):∀ (n j:Nat),l.length - j=n→j≤l.length→Ev (fun k=>Go.Proofs.YtcdgldnphhidlaaGreatDoor.PTexts.laws_texts.l0 k l l (l.length:Int) (j:Int)) true:=by
 intro n
 induction n with
 | zero =>
  intro j h1 h2;refine Ev.step (f:=fun _=>some true) (fun k=>?_) (Ev.now _);simp only[Go.Proofs.YtcdgldnphhidlaaGreatDoor.PTexts.laws_texts.l0];rw[if_neg bA]
 | succ n ih =>
  intro j h1 h2;refine Ev.step (fun k=>?_) (ih (j+1) bA bA);simp only[Go.Proofs.YtcdgldnphhidlaaGreatDoor.PTexts.laws_texts.l0];rw[if_pos bA,if_pos bA,if_pos bA,if_pos bA,if_pos trivial,w64 bA bA];rfl
theorem lK {v u:Value} {l:List ByteArray} (H:eT w 0 v l) (H' : eT w 0 u l) (hl:l.length≤1000000):Calls Tryz.prog 35 #[v,u] w fun e w'=>e = .returned (.bool true)∧Below w.heap.size w w':=by
 have h:Ev (fun k=>Go.Proofs.YtcdgldnphhidlaaGreatDoor.PTexts.laws_texts.f k l l) true:=by
  refine Ev.congr (fun k=>?_) (aC4 l hl l.length 0 bA bA);unfold Go.Proofs.YtcdgldnphhidlaaGreatDoor.PTexts.laws_texts.f;rw[if_pos rfl];rfl
 obtain ⟨k,hk⟩:=h.rounds;obtain ⟨A0,c0,rfl,h0,r0⟩:=H.kd bA;obtain ⟨A1,c1,rfl,h1,r1⟩:=H'.kd bA
 exact (Go.Proofs.YtcdgldnphhidlaaGreatDoor.PTexts.laws_texts.calls k A0 c0 l A1 c1 l true w r0 h0 r1 h1 hk).mono fun _ _ ⟨h1,h2⟩=>⟨h1,h2.below⟩
end
open Go.RowKit Go.ZW.PrintWords Go.Proofs.YtcdgldnphhidlaaGreatDoor.Base Go.Proofs.YtcdgldnphhidlaaGreatDoor.Total Go.Proofs.YtcdgldnphhidlaaGreatDoor.Lower
theorem eF {w w' : World} {b j:Nat} {v:Value} (h:w.cell? ⟨b,j,none⟩=some v) (hb:Below w.heap.size w w'):w'.cell? ⟨b,j,none⟩=some v:=(hb.cell (World.block_lt_of_cell? w ⟨b,j,none⟩ h)).trans h
theorem qW {l:List ByteArray} {s:ByteArray} (h:listed l s=true):s∈l:=by
 unfold listed at h;obtain ⟨x,hx,e⟩:=List.any_eq_true.1 h;have h1:x.toList=s.toList:=by simpa using e
 have:x=s:=L_inj (by rw[← L_toList,← L_toList,h1]);exact this▸hx
theorem fixed {l:List UInt8} (h:∀ c∈l,iW c∨c=46∨c=47∨c=95):(l.map fun c=>jF (gZ c))=l:=by
 refine (List.map_congr_left (fun c hc=>?_)).trans (List.map_id _);rcases h c hc with h | rfl | rfl | rfl
 ·exact h.norm
 ·rfl
 ·rfl
 rfl
theorem tT {w:ByteArray} (h:gK w):((L w).map fun c=>jF (gZ c))=L w:=fixed (fun c hc=>.inl (h.each c hc))
theorem vN {dirs:List ByteArray} {nm l e:ByteArray} (hd:∀ d∈dirs,gK d) (hn:gK nm) (hl:gK l) (he:gK e) (pre:ByteArray) (hp:((L pre).map fun c=>jF (gZ c))=46::95::L eZ) :
 L (norm ((((gU dirs++⟨#[47]⟩)++nm)++((pre++l)++⟨#[95,46]⟩))++e))=gD dirs++47::(L nm++46::((95::((L eZ++L l)++[95]))++46::L e)):=by
 rw[rW];simp only[iP,jL,List.map_append];rw[tT hn,tT hl,tT he,hp]
 have h1:((gD dirs).map fun c=>jF (gZ c))=gD dirs:=fixed (fun c hc=>by
  rcases folder_each hd c hc with h | h
  ·exact .inr (.inr (.inl h))
  exact .inl h)
 have h2:((L (⟨#[47]⟩:ByteArray)).map fun c=>jF (gZ c))=[47]:=rfl;have h3:((L (⟨#[95,46]⟩:ByteArray)).map fun c=>jF (gZ c))=[95,46]:=rfl;rw[h1,h2,h3]
 simp
theorem uD {w:ByteArray} (h:gK w):L w≠mT:=fun e=>h.head (by rw[e];rfl)
theorem eT.front {w:World} {B c:Nat} {A:Option Addr} {l:List ByteArray} (H:eT w B (.slice A l.length c) l):eT w B (.slice A (l.length - 1) c) l.dropLast∧l.length≤c:=by
 obtain ⟨A',c',e,hc,hp⟩:=H;injection e with e1 e2 e3
 subst e1 e3;refine ⟨⟨A,c,by rw[List.length_dropLast],by rw[List.length_dropLast];omega,fun h=>?_⟩,hc⟩;rw[List.length_dropLast] at h;obtain ⟨g,o,ea,hg,hh⟩:=hp bA;refine ⟨g,o,ea,hg,fun j hj=>?_⟩;rw[hh j (by rw[List.length_dropLast] at hj;omega),List.getElem_dropLast]
theorem yS:tO ⟨#[105,110,100,101,120]⟩:=⟨by decide,fun c hc=>by
 rw[show L (⟨#[105,110,100,101,120]⟩:ByteArray)=[105,110,100,101,120] from rfl] at hc;simp only[List.mem_cons,List.not_mem_nil,or_false] at hc;unfold iW
 rcases hc with rfl | rfl | rfl | rfl | rfl <;> decide,by decide,by rw[L_toList];decide⟩
theorem xE:tO ⟨#[95,105,110,100,101,120]⟩:=⟨by decide,fun c hc=>by
 rw[show L (⟨#[95,105,110,100,101,120]⟩:ByteArray)=[95,105,110,100,101,120] from rfl] at hc;simp only[List.mem_cons,List.not_mem_nil,or_false] at hc;unfold iW
 rcases hc with rfl | rfl | rfl | rfl | rfl | rfl <;> decide,by decide,by rw[L_toList];decide⟩
def rI (w:World) (B:Nat) (v1 v2 v3:Value) (l1 l2 l3:List ByteArray):Prop:=eT w B v1 l1∧eT w B v2 l2∧eT w B v3 l3
theorem rI.far {w w' : World} {B B' : Nat} {v1 v2 v3:Value} {l1 l2 l3:List ByteArray} (H:rI w B v1 v2 v3 l1 l2 l3) (h:B'≤B) (hb:∀ k,B≤k→k < w.heap.size→w'.heap[k]? = w.heap[k]?):rI w' B' v1 v2 v3 l1 l2 l3:=⟨(H.1.far hb).mono h,(H.2.1.far hb).mono h,(H.2.2.far hb).mono h⟩
structure KN (w0:World) (G:ToldV→List ByteArray→List ByteArray→List ByteArray→Prop) (c a:Bool) (s:Value×Nat) (w:World):Prop where
 below:Below w0.heap.size w0 w
 res:c=true→∃ t l1 l2 l3 v1 v2 v3,s.1=iB t v1 v2 v3∧rI w w0.heap.size v1 v2 v3 l1 l2 l3∧G t l1 l2 l3∧(a=true→∀ C:List Value,rI (w.setCells s.2 0 C) w0.heap.size v1 v2 v3 l1 l2 l3)
 pa:a=true→Row w s.2 fY∧w0.heap.size≤s.2
section
variable {w0 w w' : World} {G:ToldV→List ByteArray→List ByteArray→List ByteArray→Prop} {c a:Bool} {s:Value×Nat}
theorem KN.start (h:Below w0.heap.size w0 w) (s:Value×Nat):KN w0 G false false s w:=⟨h,(fun h=>by cases h),(fun h=>by cases h)⟩
theorem KN.grow (H:KN w0 G false a s w) (hb:Below w.heap.size w w'):KN w0 G false a s w' :=
 ⟨eB H.below hb,(fun h=>by cases h),fun h=>⟨(H.pa h).1.below hb ((H.pa h).1.lt bH),(H.pa h).2⟩⟩
theorem KN.know (H:KN w0 G false a s w) (hb:Below w.heap.size w w') {t:ToldV} {l1 l2 l3:List ByteArray} {v1 v2 v3:Value} (hr:rI w' w.heap.size v1 v2 v3 l1 l2 l3) (hg:G t l1 l2 l3):KN w0 G true a (iB t v1 v2 v3,s.2) w' :=
 have X:=H.grow hb
 ⟨X.below,fun _=>⟨t,l1,l2,l3,v1,v2,v3,rfl,hr.far H.below.size (fun _ _ _=>rfl),hg,fun ha C=>hr.far H.below.size (fun k hk _=>hZ _ _ k (by have:=(H.pa ha).1.lt bH;simp only;omega))⟩,X.pa⟩
theorem KN.cell (H:KN w0 G c false s w):KN w0 G c true (s.1,w.heap.size) (w.alloc (.cells fY.toArray 35)) :=
 have hb:Below w.heap.size w (w.alloc (.cells fY.toArray 35)):=(Below.refl _ _).alloc (Nat.le_refl _) _
 ⟨eB H.below hb,fun h=>by
  obtain ⟨t,l1,l2,l3,v1,v2,v3,e,hr,hg,_⟩:=H.res h;refine ⟨t,l1,l2,l3,v1,v2,v3,e,hr.far (Nat.le_refl _) (fun k _ hk=>hb.block k hk),hg,fun _ C=>hr.far (Nat.le_refl _) (fun k _ hk=>?_)⟩
  exact (hZ _ _ k (by simp only;omega)).trans (hb.block k hk),fun _=>⟨Row.new w fY _,H.below.size⟩⟩
end
theorem zY {ops:Array Oper} {oi:Oper} {a:Act} {w:World} {K:Act→World→Prop} {Q:Exit→Act→World→Prop} {b:Nat} {C:Array Value} {cs:List Value} (hw:Region.wanted oi (yielded ops a.tmps)=true) (hN:oi.dst=none) (x y:Operand) (ho:oi.op = .store 35 x y)
 (hx:a.eval x = .pointer (some ⟨b,0,none⟩)) (hy:a.eval y = .agg C) (hR:Row w b cs) (hcs:cs.length=31) (hC:C.size=31) (hone:C.all (·.oneCell')=true) (h:K a (w.setCells b 0 C.toList)) :
 if Region.wanted oi (yielded ops a.tmps)=true then Oper.wp Tryz.prog oi a w K Q else K (a.put none undef) w:=by
 have ht:w.there b 0 31:=hcs▸hR.there;rw[if_pos hw];refine wp_store_mid 35 x y ho b 0 C hx hy (by rw[hC];exact ht) (by rw[hC];kernel_rfl) hone ?_;rw[hN];exact h
section
variable {w:World}
theorem tU {v:Value} {l:List ByteArray} (H:eT w 0 v l) (hl:l.length+wt l≤1000000):Calls Tryz.prog 28 #[v] w fun e w'=>e = .returned (.string (gU l))∧∃ m,w'=w.drewN m:=by
 obtain ⟨k,hk⟩:=(aAe l bA).rounds;obtain ⟨A0,c0,rfl,h0,r0⟩:=H.kd bA
 exact (gR.calls k A0 c0 l _ w r0 h0 hk).mono fun _ _ ⟨h1,h2⟩=>⟨h1,h2.out⟩
theorem qJ (s:ByteArray) (w:World):Calls Tryz.prog 32 #[.string s] w fun e w'=>e = .returned (.string (if s=⟨#[]⟩ then ⟨#[47]⟩ else s))∧∃ m,w'=w.drewN m:=by
 have hk:oF.f s=some (if s=⟨#[]⟩ then ⟨#[47]⟩ else s):=by
  unfold oF.f
  by_cases c:s=⟨#[]⟩
  ·subst c;rw[if_pos rfl,if_pos (by rw[L_toList];rfl)]
  rw[if_neg c,if_neg (fun h=>c (L_inj (by rw[← L_toList,h];rfl)))]
 exact (oF.calls s _ w hk).mono fun _ _ ⟨h1,h2⟩=>⟨h1,h2.out⟩
theorem tG {v:Value} {l:List ByteArray} (H:eT w 0 v l) (hl:l.length≤1000000):Calls Tryz.prog 31 #[v] w fun e w'=>e = .returned (.string (l.getLast?.getD ⟨#[]⟩))∧∃ m,w'=w.drewN m:=by
 obtain ⟨A0,c0,rfl,h0,r0⟩:=H.kd bA
 have hk:pQ.f l=some (l.getLast?.getD ⟨#[]⟩):=by
  unfold pQ.f
  by_cases c:l.length=0
  ·have:l=[]:=List.eq_nil_of_length_eq_zero c;subst this;rfl
  rw[if_neg bA,w64 bA bA,if_pos bA,if_pos bA,show (l.length:Int) - 1=((l.length - 1:Nat):Int) by omega,lY _ _ _ bA,List.getLast?_eq_getElem?,List.getElem?_eq_getElem bA];rfl
 exact (pQ.calls A0 c0 l _ w r0 h0 hk).mono fun _ _ ⟨h1,h2⟩=>⟨h1,h2.out⟩
end
open Go.RowKit Go.WideMaps Go.ZW.PrintWords Go.Proofs.YtcdgldnphhidlaaGreatDoor.Base Go.Proofs.YtcdgldnphhidlaaGreatDoor.Lower Go.Proofs.YtcdgldnphhidlaaGreatDoor.Total Go.Proofs.YtcdgldnphhidlaaGreatDoor.Ext Go.Proofs.YtcdgldnphhidlaaGreatDoor.PCore
structure mH (st:fD):Prop where
 l:st.langs.length≤1000000
 d:st.dis.length≤1000000
 f:st.fmts.length≤1000000
 c:st.cont.length≤1000000
 lz:∀ x∈st.langs,x.size≤4000000000
 dz:∀ x∈st.dis,x.size≤4000000000
 fz:∀ x∈st.fmts,x.1.size≤4000000000∧x.2.size≤4000000000
 cz:∀ x∈st.cont,x.size≤4000000000
theorem nZ.few {st:fD} {comp s:ByteArray} (K:nZ st comp s):mH st:=by
 have k:=K.site;have l1:=k.la;have l2:=k.lb;have l3:=k.lc;have l4:=k.ld;rw[List.length_map] at l3
 exact ⟨aQ,aQ,aQ,aQ,fun x hx=>Nat.le_trans (k.langs x hx).most bA,fun x hx=>Nat.le_trans (k.dis x hx).most bA,
  fun x hx=>⟨Nat.le_trans (k.fmts (mkF x) (List.mem_map_of_mem hx)).1.most bA,Nat.le_trans (k.fmts (mkF x) (List.mem_map_of_mem hx)).2.most bA⟩,fun x hx=>Nat.le_trans (k.cont x hx).most bA⟩
theorem mH.langs {st:fD} (F:mH st) {word:ByteArray} (hz:word.size≤4000000000) (h:st.langs.length≤999999):mH { st with langs:=st.langs++[word] } :=
 ⟨by simp;omega,F.d,F.f,F.c,fun x hx=>(List.mem_append.1 hx).elim (F.lz x) (fun h=>by rw[List.mem_singleton.1 h];exact hz),F.dz,F.fz,F.cz⟩
theorem mH.dis {st:fD} (F:mH st) {word:ByteArray} (hz:word.size≤4000000000) (h:st.dis.length≤999999):mH { st with dis:=st.dis++[word] } :=
 ⟨F.l,by simp;omega,F.f,F.c,F.lz,fun x hx=>(List.mem_append.1 hx).elim (F.dz x) (fun h=>by rw[List.mem_singleton.1 h];exact hz),F.fz,F.cz⟩
theorem mH.cont {st:fD} (F:mH st) {word:ByteArray} (hz:word.size≤4000000000) (h:st.cont.length≤999999):mH { st with cont:=st.cont++[word] } :=
 ⟨F.l,F.d,F.f,by simp;omega,F.lz,F.dz,F.fz,fun x hx=>(List.mem_append.1 hx).elim (F.cz x) (fun h=>by rw[List.mem_singleton.1 h];exact hz)⟩
theorem mH.none {st:fD} (F:mH st):mH { st with langs:=[],dis:=[] }:=⟨Nat.zero_le _,Nat.zero_le _,F.f,F.c,(fun x hx=>by cases hx),(fun x hx=>by cases hx),F.fz,F.cz⟩
theorem aFk (c:UInt8):jF (jF c)=jF c:=by
 unfold jF
 by_cases h:c=32
 ·subst h;rfl
 rw[if_neg h,if_neg h]
theorem aFp (s:ByteArray):norm (norm s)=norm s:=by
 refine L_inj ?_;rw[rW,rW,List.map_map];exact List.map_congr_left fun c _=>(congrArg jF (aGe c)).trans (aFk _)
theorem zT (s:ByteArray) (w:World) (hs:s.size≤1000000) (ha:ascii (L s)=true) :
 Calls Tryz.prog 43 #[.string s] w fun e w'=>e = .returned (.string (norm s))∧Below w.heap.size w w':=by
 have hall:∀ c∈L s,c.toNat≤127:=by
  intro c hc;obtain ⟨j,hj,e⟩:=List.mem_iff_getElem.1 hc;have:=aBj ha j c (by show (L s)[j]? = some c;rw[List.getElem?_eq_getElem hj,e]);omega
 have c:=Norm.normalizeBasic_calls s w bA hall;clear hall ha;go_enter Tryz.func43,Tryz.ntmps43;go_wp2_with fail
 refine c.mono ?_;rintro e w' ⟨rfl,hb⟩;have HB:=cH hb;clear hb c;go_wp2_with fail
 go_ret;exact ⟨rfl,HB.out⟩
theorem zD (s:ByteArray) (w:World) (hs:s.size≤1000000) :
 Calls Tryz.prog 42 #[.string s] w fun e w'=>e = .returned (.bool (ascii (L s)))∧Below w.heap.size w w':=by
 obtain ⟨k,hk⟩:=(xL s bA).rounds;have c:=fR.calls k s _ w hk;clear hk;go_enter Tryz.func42,Tryz.ntmps42;go_wp2_with fail
 refine c.mono ?_;rintro e w' ⟨rfl,hb⟩;have HB:Aside0 (Below w.heap.size w w'):=cH (by first | exact hb | exact hb.below);clear hb c;go_wp2_with fail
 go_ret;exact ⟨rfl,HB.out⟩
section
variable {w:World} {st:fD} {vl vd vf vc:Value}
theorem aA9 (S:SiteIn w st vl vd vf vc) (F:mH st) (comp s:ByteArray) (hc:comp.size≤900000) (hs:s.size≤900000):∃ r:Bool,∀ w',Below w.heap.size w w'→Calls Tryz.prog 44 #[.agg #[vl,vd,vf,vc],.string comp,.string s] w' fun e w''=>e = .returned (.bool r)∧Below w'.heap.size w' w'':=by
 have l1:=F.l;have l2:=F.d;have l3:=F.f;have l4:=F.c
 obtain ⟨r,hr,_⟩:=vV st.langs st.dis (st.fmts.map mkF) st.cont comp s bA bA (by rw[List.length_map];omega) bA F.lz F.dz (fun x hx=>by
  obtain ⟨y,hy,rfl⟩:=List.mem_map.1 hx
  exact F.fz y hy) F.cz hc hs
 obtain ⟨k,hk⟩:=hr.rounds;refine ⟨r,fun w' hb=>?_⟩;have S':=S.below hb;obtain ⟨A0,c0,rfl,g0,r0⟩:=S'.l.kd bA;obtain ⟨A1,c1,rfl,g1,r1⟩:=S'.d.kd bA;obtain ⟨A2,c2,rfl,g2,r2⟩:=S'.f.kd bA;obtain ⟨A3,c3,rfl,g3,r3⟩:=S'.c.kd bA;exact iO.calls k A0 c0 _ A1 c1 _ A2 c2 _ A3 c3 _ comp s _ w' r0 g0 r1 g1 r2 g2 r3 g3 (by unfold iO.f;rw[hk];rfl)
end
end Go.Proofs.YtcdgldnphhidlaaGreatDoor.Path
