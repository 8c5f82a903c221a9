/- Texts that the law leans on: Parse, Impl, Args, SiteRow, Known0, LawKit, Texts, Take. Condition: as told at each. -/
import Derived.SliceStrings
import Derived.Deep.Slices
import Derived.Deep.Fields
import Derived.Lib.SmallJoins
import Derived.ChangeSame
import Derived.Carry
import Derived.Test.YtcdgldnphhidlaaGreatDoorQa
import Derived.Test.YtcdgldnphhidlaaGreatDoorQ22
import Derived.Test.YtcdgldnphhidlaaGreatDoorQ26
set_option linter.unusedVariables false
set_option linter.unusedSimpArgs false
set_option maxRecDepth 100000
set_option maxHeartbeats 16000000
namespace Go.Proofs.YtcdgldnphhidlaaGreatDoor.Path
open Go.RowKit Go.WideMaps Go.ZW.PrintWords Go.Proofs.YtcdgldnphhidlaaGreatDoor.Base Go.Proofs.YtcdgldnphhidlaaGreatDoor.Lower Go.Proofs.YtcdgldnphhidlaaGreatDoor.Norm
theorem aJz {s:ByteArray} (h:asc s):∀ c∈L s,c.toNat≤127:=by
 intro c hc;obtain ⟨k,hk⟩:=List.mem_iff_getElem?.1 hc;have:=h k c hk;omega
theorem aIn {s:ByteArray} (h:asc s):asc (norm s):=by
 intro j c hc;have e:(norm s).data.toList=(L s).map fun c=>lJ (gZ c):=wD s;rw[e,List.getElem?_map] at hc
 cases hx:(L s)[j]? with
 | none=>rw[hx] at hc;cases hc
 | some x =>
  rw[hx] at hc;injection hc with hc
  have hx2:=h j x hx
  have h1:(gZ x).toNat < 128:=by
   unfold gZ;split
   ·rename_i h1
    rw[UInt8.toNat_add];have:(32:UInt8).toNat=32:=rfl;omega
   exact hx2
  rw[← hc];show (if gZ x=32 then (45:UInt8) else gZ x).toNat < 128
  by_cases c:gZ x=32
  ·rw[if_pos c];decide
  rw[if_neg c];exact h1
theorem eK.lower {w:World} {B B' b:Nat} {p:eH} {vk vu vl u:Value} (H:eK w B b p vk vu vl u) (h:B'≤B):eK w B' b p vk vu vl u :=
 ⟨Nat.le_trans h H.base,H.row,qK H.ok h,qK H.ou h,qK H.ol h,H.nk,H.nu,H.nl,H.ku⟩
def aCr (w:World) (B:Nat) (E:Env) (comp s:ByteArray) (b ub:Nat) (vk vu vl:Value):Prop :=
 eK w B b (gB E comp (norm s)) vk vu vl (.pointer (some ⟨ub,0,none⟩))∧∃ vk2 vu2 vl2 u2,eK w B ub (gB E comp s) vk2 vu2 vl2 u2
theorem aCr.below {w w' : World} {B:Nat} {E:Env} {comp s:ByteArray} {b ub:Nat} {vk vu vl:Value} (H:aCr w B E comp s b ub vk vu vl) (hb:Below w.heap.size w w'):aCr w' B E comp s b ub vk vu vl:=by
 obtain ⟨h1,vk2,vu2,vl2,u2,h2⟩:=H;exact ⟨h1.below hb,vk2,vu2,vl2,u2,h2.below hb⟩
section
variable {w:World} {pb mb sb fb:Nat} {st:eW} {sl sd sf sc:Value}
theorem aFk (S:jC w pb st sl sd sf sc mb sb fb) (OS:jF st) (comp s:ByteArray) (hs:s.size≤900000) (ha:asc s) :
 Calls Tryz.prog 78 #[.pointer (some ⟨pb,0,none⟩),.string comp,.string s] w fun e w' =>
  ∃ b ub vk vu vl,e = .returned (.tuple #[.pointer (some ⟨b,0,none⟩),.nilIface])∧aCr w' w.heap.size (eJ st) comp s b ub vk vu vl∧Below w.heap.size w w':=by
 have HS:=cB S;have cn:=vH s w bA (aJz ha);have hns:(norm s).size≤900000:=by rw[norm_size];exact hs
 have han:=aIn ha
 obtain ⟨t,ht⟩:∃ t,norm s=t:=⟨_,rfl⟩
 rw[ht] at cn hns han;have HT:=cB ht;have HA:=cB ha;have HAN:=cB han;clear S ha han ht;go_enter Tryz.func78,Tryz.ntmps78;go_wp2_with fail
 refine cn.mono ?_;rintro e w1 ⟨rfl,hb1⟩;have HS1:=cB (HS.out.below hb1);have HB1:=cB hb1;clear cn hb1;have cnew:=vV w1 (.pointer (some ⟨pb,0,none⟩)) comp;go_wp2_with fail
 refine cnew.mono ?_;rintro e w2 ⟨rfl,hp2,hb2⟩;have HP2:=cB hp2;have HB2:=cB hb2;have cd:=aC6 HS1.out OS hb2 comp hp2 t hns HAN.out;clear cnew hp2 hb2;go_wp2_with fail
 refine cd.mono ?_;rintro e w3 ⟨rfl,vk,vu,vl,hp3,hm3⟩;have HP3:=cB hp3;have HB3:=cB (HB2.out.trans (fB.below HP2.out hm3));clear cd hp3 hm3
 obtain ⟨b1,hb1⟩:∃ b1,w1.heap.size=b1:=⟨_,rfl⟩
 have HBB:=cB hb1;rw[hb1] at HP3 HB3 ⊢;have hlt:=HP3.out.lt;have HLT:=cB hlt;clear hb1 hlt
 obtain ⟨z,hz⟩:∃ z,(s.toList==t.toList)=z:=⟨_,rfl⟩
 have hz2:(s.toList != t.toList) = !z:=by rw[bne,hz]
 have HZ:=cB hz;cases z
 ·have HS3:=cB (HS1.out.below (HBB.out▸HB3.out))
  have HB03:Aside0 (Below w.heap.size w w3):=⟨HB1.out.trans (HB3.out.mono (by rw[← HBB.out];exact HB1.out.size))⟩
  have cnew:=vV w3 (.pointer (some ⟨pb,0,none⟩)) comp;clear HP2 HB2;go_wp2_with fail
  refine cnew.mono ?_;rintro e w4 ⟨rfl,hp4,hb4⟩;have HP4:=cB hp4;have HB4:=cB hb4;have cd:=aC6 HS3.out OS hb4 comp hp4 s hs HA.out;clear cnew hp4 hb4;have q25:=HP3.out.row.at 25 _ rfl;have f25:=HP3.out.row.free 25 bG;go_wp2_with fail
  refine cd.mono ?_;rintro e w5 ⟨rfl,vk2,vu2,vl2,hp5,hm5⟩;have HB5:=cB (HB4.out.trans (fB.below HP4.out hm5));have HP5:=cB (HP3.out.below HB5.out);have HQ5:=cB hp5;clear cd hp5 hm5 q25 f25;have q25:=HP5.out.row.at 25 _ rfl;have f25:=HP5.out.row.free 25 bG;go_wp2_with fail
  have hpa:=HP5.out.put 25 (.pointer (some ⟨w3.heap.size,0,none⟩)) (mDo (eJ st) comp t { fR with comp:=comp }) (.pointer (some ⟨w3.heap.size,0,none⟩)) rfl rfl rfl rfl bA;have hqa:eK (w5.setCell ⟨b1,25,none⟩ (.pointer (some ⟨w3.heap.size,0,none⟩))) w3.heap.size w3.heap.size (gB (eJ st) comp s) vk2 vu2 vl2 (.pointer none):=HQ5.out.beside (a:=⟨b1,25,none⟩) (by have:=HLT.out;show w3.heap.size≠b1;omega) (lW HQ5.out.ok HLT.out) (lW HQ5.out.ou HLT.out) (lW HQ5.out.ol HLT.out) (.pointer (some ⟨w3.heap.size,0,none⟩));have hbz:Below w.heap.size w (w5.setCell ⟨b1,25,none⟩ (.pointer (some ⟨w3.heap.size,0,none⟩))):=(HB03.out.trans (HB5.out.mono HB03.out.size)).setCell (p:=⟨b1,25,none⟩) (by rw[← HBB.out];exact HB1.out.size) (.pointer (some ⟨w3.heap.size,0,none⟩))
  refine bodyPost_ret (results_tmp2 bH _ _ _) rfl ⟨b1,w3.heap.size,vk,vu,vl,rfl,⟨?_,vk2,vu2,vl2,_,hqa.lower HB03.out.size⟩,hbz⟩;have:=hpa.lower (B':=w.heap.size) (by rw[← HBB.out];exact HB1.out.size);rw[← HT.out] at this;exact this
 have q25:=HP3.out.row.at 25 _ rfl;have f25:=HP3.out.row.free 25 bG
 have HST:=cB (show norm s=s by
  rw[HT.out];refine (L_inj ?_).symm;have h9:=beq_iff_eq.1 HZ.out;rw[L_toList,L_toList] at h9
  exact h9)
 clear HP2 HB2;go_wp2_with fail
 have hpa:=HP3.out.put 25 (.pointer (some ⟨b1,0,none⟩)) (mDo (eJ st) comp t { fR with comp:=comp }) (.pointer (some ⟨b1,0,none⟩)) rfl rfl rfl rfl bA;have hbz:Below w.heap.size w (w3.setCell ⟨b1,25,none⟩ (.pointer (some ⟨b1,0,none⟩))):=(HB1.out.trans (HB3.out.mono (by rw[← HBB.out];exact HB1.out.size))).setCell (p:=⟨b1,25,none⟩) (by rw[← HBB.out];exact HB1.out.size) (.pointer (some ⟨b1,0,none⟩));have hp:=hpa.lower (B':=w.heap.size) (by rw[← HBB.out];exact HB1.out.size);rw[← HT.out] at hp;refine bodyPost_ret (results_tmp2 bH _ _ _) rfl ⟨b1,b1,vk,vu,vl,rfl,⟨hp,vk,vu,vl,.pointer (some ⟨b1,0,none⟩),?_⟩,hbz⟩;have h8:=hp;rw[HST.out] at h8;exact h8
theorem aEn (S:jC w pb st sl sd sf sc mb sb fb) (OS:jF st) (comp s:ByteArray) (hs:s.size≤900000) (ha:asc s) :
 Calls Tryz.prog 52 #[.pointer (some ⟨pb,0,none⟩),.string comp,.string s] w fun e w' =>
  ∃ b ub vk vu vl,e = .returned (.pointer (some ⟨b,0,none⟩))∧aCr w' w.heap.size (eJ st) comp s b ub vk vu vl∧Below w.heap.size w w':=by
 have c:=aFk S OS comp s hs ha;clear S hs ha;go_enter Tryz.func52,Tryz.ntmps52;go_wp2_with fail
 refine c.mono ?_;rintro e w' ⟨b,ub,vk,vu,vl,rfl,hp,hb⟩;have HP:=cB hp;have HB:=cB hb;clear c hp hb;go_wp2_with fail
 go_ret;exact ⟨b,ub,vk,vu,vl,rfl,HP.out,HB.out⟩
end
open Go.RowKit Go.WideMaps Go.ZW.PrintWords Go.Proofs.YtcdgldnphhidlaaGreatDoor.Base Go.Proofs.YtcdgldnphhidlaaGreatDoor.Lower
structure SiteIn (w:World) (st:eW) (vl vd vf vc:Value):Prop where
 l:eV w 0 vl st.langs
 d:eV w 0 vd st.dis
 f:nG w 0 vf st.fmts
 c:eV w 0 vc st.cont
theorem SiteIn.below {w w' : World} {st:eW} {vl vd vf vc:Value} (H:SiteIn w st vl vd vf vc) (hb:Below w.heap.size w w'):SiteIn w' st vl vd vf vc :=
 ⟨H.l.below hb,H.d.below hb,H.f.below hb,H.c.below hb⟩
def Told (w:World) (B:Nat) (p:eH) (v1 v2 v3:Value):Prop:=eV w B v1 (jW p)∧eV w B v2 (kB p)∧eV w B v3 (lK p)
theorem Told.below {w w' : World} {B:Nat} {p:eH} {v1 v2 v3:Value} (H:Told w B p v1 v2 v3) (hb:Below w.heap.size w w'):Told w' B p v1 v2 v3:=⟨H.1.below hb,H.2.1.below hb,H.2.2.below hb⟩
section
variable {w:World} {st:eW} {vl vd vf vc:Value}
theorem oP (S:SiteIn w st vl vd vf vc) (OS:jF st) (comp s:ByteArray) (hs:s.size≤900000) (ha:asc s) :
 Calls Tryz.prog 40 #[.agg #[vl,vd,vf,vc],.string comp,.string s] w fun e w' =>
  ∃ v1 v2 v3,e = .returned (iH (gL (gB (eJ st) comp (norm s))) v1 v2 v3)∧Told w' w.heap.size (gB (eJ st) comp (norm s)) v1 v2 v3∧Below w.heap.size w w':=by
 have HSI:=cB S;have hok:=qR (eJ st) comp (norm s) (by rw[norm_size];exact hs);have HOK:=cB hok;have HA:=cB ha;obtain ⟨Al,cl,rfl,_,_⟩:=S.l;obtain ⟨Ad,cd,rfl,_,_⟩:=S.d;obtain ⟨Af,cf,rfl,_,_⟩:=S.f;obtain ⟨Ac,cc,rfl,_,_⟩:=S.c;clear S hok ha;have hB1:Below w.heap.size w (w.alloc (.cells #[.slice Al st.langs.length cl,.slice Ad st.dis.length cd,.slice Af st.fmts.length cf,.slice Ac st.cont.length cc] 25)):=(Below.refl _ _).alloc (Nat.le_refl _) _;have hR1:=Row.new w [.slice Al st.langs.length cl,.slice Ad st.dis.length cd,.slice Af st.fmts.length cf,.slice Ac st.cont.length cc] 25;have hs1:w.heap.size < (w.alloc (.cells #[.slice Al st.langs.length cl,.slice Ad st.dis.length cd,.slice Af st.fmts.length cf,.slice Ac st.cont.length cc] 25)).heap.size:=by simp
 go_enter Tryz.func40,Tryz.ntmps40;go_upto_region 1 with fail
 obtain ⟨w1,hw1⟩:∃ w1,w.alloc (.cells #[.slice Al st.langs.length cl,.slice Ad st.dis.length cd,.slice Af st.fmts.length cf,.slice Ac st.cont.length cc] 25)=w1:=⟨_,rfl⟩
 have hz1:w1.heap.size=w.heap.size+1:=by rw[← hw1];simp
 rw[hw1] at hB1 hR1 hs1 ⊢;clear hw1;have hB2:Below w1.heap.size w1 (w1.alloc (.cells eZ.toArray 35)):=(Below.refl _ _).alloc (Nat.le_refl _) _;have hR2:Row (w1.alloc (.cells eZ.toArray 35)) w1.heap.size eZ:=Row.new w1 eZ _;rw[show eZ.toArray=TZ from rfl] at hB2 hR2
 obtain ⟨w2,hw2⟩:∃ w2,w1.alloc (.cells TZ 35)=w2:=⟨_,rfl⟩
 rw[hw2] at hB2 hR2;change Code.wp _ _ _ _ (w1.alloc (.cells TZ 35));rw[hw2];clear hw2;rw[hz1] at hR2;have hB:Below w.heap.size w w2:=hB1.trans (hB2.mono bA);have hRs:=hR1.below hB2 hs1;have r0:=hRs.at 0 _ rfl;have r1:=hRs.at 1 _ rfl;have r2:=hRs.at 2 _ rfl;have r3:=hRs.at 3 _ rfl;have HB:=cB hB;have HR2:=cB hR2;have hlt2:w.heap.size+1 < w2.heap.size:=hR2.lt bF;have cp:=aD3 (HSI.out.l.below hB) (HSI.out.d.below hB) (HSI.out.f.below hB) (HSI.out.c.below hB) OS;clear hB1 hR1 hs1 hB2 hR2 hB hRs hz1;go_wp2_with fail
 refine cp.mono ?_;rintro e w3 ⟨pb,mb,sb,fb,rfl,hS,hb3⟩;have cP:=aEn hS OS comp s hs HA.out;have HB3:=cB hb3;clear cp hS hb3 r0 r1 r2 r3;go_wp2_with fail
 refine cP.mono ?_;rintro e w4 ⟨b,ub,vk,vu,vl,rfl,hp,hb4⟩;have ct:=aHc hp.1 HOK.out.1 HOK.out.2.1 HOK.out.2.2;have HB4:=cB (eD HB3.out hb4);clear cP hp hb4;go_wp2_with fail
 refine ct.mono ?_;rintro e w5 ⟨v1,v2,v3,rfl,hs1,hs2,hs3,hb5⟩;have HB5:=cB (eD HB4.out hb5);have hz5:=HB4.out.size;have S1:=cB hs1;have S2:=cB hs2;have S3:=cB hs3;obtain ⟨A1,c1,e1,_⟩:=S1.out;obtain ⟨A2,c2,e2,_⟩:=S2.out;obtain ⟨A3,c3,e3,_⟩:=S3.out;clear ct hb5 hs1 hs2 hs3
 obtain ⟨C,hC⟩:∃ C:Array Value,nV (gL (gB (eJ st) comp (norm s))) v1 v2 v3=C:=⟨_,rfl⟩
 have hval:iH (gL (gB (eJ st) comp (norm s))) v1 v2 v3 = .agg C:=by rw[← hC];rfl
 have hCs:C.size=31:=by rw[← hC];rfl
 have hl:C.toList.length=31:=by simpa using hCs
 have hone:C.all (·.oneCell')=true:=by rw[← hC,e1,e2,e3];exact nZ _ _ _ _ _ _ _ _ _ _
 have HV:=cB hval;rw[hval];clear hval e1 e2 e3;have HC:=cB hC;have hRf:=HR2.out.below HB5.out hlt2;have ht:World.there _ (w.heap.size+1) 0 31:=hRf.there
 dsimp only
 refine (show ∀ (a:Act) (w:World),wpList _ _ _ _ a w→_ from by assumption) _ _ ?_;refine wpList_store_mid rfl 35 _ _ rfl (w.heap.size+1) 0 C rfl rfl (by rw[hCs];exact ht) (by rw[hCs];kernel_rfl) hone ?_;have hr:=World.rangeAt_setCells_same _ (w.heap.size+1) 0 C.toList (by rw[hl];exact ht);have hld:=run_loadVar_mid (P:=Tryz.prog) _ (w.heap.size+1) 0 35 C.toList _ hr Tryz.underlying35 rfl (by rw[hl];kernel_rfl);have hfar:∀ k,k≠w.heap.size+1→(w5.setCells (w.heap.size+1) 0 C.toList).heap[k]? = w5.heap[k]?:=fun k hk=>hO _ _ k hk;have hbel:Below w.heap.size w (w5.setCells (w.heap.size+1) 0 C.toList):=below_setCells (Nat.le_succ _) _ _ _ (HB.out.trans (HB5.out.mono HB.out.size))
 obtain ⟨W,hW⟩:∃ W,w5.setCells (w.heap.size+1) 0 C.toList=W:=⟨_,rfl⟩
 rw[hW] at hld hbel hfar ⊢;have s1:=cB (S1.out.far fun k hk _=>hfar k bA);have s2:=cB (S2.out.far fun k hk _=>hfar k bA);have s3:=cB (S3.out.far fun k hk _=>hfar k bA);have HBel:=cB hbel;have hz4:w.heap.size≤w4.heap.size:=by omega
 clear hbel hfar hW hr hone hl hCs ht hRf S1 S2 S3;go_wp2_with fail
 refine bodyPost_ret (v:=.agg C) (oX Tryz.results40 rfl (by simpa using hld)) rfl ⟨v1,v2,v3,?_,⟨s1.out.mono hz4,s2.out.mono hz4,s3.out.mono hz4⟩,HBel.out⟩;rw[HV.out]
end
open Go.RowKit Go.WideMaps Go.ZW.PrintWords Go.Proofs.YtcdgldnphhidlaaGreatDoor.Base Go.Proofs.YtcdgldnphhidlaaGreatDoor.Lower Go.Proofs.YtcdgldnphhidlaaGreatDoor.Total Go.Proofs.YtcdgldnphhidlaaGreatDoor.PCore
structure mM (w:World) (st:eW) (vl vd vf vc:Value):Prop extends SiteIn w st vl vd vf vc where
 ll:st.langs.length≤9223372036854775807
 dl:st.dis.length≤9223372036854775807
 fl:st.fmts.length≤9223372036854775807
 cl:st.cont.length≤9223372036854775807
theorem mM.below {w w' : World} {st:eW} {vl vd vf vc:Value} (H:mM w st vl vd vf vc) (hb:Below w.heap.size w w'):mM w' st vl vd vf vc :=
 ⟨H.toSiteIn.below hb,H.ll,H.dl,H.fl,H.cl⟩
def rB (st:eW):Bool:=Total.fits1 st.langs st.dis (st.fmts.map mkF) st.cont
def shortS (st:eW) (comp s:ByteArray):Bool:=xJ st.langs st.dis (st.fmts.map mkF) st.cont comp s
section
variable {w:World} {st:eW} {vl vd vf vc:Value}
theorem qO (S:mM w st vl vd vf vc):Calls Tryz.prog 15 #[.agg #[vl,vd,vf,vc]] w fun e w'=>e = .returned (.bool (rB st))∧Below w.heap.size w w':=by
 obtain ⟨k,hk⟩:=(Total.ev_fits1 st.langs st.dis (st.fmts.map mkF) st.cont).rounds;obtain ⟨A0,c0,rfl,h0,r0⟩:=S.l.kd S.ll;obtain ⟨A1,c1,rfl,h1,r1⟩:=S.d.kd S.dl;obtain ⟨A2,c2,rfl,h2,r2⟩:=S.f.kd S.fl;obtain ⟨A3,c3,rfl,h3,r3⟩:=S.c.kd S.cl;exact lH.calls k A0 c0 _ A1 c1 _ A2 c2 _ A3 c3 _ _ w r0 h0 r1 h1 r2 h2 r3 h3 hk
theorem aFq (S:mM w st vl vd vf vc) (hf:rB st=true) (comp s:ByteArray) (hcs:comp.size+s.size≤3 * MM):Calls Tryz.prog 16 #[.agg #[vl,vd,vf,vc],.string comp,.string s] w fun e w'=>e = .returned (.bool (shortS st comp s))∧Below w.heap.size w w':=by
 obtain ⟨k,hk⟩:=(aIx st.langs st.dis (st.fmts.map mkF) st.cont comp s hf hcs).rounds;obtain ⟨A0,c0,rfl,h0,r0⟩:=S.l.kd S.ll;obtain ⟨A1,c1,rfl,h1,r1⟩:=S.d.kd S.dl;obtain ⟨A2,c2,rfl,h2,r2⟩:=S.f.kd S.fl;obtain ⟨A3,c3,rfl,h3,r3⟩:=S.c.kd S.cl;exact gG.calls k A0 c0 _ A1 c1 _ A2 c2 _ A3 c3 _ comp s _ w r0 h0 r1 h1 r2 h2 r3 h3 hk
theorem aDh {l:List ByteArray} (h:fewB l=true):l.length≤2000∧∀ x∈l,x.size≤2000:=by
 unfold fewB at h;simp only[decide_eq_true_eq] at h;refine ⟨aM,fun x hx=>?_⟩
 have:x.size≤wt l:=by
  unfold wt
  induction l with
  | nil=>cases hx
  | cons a r ih =>
   simp only[List.map_cons,List.sum_cons];rcases List.mem_cons.1 hx with rfl | hx
   ·omega
   have:=ih (by simp only[wt,List.map_cons,List.sum_cons,List.length_cons] at h;simp only[wt];omega) hx;omega
 omega
theorem aKl (l:List (S46)):l.length≤wt3 l:=by
 unfold wt3
 induction l with
 | nil=>simp
 | cons a r ih=>simp only[List.map_cons,List.sum_cons,List.length_cons];omega
theorem aKm (l:List (S46)) (x:S46) (hx:x∈l):x.f0.size+x.f1.size≤wt3 l:=by
 unfold wt3
 induction l with
 | nil=>cases hx
 | cons a r ih =>
  simp only[List.map_cons,List.sum_cons];rcases List.mem_cons.1 hx with rfl | hx
  ·omega
  have:=ih hx;omega
theorem tA {comp s:ByteArray} (h:shortS st comp s=true):jF st∧comp.size≤2000∧s.size≤2000∧st.langs.length≤2000∧st.dis.length≤2000∧(st.fmts.map mkF).length≤2000∧st.cont.length≤2000∧(∀ x∈st.langs,x.size≤2000)∧(∀ x∈st.dis,x.size≤2000)∧(∀ x∈st.fmts.map mkF,x.f0.size≤2000∧x.f1.size≤2000)∧(∀ x∈st.cont,x.size≤2000):=by
 unfold shortS xJ at h;simp only[Bool.and_eq_true,decide_eq_true_eq] at h;obtain ⟨h0,h1,h2,h3⟩:=h;obtain ⟨a1,a2⟩:=aDh h1;obtain ⟨b1,b2⟩:=aDh h2;obtain ⟨c1,c2⟩:=aDh h3;have hw:=aKl (st.fmts.map mkF);have hm:=aKm (st.fmts.map mkF);have hlen:(st.fmts.map mkF).length=st.fmts.length:=by simp
 refine ⟨⟨aM,aM,aM,aM,fun x hx=>Nat.le_trans (a2 x hx) bA⟩,aM,aM,a1,b1,aM,c1,a2,b2,fun x hx=>?_,c2⟩;have:=hm x hx;omega
theorem zW {s:ByteArray} (h:Ext.ascii (L s)=true):asc s:=by
 intro j c hc;have:=List.all_eq_true.1 h c (List.mem_of_getElem? hc);simp only[decide_eq_true_eq] at this;omega
theorem tM (S:mM w st vl vd vf vc) (comp s:ByteArray) (h:shortS st comp s=true):∃ r:Bool,(r=true→asc s∧asc comp∧s.size≤400∧lF st comp s)∧∀ w',Below w.heap.size w w'→Calls Tryz.prog 38 #[.agg #[vl,vd,vf,vc],.string comp,.string s] w' fun e w''=>e = .returned (.bool r)∧Below w'.heap.size w' w'':=by
 obtain ⟨_,h1,h2,h3,h4,h5,h6,h7,h8,h9,h10⟩:=tA h;obtain ⟨r,hr,hp⟩:=xN st.langs st.dis (st.fmts.map mkF) st.cont comp s bA bA bA bA (fun x hx=>Nat.le_trans (h7 x hx) bA) (fun x hx=>Nat.le_trans (h8 x hx) bA) (fun x hx=>⟨Nat.le_trans (h9 x hx).1 bA,Nat.le_trans (h9 x hx).2 bA⟩) (fun x hx=>Nat.le_trans (h10 x hx) bA) bA bA;obtain ⟨k,hk⟩:=hr.rounds;refine ⟨r,fun e=>⟨zW (hp e).ascY,zW (hp e).ascX,(hp e).most,hp e⟩,fun w' hb=>?_⟩;have S':=S.below hb;obtain ⟨A0,c0,rfl,g0,r0⟩:=S'.l.kd S.ll;obtain ⟨A1,c1,rfl,g1,r1⟩:=S'.d.kd S.dl;obtain ⟨A2,c2,rfl,g2,r2⟩:=S'.f.kd S.fl;obtain ⟨A3,c3,rfl,g3,r3⟩:=S'.c.kd S.cl
 exact iS.calls k A0 c0 _ A1 c1 _ A2 c2 _ A3 c3 _ comp s _ w' r0 g0 r1 g1 r2 g2 r3 g3 hk
end
end Go.Proofs.YtcdgldnphhidlaaGreatDoor.Path
namespace Go.Proofs.YtcdgldnphhidlaaGreatDoor.SiteRow
open Go.ChangeShapes Go.WideShapes Go.ChangeAt Go.RowKit Go.Joins Go.Deep Go.Proofs.YtcdgldnphhidlaaGreatDoor.Path
theorem laidOut:laidOutB Tryz.prog=true:=by kernel_rfl
theorem aCv {a:Addr} (h:a.spot=none) (j:Nat):a.add j=⟨a.block,a.off+j,none⟩:=by
 cases a with
 | mk b o s =>
  simp only at h;subst h;unfold Addr.add;split
  ·rename_i h0;subst h0;rfl
  rfl
theorem aB1 {w:World} {a:Addr} {v:Value} (h:w.cell? a=some v):a.spot=none:=by
 unfold World.cell? at h;split at h
 ·cases hs:a.spot with
  | none=>rfl
  | some x=>rw[hs] at h;simp at h
 cases h
section
variable {H:Type} {enc:TypeId×Value→H} {W:World}
theorem open_strs {n:Nat} {v:Value} {y:DataW H×List MemPlace} (h:DataW.trod enc Tryz.prog W 0 (fun _=>true) true n 22 [v]=some y):∃ l,eV W 0 v l∧l.length≤9223372036854775807:=by
 rcases open_strings Tryz.underlying22 Tryz.underlying9 bB h with ⟨hcs,_⟩ | ⟨a,len,cap,ss,hcs,_,hl,hm,hz,_,hcell,_⟩
 ·injection hcs with hcs
  subst hcs;exact ⟨[],eV.nil _ _ _ _,dX⟩
 injection hcs with hcs
 subst hcs;simp only[if_true] at hz;have hlen:(ss.take len).length=len:=by rw[List.length_take];omega
 have hmx:cap≤9223372036854775807:=by have:=hm;unfold maxLen at this;omega
 refine ⟨ss.take len,⟨some a,cap,by rw[hlen],by rw[hlen];exact hl,fun hp=>?_⟩,by rw[hlen];omega⟩;rw[hlen] at hp;have hsp:a.spot=none:=aB1 (show W.cell? a=_ by have:=hcell 0 bA;rwa[show a.add 0=a by simp[Addr.add]] at this);refine ⟨a.block,a.off,by cases a;simp only at hsp;subst hsp;rfl,Nat.zero_le _,fun j hj=>?_⟩;have hj2:j < len:=by rw[hlen] at hj;exact hj
 have:=hcell j bA;rw[aCv hsp] at this;rw[this];congr 2;rw[List.getElem_take,List.getD_eq_getElem?_getD,List.getElem?_eq_getElem bA];rfl
theorem aH8 {n:Nat} {v:Value} {y:DataW H×List MemPlace} (h:DataW.trod enc Tryz.prog W 0 (fun _=>true) true n 23 [v]=some y):∃ l,nG W 0 v l∧l.length≤9223372036854775807:=by
 rcases open_slice Tryz.underlying23 h with ⟨hcs,_⟩ | ⟨a,len,cap,m,n2,D,Pl,hcs,_,hl,hm,hmm,_,hi⟩
 ·injection hcs with hcs
  subst hcs;exact ⟨[],⟨none,0,rfl,Nat.le_refl _,fun h=>absurd h bI⟩,dX⟩
 injection hcs with hcs
 subst hcs;simp only[if_true] at hmm;have hmx:cap≤9223372036854775807:=by have:=hm;unfold maxLen at this;omega
 have h2:Tryz.prog.cellsOf 46=2:=by kernel_rfl
 have each:∀ i,i < len→∃ x:ByteArray×ByteArray,W.cell? (a.add (i * 2))=some (.string x.1)∧W.cell? (a.add (i * 2+1))=some (.string x.2):=by
  intro i hil;obtain ⟨cs,hc,ht⟩:=hi i bA;rw[h2] at hc;obtain ⟨_,hcl,hat⟩:=World.cells?_some hc;obtain ⟨y0,y1,n3,_,_,h0,h1⟩:=trod_struct2 Tryz.underlying46 ht
  match cs,hcl with
  | [c0,c1],_ =>
   have e0:DataW.trod enc Tryz.prog W 0 (fun _=>true) true n3 9 [c0]=some y0:=h0;have e1:DataW.trod enc Tryz.prog W 0 (fun _=>true) true n3 9 [c1]=some y1:=h1;obtain ⟨s0,hs0,_⟩:=DataW.trod_string Tryz.underlying9 e0;obtain ⟨s1,hs1,_⟩:=DataW.trod_string Tryz.underlying9 e1;injection hs0 with hs0
   injection hs1 with hs1
   subst hs0 hs1;have a0:=hat 0 bA;have a1:=hat 1 bA;rw[Go.Deep.add_add] at a0 a1;exact ⟨(s0,s1),a0,a1⟩
 obtain ⟨f,hf⟩:=choose_lt each;have hlen:((List.range len).map f).length=len:=by simp
 refine ⟨(List.range len).map f,⟨some a,cap,by rw[hlen],by rw[hlen];exact hl,fun hp=>?_⟩,by rw[hlen];omega⟩;rw[hlen] at hp;have hsp:a.spot=none:=aB1 (show W.cell? a=_ by have:=(hf 0 hp).1;rwa[show a.add (0 * 2)=a by simp[Addr.add]] at this);refine ⟨a.block,a.off,by cases a;simp only at hsp;subst hsp;rfl,Nat.zero_le _,fun j hj=>?_⟩;have hj2:j < len:=by rw[hlen] at hj;exact hj
 obtain ⟨g1,g2⟩:=hf j hj2;rw[aCv hsp] at g1 g2;rw[g1,g2]
 simp
theorem open_site {r:Reach} {base:Nat} {v:Value} {d:DataW H} {p:List MemPlace} (hv:Value.okWide Tryz.prog W r base 25 v) (h:DataW.Trod enc Tryz.prog W 0 (fun _=>true) true 25 v d p) :
 ∃ st vl vd vf vc,v = .agg #[vl,vd,vf,vc]∧mM W st vl vd vf vc:=by
 obtain ⟨v0,v1,v2,v3,y0,y1,y2,y3,n,rfl,_,_,h0,h1,h2,h3⟩:=open_agg4 Tryz.underlying25 bB bB hv h;obtain ⟨l0,s0,z0⟩:=open_strs h0;obtain ⟨l1,s1,z1⟩:=open_strs h1;obtain ⟨l2,s2,z2⟩:=aH8 h2;obtain ⟨l3,s3,z3⟩:=open_strs h3;exact ⟨⟨l0,l1,l2,l3⟩,v0,v1,v2,v3,rfl,⟨⟨s0,s1,s2,s3⟩,z0,z1,z2,z3⟩⟩
end
end Go.Proofs.YtcdgldnphhidlaaGreatDoor.SiteRow
namespace Go.Proofs.YtcdgldnphhidlaaGreatDoor.Path
open Go.RowKit Go.WideMaps Go.ZW.PrintWords Go.Proofs.YtcdgldnphhidlaaGreatDoor.Base Go.Proofs.YtcdgldnphhidlaaGreatDoor.Lower Go.Proofs.YtcdgldnphhidlaaGreatDoor.Total Go.Proofs.YtcdgldnphhidlaaGreatDoor.PCore
theorem rP {P:Program} {fn:Func} {tmps:Array Value} {a u:Nat} {t:TypeId} {v:Value} {w:World} {x:Addr} (hf:fn.results = #[.cell a t,.tmp u]) (ha:tmps.getD a undef = .pointer (some x)) (hl:(loadVar t x).run P w = .ok v w) :
 (results fn tmps).run P w = .ok (.tuple #[v,tmps.getD u undef]) w:=by
 unfold results;rw[hf];have ha' : tmps[a]?.getD undef = .pointer (some x):=by simpa using ha
 simp[Sem.run_bind,ha',hl,asAddr]
theorem kZ {ops:Array Oper} {rest:List Oper} {op:Oper} {a:Act} {w:World} {Q:Exit→Act→World→Prop} (hgd:op.guard=none) (x y:Operand) (ho:op.op = .store 35 x y) (b:Nat) (C:Array Value)
 (hx:a.eval x = .pointer (some ⟨b,0,none⟩)) (hy:a.eval y = .agg C) {cs:List Value} (hR:Row w b cs) (hcs:cs.length=31) (hC:C.size=31) (hone:C.all (·.oneCell')=true) (h:wpList Tryz.prog ops Q rest (a.put op.dst undef) (w.setCells b 0 C.toList)) :
 wpList Tryz.prog ops Q (op::rest) a w:=by
 have ht:w.there b 0 31:=hcs▸hR.there;exact wpList_store_mid hgd 35 x y ho b 0 C hx hy (by rw[hC];exact ht) (by rw[hC];kernel_rfl) hone h
theorem uE {w:World} {b:Nat} {C:Array Value} {cs:List Value} (hR:Row w b cs) (hcs:cs.length=31) (hC:C.size=31):(loadVar 35 ⟨b,0,none⟩).run Tryz.prog (w.setCells b 0 C.toList) = .ok (.agg C) (w.setCells b 0 C.toList):=by
 have ht:w.there b 0 31:=hcs▸hR.there;have hl:C.toList.length=31:=by simpa using hC
 have hr:=World.rangeAt_setCells_same w b 0 C.toList (by rw[hl];exact ht);have hld:=run_loadVar_mid (P:=Tryz.prog) _ b 0 35 C.toList _ hr Tryz.underlying35 rfl (by rw[hl];kernel_rfl)
 simpa using hld
def aCq:gK:=⟨⟨#[]⟩,⟨#[]⟩,⟨#[]⟩,⟨#[]⟩,⟨#[]⟩,⟨#[]⟩,⟨#[]⟩,⟨#[]⟩,⟨#[]⟩,⟨#[]⟩,⟨#[]⟩,⟨#[]⟩,⟨#[]⟩,⟨#[]⟩,⟨#[]⟩,⟨#[]⟩,⟨#[]⟩,⟨#[]⟩,⟨#[]⟩,⟨#[]⟩,⟨#[]⟩,[],[],[],false,false,false,false,false,false,0⟩
open Go.RowKit Go.WideMaps Go.ZW.PrintWords Go.Proofs.YtcdgldnphhidlaaGreatDoor.Base Go.Proofs.YtcdgldnphhidlaaGreatDoor.Lower
theorem sB {w:World} {b:Nat} {C:Array Value} {cs:List Value} (hR:Row w b cs) (hcs:cs.length=31) (hC:C.size=31):∀ (j:Nat) (v:Value),C.toList[j]? = some v→(w.setCells b 0 C.toList).cell? ⟨b,j,none⟩=some v:=by
 have ht:w.there b 0 31:=hcs▸hR.there;have hl:C.toList.length=31:=by simpa using hC
 have hr:=World.rangeAt_setCells_same w b 0 C.toList (by rw[hl];exact ht);intro j v hv;have:=hr j v hv;rwa[Nat.zero_add] at this
theorem sC (w:World) (C:Array Value):Below w.heap.size w ((w.alloc (.cells eZ.toArray 35)).setCells w.heap.size 0 C.toList) :=
 below_setCells (Nat.le_refl _) _ _ _ ((Below.refl _ _).alloc (Nat.le_refl _) _)
section
variable {w:World}
theorem aE2 (l:List ByteArray) (hl:l.length≤1000000):∀ (n j:Nat),l.length - j=n→j≤l.length→Ev (fun k=>Go.Proofs.YtcdgldnphhidlaaGreatDoor.PTexts.laws_texts.l0 k l l (l.length:Int) (j:Int)) true:=by
 intro n
 induction n with
 | zero =>
  intro j h1 h2;refine Ev.step (f:=fun _=>some true) (fun k=>?_) (Ev.now _);simp only[Go.Proofs.YtcdgldnphhidlaaGreatDoor.PTexts.laws_texts.l0];rw[if_neg bA]
 | succ n ih =>
  intro j h1 h2;refine Ev.step (fun k=>?_) (ih (j+1) bA bA);simp only[Go.Proofs.YtcdgldnphhidlaaGreatDoor.PTexts.laws_texts.l0];rw[if_pos bA,if_pos bA,if_pos bA,if_pos bA,if_pos trivial,w64 bA bA];rfl
theorem uD {v u:Value} {l:List ByteArray} (H:eV w 0 v l) (H' : eV w 0 u l) (hl:l.length≤1000000):Calls Tryz.prog 35 #[v,u] w fun e w'=>e = .returned (.bool true)∧Below w.heap.size w w':=by
 have h:Ev (fun k=>Go.Proofs.YtcdgldnphhidlaaGreatDoor.PTexts.laws_texts.f k l l) true:=by
  refine Ev.congr (fun k=>?_) (aE2 l hl l.length 0 bA bA);unfold Go.Proofs.YtcdgldnphhidlaaGreatDoor.PTexts.laws_texts.f;rw[if_pos rfl];rfl
 obtain ⟨k,hk⟩:=h.rounds;obtain ⟨A0,c0,rfl,h0,r0⟩:=H.kd bA;obtain ⟨A1,c1,rfl,h1,r1⟩:=H'.kd bA
 exact (Go.Proofs.YtcdgldnphhidlaaGreatDoor.PTexts.laws_texts.calls k A0 c0 l A1 c1 l true w r0 h0 r1 h1 hk).mono fun _ _ ⟨h1,h2⟩=>⟨h1,h2.below⟩
end
section
variable {P:Program} {md:Region.Mode} {ops:Array Oper} {Q:Exit→Act→World→Prop} {S:World→Prop} {fuel:Nat} {listed:Array Bool} {a:Act} {w:World}
theorem takeD {i:Nat} {oi:Oper} {d:Option Tmp} {v:Value} (hi:ops[i]? = some oi) (hd:oi.dst=d)
 (hs:Region.noSelect ops=true) (hf:Region.free md ops listed i=true) (hr:(Region.ready md ops listed).contains i=true)
 (hQ:∀ c a w,Q (.panic c) (a.put d v) w→Q (.panic c) a w) (hy:YieldsIf P ops S oi v a) (hS:S w)
 (h:wpAnyH P md ops Q S fuel (listed.setIfInBounds i true) (a.put d v) w):wpAnyH P md ops Q S (fuel+1) listed a w:=by
 subst hd;exact wpAnyH_take hi hs hf hr hQ hy hS h
theorem tH {i:Nat} {o:Oper} {d:Option Tmp} {v:Value} {w' : World} {rs:List Nat} (ho:ops[i]? = some o) (hd:o.dst=d) (hw:Region.wanted o (yielded ops a.tmps)=true)
 (step:∀ K:Act→World→Prop,K (a.put o.dst v) w'→Oper.wp P o a w K Q) (hS:S w')
 (h:wpAnyH P md ops Q S fuel (listed.setIfInBounds i true) (a.put d v) w')
 (more:AllReadyH P md ops Q S fuel listed a w rs):AllReadyH P md ops Q S fuel listed a w (i::rs):=by
 subst hd;refine AllReadyH.cons ho (fun K hK=>?_) more;rw[if_pos hw];exact step K (hK.out _ _ hS (fun _=>h))
end
section
variable {w:World} {o:Oper} {a:Act} {K:Act→World→Prop} {Q:Exit→Act→World→Prop}
theorem rW (hop:o.op = .alloc 35) (h:K (a.put o.dst (.pointer (some ⟨w.heap.size,0,none⟩))) (w.alloc (.cells TZ 35))):Oper.wp Tryz.prog o a w K Q:=by
 unfold Oper.wp execOp;simp only[hop];go_simp;exact h
end
theorem aEh (w:World):(w.alloc (.cells TZ 35)).there w.heap.size 0 31:=(Row.new w eZ _).there
theorem Row.range {w:World} {b:Nat} {cs:List Value} (H:Row w b cs):w.rangeAt b 0 cs:=by
 intro j v hv;rw[Nat.zero_add];obtain ⟨hj,e⟩:=List.getElem?_eq_some_iff.1 hv;rw[(H j hj).1,e]
theorem there_alloc {w:World} {b n:Nat} (h:w.there b 0 n) (o:Obj) (hb:b < w.heap.size):(w.alloc o).there b 0 n:=by
 intro j hj;have hh:(w.alloc o).heap[b]? = w.heap[b]?:=Below.heap_alloc w o b hb;obtain ⟨h1,h2⟩:=h j hj;exact ⟨by rw[World.cell?_of_block (a:=⟨b,0+j,none⟩) hh];exact h1,by rw[World.frozen?_of_block (a:=⟨b,0+j,none⟩) hh];exact h2⟩
theorem tR {w w' : World} {b n:Nat} (h:w.there b 0 n) (hh:w'.heap[b]? = w.heap[b]?):w'.there b 0 n:=by
 intro j hj;obtain ⟨h1,h2⟩:=h j hj;exact ⟨by rw[World.cell?_of_block (a:=⟨b,0+j,none⟩) hh];exact h1,by rw[World.frozen?_of_block (a:=⟨b,0+j,none⟩) hh];exact h2⟩
theorem tN {w w' : World} {b:Nat} {cs:List Value} (h:w.rangeAt b 0 cs) (hh:w'.heap[b]? = w.heap[b]?):w'.rangeAt b 0 cs:=by
 intro j v hv;rw[World.cell?_of_block (a:=⟨b,0+j,none⟩) hh];exact h j v hv
end Go.Proofs.YtcdgldnphhidlaaGreatDoor.Path
