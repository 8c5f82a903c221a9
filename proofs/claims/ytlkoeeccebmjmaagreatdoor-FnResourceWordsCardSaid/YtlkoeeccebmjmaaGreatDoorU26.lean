/- Texts that the law leans on: Parse, Impl, Args, SiteRow, Asked0, ViewKit, Texts, Take, ViewU, Views. Condition: as told at each. -/
import Derived.SliceStrings
import Derived.Deep.Slices
import Derived.Deep.Fields
import Derived.Lib.SmallJoins
import Derived.ChangeSame
import Derived.Carry
import Derived.Test.YtlkoeeccebmjmaaGreatDoorUa
import Derived.Test.YtlkoeeccebmjmaaGreatDoorU21
import Derived.Test.YtlkoeeccebmjmaaGreatDoorU22
import Derived.Test.YtlkoeeccebmjmaaGreatDoorU25
set_option linter.unusedVariables false
set_option linter.unusedSimpArgs false
set_option maxRecDepth 100000
set_option maxHeartbeats 16000000
namespace Go.Proofs.YtlkoeeccebmjmaaGreatDoor.Path
open Go.RowKit Go.WideMaps Go.ZW.PrintWords Go.Proofs.YtlkoeeccebmjmaaGreatDoor.Base Go.Proofs.YtlkoeeccebmjmaaGreatDoor.Lower Go.Proofs.YtlkoeeccebmjmaaGreatDoor.Norm
theorem aH9 {s:ByteArray} (h:asc s):∀ c∈L s,c.toNat≤127:=by
 intro c hc;obtain ⟨k,hk⟩:=List.mem_iff_getElem?.1 hc;have:=h k c hk;omega
theorem aGw {s:ByteArray} (h:asc s):asc (norm s):=by
 intro j c hc;have e:(norm s).data.toList=(L s).map fun c=>lT (jI c):=aFs s;rw[e,List.getElem?_map] at hc
 cases hx:(L s)[j]? with
 | none=>rw[hx] at hc;cases hc
 | some x =>
  rw[hx] at hc;injection hc with hc
  have hx2:=h j x hx
  have h1:(jI x).toNat < 128:=by
   unfold jI;split
   ·rename_i h1
    rw[UInt8.toNat_add];have:(32:UInt8).toNat=32:=rfl;omega
   exact hx2
  rw[← hc];show (if jI x=32 then (45:UInt8) else jI x).toNat < 128
  by_cases c:jI x=32
  ·rw[if_pos c];decide
  rw[if_neg c];exact h1
theorem eH.lower {w:World} {B B' b:Nat} {p:eG} {vk vu vl u:Value} (H:eH w B b p vk vu vl u) (h:B'≤B):eH w B' b p vk vu vl u :=
 ⟨Nat.le_trans h H.base,H.row,pP H.ok h,pP H.ou h,pP H.ol h,H.nk,H.nu,H.nl,H.ku⟩
def aBf (w:World) (B:Nat) (E:Env) (comp s:ByteArray) (b ub:Nat) (vk vu vl:Value):Prop :=
 eH w B b (hJ E comp (norm s)) vk vu vl (.pointer (some ⟨ub,0,none⟩))∧∃ vk2 vu2 vl2 u2,eH w B ub (hJ E comp s) vk2 vu2 vl2 u2
theorem aBf.below {w w' : World} {B:Nat} {E:Env} {comp s:ByteArray} {b ub:Nat} {vk vu vl:Value} (H:aBf w B E comp s b ub vk vu vl) (hb:Below w.heap.size w w'):aBf w' B E comp s b ub vk vu vl:=by
 obtain ⟨h1,vk2,vu2,vl2,u2,h2⟩:=H;exact ⟨h1.below hb,vk2,vu2,vl2,u2,h2.below hb⟩
section
variable {w:World} {pb mb sb fb:Nat} {st:fM} {sl sd sf sc:Value}
theorem aD0 (S:iU w pb st sl sd sf sc mb sb fb) (OS:jN st) (comp s:ByteArray) (hs:s.size≤900000) (ha:asc s) :
 Calls Tryz.prog 66 #[.pointer (some ⟨pb,0,none⟩),.string comp,.string s] w fun e w' =>
  ∃ b ub vk vu vl,e = .returned (.tuple #[.pointer (some ⟨b,0,none⟩),.nilIface])∧aBf w' w.heap.size (eJ st) comp s b ub vk vu vl∧Below w.heap.size w w':=by
 have HS:=bX S;have cn:=tQ s w bA (aH9 ha);have hns:(norm s).size≤900000:=by rw[norm_size];exact hs
 have han:=aGw ha
 obtain ⟨t,ht⟩:∃ t,norm s=t:=⟨_,rfl⟩
 rw[ht] at cn hns han;have HT:=bX ht;have HA:=bX ha;have HAN:=bX han;clear S ha han ht;go_enter Tryz.func66,Tryz.ntmps66;go_wp2_with fail
 refine cn.mono ?_;rintro e w1 ⟨rfl,hb1⟩;have HS1:=bX (HS.out.below hb1);have HB1:=bX hb1;clear cn hb1;have cnew:=uC w1 (.pointer (some ⟨pb,0,none⟩)) comp;go_wp2_with fail
 refine cnew.mono ?_;rintro e w2 ⟨rfl,hp2,hb2⟩;have HP2:=bX hp2;have HB2:=bX hb2;have cd:=aBt HS1.out OS hb2 comp hp2 t hns HAN.out;clear cnew hp2 hb2;go_wp2_with fail
 refine cd.mono ?_;rintro e w3 ⟨rfl,vk,vu,vl,hp3,hm3⟩;have HP3:=bX hp3;have HB3:=bX (HB2.out.trans (eZ.below HP2.out hm3));clear cd hp3 hm3
 obtain ⟨b1,hb1⟩:∃ b1,w1.heap.size=b1:=⟨_,rfl⟩
 have HBB:=bX hb1;rw[hb1] at HP3 HB3 ⊢;have hlt:=HP3.out.lt;have HLT:=bX hlt;clear hb1 hlt
 obtain ⟨z,hz⟩:∃ z,(s.toList==t.toList)=z:=⟨_,rfl⟩
 have hz2:(s.toList != t.toList) = !z:=by rw[bne,hz]
 have HZ:=bX hz;cases z
 ·have HS3:=bX (HS1.out.below (HBB.out▸HB3.out))
  have HB03:Aside0 (Below w.heap.size w w3):=⟨HB1.out.trans (HB3.out.mono (by rw[← HBB.out];exact HB1.out.size))⟩
  have cnew:=uC w3 (.pointer (some ⟨pb,0,none⟩)) comp;clear HP2 HB2;go_wp2_with fail
  refine cnew.mono ?_;rintro e w4 ⟨rfl,hp4,hb4⟩;have HP4:=bX hp4;have HB4:=bX hb4;have cd:=aBt HS3.out OS hb4 comp hp4 s hs HA.out;clear cnew hp4 hb4;have q25:=HP3.out.row.at 25 _ rfl;have f25:=HP3.out.row.free 25 bI;go_wp2_with fail
  refine cd.mono ?_;rintro e w5 ⟨rfl,vk2,vu2,vl2,hp5,hm5⟩;have HB5:=bX (HB4.out.trans (eZ.below HP4.out hm5));have HP5:=bX (HP3.out.below HB5.out);have HQ5:=bX hp5;clear cd hp5 hm5 q25 f25;have q25:=HP5.out.row.at 25 _ rfl;have f25:=HP5.out.row.free 25 bI;go_wp2_with fail
  have hpa:=HP5.out.put 25 (.pointer (some ⟨w3.heap.size,0,none⟩)) (mDo (eJ st) comp t { gC with comp:=comp }) (.pointer (some ⟨w3.heap.size,0,none⟩)) rfl rfl rfl rfl bA;have hqa:eH (w5.setCell ⟨b1,25,none⟩ (.pointer (some ⟨w3.heap.size,0,none⟩))) w3.heap.size w3.heap.size (hJ (eJ st) comp s) vk2 vu2 vl2 (.pointer none):=HQ5.out.beside (a:=⟨b1,25,none⟩) (by have:=HLT.out;show w3.heap.size≠b1;omega) (pW HQ5.out.ok HLT.out) (pW HQ5.out.ou HLT.out) (pW HQ5.out.ol HLT.out) (.pointer (some ⟨w3.heap.size,0,none⟩));have hbz:Below w.heap.size w (w5.setCell ⟨b1,25,none⟩ (.pointer (some ⟨w3.heap.size,0,none⟩))):=(HB03.out.trans (HB5.out.mono HB03.out.size)).setCell (p:=⟨b1,25,none⟩) (by rw[← HBB.out];exact HB1.out.size) (.pointer (some ⟨w3.heap.size,0,none⟩))
  refine bodyPost_ret (results_tmp2 bJ _ _ _) rfl ⟨b1,w3.heap.size,vk,vu,vl,rfl,⟨?_,vk2,vu2,vl2,_,hqa.lower HB03.out.size⟩,hbz⟩;have:=hpa.lower (B':=w.heap.size) (by rw[← HBB.out];exact HB1.out.size);rw[← HT.out] at this;exact this
 have q25:=HP3.out.row.at 25 _ rfl;have f25:=HP3.out.row.free 25 bI
 have HST:=bX (show norm s=s by
  rw[HT.out];refine (L_inj ?_).symm;have h9:=beq_iff_eq.1 HZ.out;rw[L_toList,L_toList] at h9
  exact h9)
 clear HP2 HB2;go_wp2_with fail
 have hpa:=HP3.out.put 25 (.pointer (some ⟨b1,0,none⟩)) (mDo (eJ st) comp t { gC with comp:=comp }) (.pointer (some ⟨b1,0,none⟩)) rfl rfl rfl rfl bA;have hbz:Below w.heap.size w (w3.setCell ⟨b1,25,none⟩ (.pointer (some ⟨b1,0,none⟩))):=(HB1.out.trans (HB3.out.mono (by rw[← HBB.out];exact HB1.out.size))).setCell (p:=⟨b1,25,none⟩) (by rw[← HBB.out];exact HB1.out.size) (.pointer (some ⟨b1,0,none⟩));have hp:=hpa.lower (B':=w.heap.size) (by rw[← HBB.out];exact HB1.out.size);rw[← HT.out] at hp;refine bodyPost_ret (results_tmp2 bJ _ _ _) rfl ⟨b1,b1,vk,vu,vl,rfl,⟨hp,vk,vu,vl,.pointer (some ⟨b1,0,none⟩),?_⟩,hbz⟩;have h8:=hp;rw[HST.out] at h8;exact h8
theorem wL (S:iU w pb st sl sd sf sc mb sb fb) (OS:jN st) (comp s:ByteArray) (hs:s.size≤900000) (ha:asc s) :
 Calls Tryz.prog 41 #[.pointer (some ⟨pb,0,none⟩),.string comp,.string s] w fun e w' =>
  ∃ b ub vk vu vl,e = .returned (.pointer (some ⟨b,0,none⟩))∧aBf w' w.heap.size (eJ st) comp s b ub vk vu vl∧Below w.heap.size w w':=by
 have c:=aD0 S OS comp s hs ha;clear S hs ha;go_enter Tryz.func41,Tryz.ntmps41;go_wp2_with fail
 refine c.mono ?_;rintro e w' ⟨b,ub,vk,vu,vl,rfl,hp,hb⟩;have HP:=bX hp;have HB:=bX hb;clear c hp hb;go_wp2_with fail
 go_ret;exact ⟨b,ub,vk,vu,vl,rfl,HP.out,HB.out⟩
end
open Go.RowKit Go.WideMaps Go.ZW.PrintWords Go.Proofs.YtlkoeeccebmjmaaGreatDoor.Base Go.Proofs.YtlkoeeccebmjmaaGreatDoor.Lower
structure SiteIn (w:World) (st:fM) (vl vd vf vc:Value):Prop where
 l:fA w 0 vl st.langs
 d:fA w 0 vd st.dis
 f:mV w 0 vf st.fmts
 c:fA w 0 vc st.cont
theorem SiteIn.below {w w' : World} {st:fM} {vl vd vf vc:Value} (H:SiteIn w st vl vd vf vc) (hb:Below w.heap.size w w'):SiteIn w' st vl vd vf vc :=
 ⟨H.l.below hb,H.d.below hb,H.f.below hb,H.c.below hb⟩
def Told (w:World) (B:Nat) (p:eG) (v1 v2 v3:Value):Prop:=fA w B v1 (kV p)∧fA w B v2 (kM p)∧fA w B v3 (lM p)
theorem Told.below {w w' : World} {B:Nat} {p:eG} {v1 v2 v3:Value} (H:Told w B p v1 v2 v3) (hb:Below w.heap.size w w'):Told w' B p v1 v2 v3:=⟨H.1.below hb,H.2.1.below hb,H.2.2.below hb⟩
open Go.RowKit Go.WideMaps Go.ZW.PrintWords Go.Proofs.YtlkoeeccebmjmaaGreatDoor.Base Go.Proofs.YtlkoeeccebmjmaaGreatDoor.Lower Go.Proofs.YtlkoeeccebmjmaaGreatDoor.Total Go.Proofs.YtlkoeeccebmjmaaGreatDoor.PCore
structure mQ (w:World) (st:fM) (vl vd vf vc:Value):Prop extends SiteIn w st vl vd vf vc where
 ll:st.langs.length≤9223372036854775807
 dl:st.dis.length≤9223372036854775807
 fl:st.fmts.length≤9223372036854775807
 cl:st.cont.length≤9223372036854775807
theorem mQ.below {w w' : World} {st:fM} {vl vd vf vc:Value} (H:mQ w st vl vd vf vc) (hb:Below w.heap.size w w'):mQ w' st vl vd vf vc :=
 ⟨H.toSiteIn.below hb,H.ll,H.dl,H.fl,H.cl⟩
def aBd (st:fM):Bool:=Total.fits1 st.langs st.dis (st.fmts.map mkF) st.cont
def shortS (st:fM) (comp s:ByteArray):Bool:=yQ st.langs st.dis (st.fmts.map mkF) st.cont comp s
section
variable {w:World} {st:fM} {vl vd vf vc:Value}
theorem vV (S:mQ w st vl vd vf vc):Calls Tryz.prog 11 #[.agg #[vl,vd,vf,vc]] w fun e w'=>e = .returned (.bool (aBd st))∧Below w.heap.size w w':=by
 obtain ⟨k,hk⟩:=(Total.ev_fits1 st.langs st.dis (st.fmts.map mkF) st.cont).rounds;obtain ⟨A0,c0,rfl,h0,r0⟩:=S.l.kd S.ll;obtain ⟨A1,c1,rfl,h1,r1⟩:=S.d.kd S.dl;obtain ⟨A2,c2,rfl,h2,r2⟩:=S.f.kd S.fl;obtain ⟨A3,c3,rfl,h3,r3⟩:=S.c.kd S.cl;exact kU.calls k A0 c0 _ A1 c1 _ A2 c2 _ A3 c3 _ _ w r0 h0 r1 h1 r2 h2 r3 h3 hk
theorem wZ (S:mQ w st vl vd vf vc) (hf:aBd st=true) (comp s:ByteArray) (hcs:comp.size+s.size≤3 * MM):Calls Tryz.prog 19 #[.agg #[vl,vd,vf,vc],.string comp,.string s] w fun e w'=>e = .returned (.bool (shortS st comp s))∧Below w.heap.size w w':=by
 obtain ⟨k,hk⟩:=(aG5 st.langs st.dis (st.fmts.map mkF) st.cont comp s hf hcs).rounds;obtain ⟨A0,c0,rfl,h0,r0⟩:=S.l.kd S.ll;obtain ⟨A1,c1,rfl,h1,r1⟩:=S.d.kd S.dl;obtain ⟨A2,c2,rfl,h2,r2⟩:=S.f.kd S.fl;obtain ⟨A3,c3,rfl,h3,r3⟩:=S.c.kd S.cl;exact gS.calls k A0 c0 _ A1 c1 _ A2 c2 _ A3 c3 _ comp s _ w r0 h0 r1 h1 r2 h2 r3 h3 hk
theorem aB6 {l:List ByteArray} (h:fewB l=true):l.length≤2000∧∀ x∈l,x.size≤2000:=by
 unfold fewB at h;simp only[decide_eq_true_eq] at h;refine ⟨aR,fun x hx=>?_⟩
 have:x.size≤wt l:=by
  unfold wt
  induction l with
  | nil=>cases hx
  | cons a r ih =>
   simp only[List.map_cons,List.sum_cons];rcases List.mem_cons.1 hx with rfl | hx
   ·omega
   have:=ih (by simp only[wt,List.map_cons,List.sum_cons,List.length_cons] at h;simp only[wt];omega) hx;omega
 omega
theorem aIu (l:List (S53)):l.length≤wt3 l:=by
 unfold wt3
 induction l with
 | nil=>simp
 | cons a r ih=>simp only[List.map_cons,List.sum_cons,List.length_cons];omega
theorem aIv (l:List (S53)) (x:S53) (hx:x∈l):x.f0.size+x.f1.size≤wt3 l:=by
 unfold wt3
 induction l with
 | nil=>cases hx
 | cons a r ih =>
  simp only[List.map_cons,List.sum_cons];rcases List.mem_cons.1 hx with rfl | hx
  ·omega
  have:=ih hx;omega
theorem qD {comp s:ByteArray} (h:shortS st comp s=true):jN st∧comp.size≤2000∧s.size≤2000∧st.langs.length≤2000∧st.dis.length≤2000∧(st.fmts.map mkF).length≤2000∧st.cont.length≤2000∧(∀ x∈st.langs,x.size≤2000)∧(∀ x∈st.dis,x.size≤2000)∧(∀ x∈st.fmts.map mkF,x.f0.size≤2000∧x.f1.size≤2000)∧(∀ x∈st.cont,x.size≤2000):=by
 unfold shortS yQ at h;simp only[Bool.and_eq_true,decide_eq_true_eq] at h;obtain ⟨h0,h1,h2,h3⟩:=h;obtain ⟨a1,a2⟩:=aB6 h1;obtain ⟨b1,b2⟩:=aB6 h2;obtain ⟨c1,c2⟩:=aB6 h3;have hw:=aIu (st.fmts.map mkF);have hm:=aIv (st.fmts.map mkF);have hlen:(st.fmts.map mkF).length=st.fmts.length:=by simp
 refine ⟨⟨aR,aR,aR,aR,fun x hx=>Nat.le_trans (a2 x hx) bA⟩,aR,aR,a1,b1,aR,c1,a2,b2,fun x hx=>?_,c2⟩;have:=hm x hx;omega
theorem aFx {s:ByteArray} (h:Ext.ascii (L s)=true):asc s:=by
 intro j c hc;have:=List.all_eq_true.1 h c (List.mem_of_getElem? hc);simp only[decide_eq_true_eq] at this;omega
theorem sD (S:mQ w st vl vd vf vc) (comp s:ByteArray) (h:shortS st comp s=true):∃ r:Bool,(r=true→asc s∧asc comp∧s.size≤400∧oW st comp s)∧∀ w',Below w.heap.size w w'→Calls Tryz.prog 33 #[.agg #[vl,vd,vf,vc],.string comp,.string s] w' fun e w''=>e = .returned (.bool r)∧Below w'.heap.size w' w'':=by
 obtain ⟨_,h1,h2,h3,h4,h5,h6,h7,h8,h9,h10⟩:=qD h;obtain ⟨r,hr,hp⟩:=aCw st.langs st.dis (st.fmts.map mkF) st.cont comp s bA bA bA bA (fun x hx=>Nat.le_trans (h7 x hx) bA) (fun x hx=>Nat.le_trans (h8 x hx) bA) (fun x hx=>⟨Nat.le_trans (h9 x hx).1 bA,Nat.le_trans (h9 x hx).2 bA⟩) (fun x hx=>Nat.le_trans (h10 x hx) bA) bA bA;obtain ⟨k,hk⟩:=hr.rounds;refine ⟨r,fun e=>⟨aFx (hp e).ascY,aFx (hp e).ascX,(hp e).most,hp e⟩,fun w' hb=>?_⟩;have S':=S.below hb;obtain ⟨A0,c0,rfl,g0,r0⟩:=S'.l.kd S.ll;obtain ⟨A1,c1,rfl,g1,r1⟩:=S'.d.kd S.dl;obtain ⟨A2,c2,rfl,g2,r2⟩:=S'.f.kd S.fl;obtain ⟨A3,c3,rfl,g3,r3⟩:=S'.c.kd S.cl
 exact jS.calls k A0 c0 _ A1 c1 _ A2 c2 _ A3 c3 _ comp s _ w' r0 g0 r1 g1 r2 g2 r3 g3 hk
end
end Go.Proofs.YtlkoeeccebmjmaaGreatDoor.Path
namespace Go.Proofs.YtlkoeeccebmjmaaGreatDoor.SiteRow
open Go.ChangeShapes Go.WideShapes Go.ChangeAt Go.RowKit Go.Joins Go.Deep Go.Proofs.YtlkoeeccebmjmaaGreatDoor.Path
theorem laidOut:laidOutB Tryz.prog=true:=by kernel_rfl
theorem aBi {a:Addr} (h:a.spot=none) (j:Nat):a.add j=⟨a.block,a.off+j,none⟩:=by
 cases a with
 | mk b o s =>
  simp only at h;subst h;unfold Addr.add;split
  ·rename_i h0;subst h0;rfl
  rfl
theorem aAq {w:World} {a:Addr} {v:Value} (h:w.cell? a=some v):a.spot=none:=by
 unfold World.cell? at h;split at h
 ·cases hs:a.spot with
  | none=>rfl
  | some x=>rw[hs] at h;simp at h
 cases h
section
variable {H:Type} {enc:TypeId×Value→H} {W:World}
theorem open_strs {n:Nat} {v:Value} {y:DataW H×List MemPlace} (h:DataW.trod enc Tryz.prog W 0 (fun _=>true) true n 22 [v]=some y):∃ l,fA W 0 v l∧l.length≤9223372036854775807:=by
 rcases open_strings Tryz.underlying22 Tryz.underlying9 bB h with ⟨hcs,_⟩ | ⟨a,len,cap,ss,hcs,_,hl,hm,hz,_,hcell,_⟩
 ·injection hcs with hcs
  subst hcs;exact ⟨[],fA.nil _ _ _ _,dW⟩
 injection hcs with hcs
 subst hcs;simp only[if_true] at hz;have hlen:(ss.take len).length=len:=by rw[List.length_take];omega
 have hmx:cap≤9223372036854775807:=by have:=hm;unfold maxLen at this;omega
 refine ⟨ss.take len,⟨some a,cap,by rw[hlen],by rw[hlen];exact hl,fun hp=>?_⟩,by rw[hlen];omega⟩;rw[hlen] at hp;have hsp:a.spot=none:=aAq (show W.cell? a=_ by have:=hcell 0 bA;rwa[show a.add 0=a by simp[Addr.add]] at this);refine ⟨a.block,a.off,by cases a;simp only at hsp;subst hsp;rfl,Nat.zero_le _,fun j hj=>?_⟩;have hj2:j < len:=by rw[hlen] at hj;exact hj
 have:=hcell j bA;rw[aBi hsp] at this;rw[this];congr 2;rw[List.getElem_take,List.getD_eq_getElem?_getD,List.getElem?_eq_getElem bA];rfl
theorem aGi {n:Nat} {v:Value} {y:DataW H×List MemPlace} (h:DataW.trod enc Tryz.prog W 0 (fun _=>true) true n 23 [v]=some y):∃ l,mV W 0 v l∧l.length≤9223372036854775807:=by
 rcases open_slice Tryz.underlying23 h with ⟨hcs,_⟩ | ⟨a,len,cap,m,n2,D,Pl,hcs,_,hl,hm,hmm,_,hi⟩
 ·injection hcs with hcs
  subst hcs;exact ⟨[],⟨none,0,rfl,Nat.le_refl _,fun h=>absurd h bK⟩,dW⟩
 injection hcs with hcs
 subst hcs;simp only[if_true] at hmm;have hmx:cap≤9223372036854775807:=by have:=hm;unfold maxLen at this;omega
 have h2:Tryz.prog.cellsOf 53=2:=by kernel_rfl
 have each:∀ i,i < len→∃ x:ByteArray×ByteArray,W.cell? (a.add (i * 2))=some (.string x.1)∧W.cell? (a.add (i * 2+1))=some (.string x.2):=by
  intro i hil;obtain ⟨cs,hc,ht⟩:=hi i bA;rw[h2] at hc;obtain ⟨_,hcl,hat⟩:=World.cells?_some hc;obtain ⟨y0,y1,n3,_,_,h0,h1⟩:=trod_struct2 Tryz.underlying53 ht
  match cs,hcl with
  | [c0,c1],_ =>
   have e0:DataW.trod enc Tryz.prog W 0 (fun _=>true) true n3 9 [c0]=some y0:=h0;have e1:DataW.trod enc Tryz.prog W 0 (fun _=>true) true n3 9 [c1]=some y1:=h1;obtain ⟨s0,hs0,_⟩:=DataW.trod_string Tryz.underlying9 e0;obtain ⟨s1,hs1,_⟩:=DataW.trod_string Tryz.underlying9 e1;injection hs0 with hs0
   injection hs1 with hs1
   subst hs0 hs1;have a0:=hat 0 bA;have a1:=hat 1 bA;rw[Go.Deep.add_add] at a0 a1;exact ⟨(s0,s1),a0,a1⟩
 obtain ⟨f,hf⟩:=choose_lt each;have hlen:((List.range len).map f).length=len:=by simp
 refine ⟨(List.range len).map f,⟨some a,cap,by rw[hlen],by rw[hlen];exact hl,fun hp=>?_⟩,by rw[hlen];omega⟩;rw[hlen] at hp;have hsp:a.spot=none:=aAq (show W.cell? a=_ by have:=(hf 0 hp).1;rwa[show a.add (0 * 2)=a by simp[Addr.add]] at this);refine ⟨a.block,a.off,by cases a;simp only at hsp;subst hsp;rfl,Nat.zero_le _,fun j hj=>?_⟩;have hj2:j < len:=by rw[hlen] at hj;exact hj
 obtain ⟨g1,g2⟩:=hf j hj2;rw[aBi hsp] at g1 g2;rw[g1,g2]
 simp
theorem open_site {r:Reach} {base:Nat} {v:Value} {d:DataW H} {p:List MemPlace} (hv:Value.okWide Tryz.prog W r base 25 v) (h:DataW.Trod enc Tryz.prog W 0 (fun _=>true) true 25 v d p) :
 ∃ st vl vd vf vc,v = .agg #[vl,vd,vf,vc]∧mQ W st vl vd vf vc:=by
 obtain ⟨v0,v1,v2,v3,y0,y1,y2,y3,n,rfl,_,_,h0,h1,h2,h3⟩:=open_agg4 Tryz.underlying25 bB bB hv h;obtain ⟨l0,s0,z0⟩:=open_strs h0;obtain ⟨l1,s1,z1⟩:=open_strs h1;obtain ⟨l2,s2,z2⟩:=aGi h2;obtain ⟨l3,s3,z3⟩:=open_strs h3;exact ⟨⟨l0,l1,l2,l3⟩,v0,v1,v2,v3,rfl,⟨⟨s0,s1,s2,s3⟩,z0,z1,z2,z3⟩⟩
end
end Go.Proofs.YtlkoeeccebmjmaaGreatDoor.SiteRow
namespace Go.Proofs.YtlkoeeccebmjmaaGreatDoor.Path
open Go.RowKit Go.WideMaps Go.ZW.PrintWords Go.Proofs.YtlkoeeccebmjmaaGreatDoor.Base Go.Proofs.YtlkoeeccebmjmaaGreatDoor.Lower Go.Proofs.YtlkoeeccebmjmaaGreatDoor.Total Go.Proofs.YtlkoeeccebmjmaaGreatDoor.PCore
open Go.ZW.PrintLast
theorem pK {w:World} {b b' : Nat} {cs:List Value} (H:Row w b cs) (hne:b≠b') (C:Array Value):Row (w.setCells b' 0 C.toList) b cs:=H.step (jC _ _ _ hne)
theorem rA {ops:Array Oper} {oi:Oper} {a:Act} {w:World} {K:Act→World→Prop} {Q:Exit→Act→World→Prop} {b:Nat} {C:Array Value} {cs:List Value} (hw:Region.wanted oi (yielded ops a.tmps)=true) (hN:oi.dst=none) (x y:Operand) (ho:oi.op = .store 28 x y)
 (hx:a.eval x = .pointer (some ⟨b,0,none⟩)) (hy:a.eval y = .agg C) (hR:Row w b cs) (hcs:cs.length=31) (hC:C.size=31) (hone:C.all (·.oneCell')=true) (h:K a (w.setCells b 0 C.toList)) :
 if Region.wanted oi (yielded ops a.tmps)=true then Oper.wp Tryz.prog oi a w K Q else K (a.put none undef) w:=by
 have ht:w.there b 0 31:=hcs▸hR.there;rw[if_pos hw];refine wp_store_mid 28 x y ho b 0 C hx hy (by rw[hC];exact ht) (by rw[hC];kernel_rfl) hone ?_;rw[hN];exact h
theorem zZ {st:fM} {comp s:ByteArray} (h:shortS st comp s=true):xC st:=by
 obtain ⟨_,_,_,h1,h2,h3,h4,h5,h6,_,h7⟩:=qD h;have hlen:(st.fmts.map mkF).length=st.fmts.length:=by simp
 exact ⟨aR,aR,aR,aR,fun x hx=>Nat.le_trans (h5 x hx) bA,fun x hx=>Nat.le_trans (h6 x hx) bA,fun x hx=>Nat.le_trans (h7 x hx) bA⟩
open Go.RowKit Go.WideMaps Go.ZW.PrintWords Go.Proofs.YtlkoeeccebmjmaaGreatDoor.Base Go.Proofs.YtlkoeeccebmjmaaGreatDoor.Lower
theorem eD {w w' : World} {b j:Nat} {v:Value} (h:w.cell? ⟨b,j,none⟩=some v) (hb:Below w.heap.size w w'):w'.cell? ⟨b,j,none⟩=some v:=(hb.cell (World.block_lt_of_cell? w ⟨b,j,none⟩ h)).trans h
def qM (a1 a2:Bool) (s:Value×Value×Nat×Nat) (k:Nat):Prop:=(a1=true∧k=s.2.2.1)∨(a2=true∧k=s.2.2.2)
def pL (w:World) (B:Nat) (T:gG) (v1 v2 v3:Value) (P:Nat→Prop):Prop:=∀ w' : World,(∀ k,B≤k→k < w.heap.size→¬ P k→w'.heap[k]? = w.heap[k]?)→lC w' B T v1 v2 v3
structure VN (w0:World) (T:gG) (c1 c2 a1 a2:Bool) (s:Value×Value×Nat×Nat) (w:World):Prop where
 below:Below w0.heap.size w0 w
 one:c1=true→∃ v1 v2 v3,s.1=fY T v1 v2 v3∧pL w w0.heap.size T v1 v2 v3 (qM a1 a2 s)
 two:c2=true→∃ v1 v2 v3,s.2.1=fY T v1 v2 v3∧pL w w0.heap.size T v1 v2 v3 (qM a1 a2 s)
 pa:a1=true→Row w s.2.2.1 eX∧w0.heap.size≤s.2.2.1
 pb:a2=true→Row w s.2.2.2 eX∧w0.heap.size≤s.2.2.2
 ne:a1=true→a2=true→s.2.2.1≠s.2.2.2
theorem pL.here {w:World} {B:Nat} {T:gG} {v1 v2 v3:Value} {P:Nat→Prop} (H:pL w B T v1 v2 v3 P):lC w B T v1 v2 v3:=H w (fun _ _ _ _=>rfl)
theorem pL.grow {w w' : World} {B:Nat} {T:gG} {v1 v2 v3:Value} {P:Nat→Prop} (H:pL w B T v1 v2 v3 P) (hb:Below w.heap.size w w'):pL w' B T v1 v2 v3 P :=
 fun w2 h=>H w2 fun k h1 h2 h3=>(h k h1 (Nat.lt_of_lt_of_le h2 hb.size) h3).trans (hb.block k h2)
variable {w0 w w' : World} {T:gG} {c1 c2 a1 a2:Bool} {s:Value×Value×Nat×Nat}
theorem VN.start (h:Below w0.heap.size w0 w) (s:Value×Value×Nat×Nat):VN w0 T false false false false s w :=
 ⟨h,(fun h=>by cases h),(fun h=>by cases h),(fun h=>by cases h),(fun h=>by cases h),(fun h=>by cases h)⟩
theorem VN.lt (H:VN w0 T c1 c2 a1 a2 s w) {k:Nat} (h:qM a1 a2 s k):k < w.heap.size:=by
 rcases h with ⟨h,rfl⟩ | ⟨h,rfl⟩
 ·exact (H.pa h).1.lt bG
 exact (H.pb h).1.lt bG
theorem VN.grow (H:VN w0 T c1 c2 a1 a2 s w) (hb:Below w.heap.size w w'):VN w0 T c1 c2 a1 a2 s w' :=
 ⟨eB H.below hb,fun h=>(H.one h).imp fun _ h=>h.imp fun _ h=>h.imp fun _ ⟨e,h⟩=>⟨e,h.grow hb⟩,
  fun h=>(H.two h).imp fun _ h=>h.imp fun _ h=>h.imp fun _ ⟨e,h⟩=>⟨e,h.grow hb⟩,
  fun h=>⟨(H.pa h).1.below hb ((H.pa h).1.lt bG),(H.pa h).2⟩,fun h=>⟨(H.pb h).1.below hb ((H.pb h).1.lt bG),(H.pb h).2⟩,H.ne⟩
theorem VN.new (H:VN w0 T c1 c2 a1 a2 s w) {v1 v2 v3:Value} (hT:lC w' w.heap.size T v1 v2 v3):pL w' w0.heap.size T v1 v2 v3 (qM a1 a2 s) :=
 fun w2 h=>(hT.far fun k h1 h2=>h k (Nat.le_trans H.below.size h1) h2 (fun ht=>absurd (H.lt ht) bA)).mono H.below.size
theorem VN.call1 (H:VN w0 T false c2 a1 a2 s w) (hb:Below w.heap.size w w') {v1 v2 v3:Value} (hT:lC w' w.heap.size T v1 v2 v3):VN w0 T true c2 a1 a2 (fY T v1 v2 v3,s.2) w' :=
 have G:=H.grow hb
 ⟨G.below,fun _=>⟨v1,v2,v3,rfl,H.new hT⟩,G.two,G.pa,G.pb,G.ne⟩
theorem VN.call2 (H:VN w0 T c1 false a1 a2 s w) (hb:Below w.heap.size w w') {v1 v2 v3:Value} (hT:lC w' w.heap.size T v1 v2 v3):VN w0 T c1 true a1 a2 (s.1,fY T v1 v2 v3,s.2.2) w' :=
 have G:=H.grow hb
 ⟨G.below,G.one,fun _=>⟨v1,v2,v3,rfl,H.new hT⟩,G.pa,G.pb,G.ne⟩
theorem pL.alloc {B:Nat} {v1 v2 v3:Value} {P P' : Nat→Prop} (H:pL w B T v1 v2 v3 P) (o:Obj) (hP:∀ k,k < w.heap.size→P' k→P k):pL (w.alloc o) B T v1 v2 v3 P' :=
 fun w2 h=>H w2 fun k h1 h2 h3=>(h k h1 (by simp;omega) (fun h4=>h3 (hP k h2 h4))).trans (Below.heap_alloc w o k h2)
theorem VN.alloc1 (H:VN w0 T c1 c2 false a2 s w):VN w0 T c1 c2 true a2 (s.1,s.2.1,w.heap.size,s.2.2.2) (w.alloc (.cells eX.toArray 28)) :=
 have G:=H.grow (w':=w.alloc (.cells eX.toArray 28)) ((Below.refl _ _).alloc (Nat.le_refl _) _)
 have hP:∀ k,k < w.heap.size→qM true a2 (s.1,s.2.1,w.heap.size,s.2.2.2) k→qM false a2 s k:=by
  intro k hk h;rcases h with ⟨_,h⟩ | ⟨h,h2⟩
  ·simp only at h;omega
  exact .inr ⟨h,h2⟩
 ⟨G.below,fun h=>(H.one h).imp fun _ h=>h.imp fun _ h=>h.imp fun _ ⟨e,h⟩=>⟨e,h.alloc _ hP⟩,fun h=>(H.two h).imp fun _ h=>h.imp fun _ h=>h.imp fun _ ⟨e,h⟩=>⟨e,h.alloc _ hP⟩,fun _=>⟨Row.new w eX _,H.below.size⟩,G.pb,fun _ h=>Nat.ne_of_gt ((H.pb h).1.lt bG)⟩
theorem VN.alloc2 (H:VN w0 T c1 c2 a1 false s w):VN w0 T c1 c2 a1 true (s.1,s.2.1,s.2.2.1,w.heap.size) (w.alloc (.cells eX.toArray 28)) :=
 have G:=H.grow (w':=w.alloc (.cells eX.toArray 28)) ((Below.refl _ _).alloc (Nat.le_refl _) _)
 have hP:∀ k,k < w.heap.size→qM a1 true (s.1,s.2.1,s.2.2.1,w.heap.size) k→qM a1 false s k:=by
  intro k hk h;rcases h with ⟨h,h2⟩ | ⟨_,h⟩
  ·exact .inl ⟨h,h2⟩
  simp only at h;omega
 ⟨G.below,fun h=>(H.one h).imp fun _ h=>h.imp fun _ h=>h.imp fun _ ⟨e,h⟩=>⟨e,h.alloc _ hP⟩,fun h=>(H.two h).imp fun _ h=>h.imp fun _ h=>h.imp fun _ ⟨e,h⟩=>⟨e,h.alloc _ hP⟩,G.pa,fun _=>⟨Row.new w eX _,H.below.size⟩,fun h _=>Nat.ne_of_lt ((H.pa h).1.lt bG)⟩
end Go.Proofs.YtlkoeeccebmjmaaGreatDoor.Path
namespace Go.Proofs.YtlkoeeccebmjmaaGreatDoor.Path
open Go.RowKit Go.WideMaps Go.ZW.PrintWords Go.Proofs.YtlkoeeccebmjmaaGreatDoor.Base Go.Proofs.YtlkoeeccebmjmaaGreatDoor.Lower
section
variable {w:World}
theorem aDh (l:List ByteArray) (hl:l.length≤1000000):∀ (n j:Nat),l.length - j=n→j≤l.length→Ev (fun k=>Go.Proofs.YtlkoeeccebmjmaaGreatDoor.PTexts.laws_texts.l0 k l l (l.length:Int) (j:Int)) true:=by
 intro n
 induction n with
 | zero =>
  intro j h1 h2;refine Ev.step (f:=fun _=>some true) (fun k=>?_) (Ev.now _);simp only[Go.Proofs.YtlkoeeccebmjmaaGreatDoor.PTexts.laws_texts.l0];rw[if_neg bA]
 | succ n ih =>
  intro j h1 h2;refine Ev.step (fun k=>?_) (ih (j+1) bA bA);simp only[Go.Proofs.YtlkoeeccebmjmaaGreatDoor.PTexts.laws_texts.l0];rw[if_pos bA,if_pos bA,if_pos bA,if_pos bA,if_pos trivial,w64 bA bA];rfl
theorem nZ {v u:Value} {l:List ByteArray} (H:fA w 0 v l) (H' : fA w 0 u l) (hl:l.length≤1000000):Calls Tryz.prog 24 #[v,u] w fun e w'=>e = .returned (.bool true)∧Below w.heap.size w w':=by
 have h:Ev (fun k=>Go.Proofs.YtlkoeeccebmjmaaGreatDoor.PTexts.laws_texts.f k l l) true:=by
  refine Ev.congr (fun k=>?_) (aDh l hl l.length 0 bA bA);unfold Go.Proofs.YtlkoeeccebmjmaaGreatDoor.PTexts.laws_texts.f;rw[if_pos rfl];rfl
 obtain ⟨k,hk⟩:=h.rounds;obtain ⟨A0,c0,rfl,h0,r0⟩:=H.kd bA;obtain ⟨A1,c1,rfl,h1,r1⟩:=H'.kd bA
 exact (Go.Proofs.YtlkoeeccebmjmaaGreatDoor.PTexts.laws_texts.calls k A0 c0 l A1 c1 l true w r0 h0 r1 h1 hk).mono fun _ _ ⟨h1,h2⟩=>⟨h1,h2.below⟩
end
theorem Row.range {w:World} {b:Nat} {cs:List Value} (H:Row w b cs):w.rangeAt b 0 cs:=by
 intro j v hv;rw[Nat.zero_add];obtain ⟨hj,e⟩:=List.getElem?_eq_some_iff.1 hv;rw[(H j hj).1,e]
section
variable {w:World} {B b ub:Nat} {p:eG} {vk vu vl u:Value}
theorem vT (H:eH w B b p vk vu vl (.pointer (some ⟨ub,0,none⟩))):Calls Tryz.prog 48 #[.pointer (some ⟨b,0,none⟩)] w fun e w'=>e = .returned (.pointer (some ⟨ub,0,none⟩))∧w'=w:=by
 have h:=H.row.at 25 _ rfl;clear H;go_enter Tryz.func48,Tryz.ntmps48;go_wp2_with fail
 go_ret;exact ⟨rfl,rfl⟩
end
section
variable {w:World} {st:fM} {vl vd vf vc:Value}
theorem sN (S:SiteIn w st vl vd vf vc) (OS:jN st) (comp s:ByteArray) (hs:s.size≤900000) (ha:asc s) :
 Calls Tryz.prog 21 #[.agg #[vl,vd,vf,vc],.string comp,.string s] w fun e w' =>
  ∃ v1 v2 v3,e = .returned (fY (nF (hJ (eJ st) comp s)) v1 v2 v3)∧Told w' w.heap.size (hJ (eJ st) comp s) v1 v2 v3∧Below w.heap.size w w':=by
 have HSI:=bX S;have hok:=tO (eJ st) comp s hs;have HOK:=bX hok;have HA:=bX ha;obtain ⟨Al,cl,rfl,_,_⟩:=S.l;obtain ⟨Ad,cd,rfl,_,_⟩:=S.d;obtain ⟨Af,cf,rfl,_,_⟩:=S.f;obtain ⟨Ac,cc,rfl,_,_⟩:=S.c;clear S hok ha;have hB1:Below w.heap.size w (w.alloc (.cells #[.slice Al st.langs.length cl,.slice Ad st.dis.length cd,.slice Af st.fmts.length cf,.slice Ac st.cont.length cc] 25)):=(Below.refl _ _).alloc (Nat.le_refl _) _;have hR1:=Row.new w [.slice Al st.langs.length cl,.slice Ad st.dis.length cd,.slice Af st.fmts.length cf,.slice Ac st.cont.length cc] 25;have hs1:w.heap.size < (w.alloc (.cells #[.slice Al st.langs.length cl,.slice Ad st.dis.length cd,.slice Af st.fmts.length cf,.slice Ac st.cont.length cc] 25)).heap.size:=by simp
 go_enter Tryz.func21,Tryz.ntmps21;go_upto_region 1 with fail
 obtain ⟨w1,hw1⟩:∃ w1,w.alloc (.cells #[.slice Al st.langs.length cl,.slice Ad st.dis.length cd,.slice Af st.fmts.length cf,.slice Ac st.cont.length cc] 25)=w1:=⟨_,rfl⟩
 have hz1:w1.heap.size=w.heap.size+1:=by rw[← hw1];simp
 rw[hw1] at hB1 hR1 hs1 ⊢;clear hw1;have hB2:Below w1.heap.size w1 (w1.alloc (.cells eX.toArray 28)):=(Below.refl _ _).alloc (Nat.le_refl _) _;have hR2:Row (w1.alloc (.cells eX.toArray 28)) w1.heap.size eX:=Row.new w1 eX _;rw[show eX.toArray=TZ from rfl] at hB2 hR2
 obtain ⟨w2,hw2⟩:∃ w2,w1.alloc (.cells TZ 28)=w2:=⟨_,rfl⟩
 rw[hw2] at hB2 hR2;change Code.wp _ _ _ _ (w1.alloc (.cells TZ 28));rw[hw2];clear hw2;rw[hz1] at hR2;have hB:Below w.heap.size w w2:=hB1.trans (hB2.mono bA);have hRs:=hR1.below hB2 hs1;have r0:=hRs.at 0 _ rfl;have r1:=hRs.at 1 _ rfl;have r2:=hRs.at 2 _ rfl;have r3:=hRs.at 3 _ rfl;have HB:=bX hB;have HR2:=bX hR2;have hlt2:w.heap.size+1 < w2.heap.size:=hR2.lt bG;have cp:=vG (HSI.out.l.below hB) (HSI.out.d.below hB) (HSI.out.f.below hB) (HSI.out.c.below hB) OS;clear hB1 hR1 hs1 hB2 hR2 hB hRs hz1;go_wp2_with fail
 refine cp.mono ?_;rintro e w3 ⟨pb,mb,sb,fb,rfl,hS,hb3⟩;have cP:=wL hS OS comp s hs HA.out;have HB3:=bX hb3;clear cp hS hb3 r0 r1 r2 r3;go_wp2_with fail
 refine cP.mono ?_;rintro e w4 ⟨b,ub,vk,vu,vl,rfl,hp,hb4⟩;have cu:=vT hp.1;obtain ⟨vk2,vu2,vl2,u2,hp2⟩:=hp.2;have HP2:=bX hp2;have HB4:=bX (eB HB3.out hb4);clear cP hp hb4 hp2;go_wp2_with fail
 refine cu.mono ?_;rintro e w9 ⟨rfl,hw9⟩;obtain rfl:w4=w9:=hw9.symm;have ct:=yU HP2.out HOK.out.1 HOK.out.2.1 HOK.out.2.2;clear cu;go_wp2_with fail
 refine ct.mono ?_;rintro e w5 ⟨v1,v2,v3,rfl,hs1,hs2,hs3,hb5⟩;have HB5:=bX (eB HB4.out hb5);have hz5:=HB4.out.size;have S1:=bX hs1;have S2:=bX hs2;have S3:=bX hs3;obtain ⟨A1,c1,e1,_⟩:=S1.out;obtain ⟨A2,c2,e2,_⟩:=S2.out;obtain ⟨A3,c3,e3,_⟩:=S3.out;clear ct hb5 hs1 hs2 hs3
 obtain ⟨C,hC⟩:∃ C:Array Value,oR (nF (hJ (eJ st) comp s)) v1 v2 v3=C:=⟨_,rfl⟩
 have hval:fY (nF (hJ (eJ st) comp s)) v1 v2 v3 = .agg C:=by rw[← hC];rfl
 have hCs:C.size=31:=by rw[← hC];rfl
 have hl:C.toList.length=31:=by simpa using hCs
 have hone:C.all (·.oneCell')=true:=by rw[← hC,e1,e2,e3];exact nN _ _ _ _ _ _ _ _ _ _
 have HV:=bX hval;rw[hval];clear hval e1 e2 e3;have HC:=bX hC;have hRf:=HR2.out.below HB5.out hlt2;have ht:World.there _ (w.heap.size+1) 0 31:=hRf.there
 dsimp only
 refine (show ∀ (a:Act) (w:World),wpList _ _ _ _ a w→_ from by assumption) _ _ ?_;refine wpList_store_mid rfl 28 _ _ rfl (w.heap.size+1) 0 C rfl rfl (by rw[hCs];exact ht) (by rw[hCs];kernel_rfl) hone ?_;have hr:=World.rangeAt_setCells_same _ (w.heap.size+1) 0 C.toList (by rw[hl];exact ht);have hld:=run_loadVar_mid (P:=Tryz.prog) _ (w.heap.size+1) 0 28 C.toList _ hr Tryz.underlying28 rfl (by rw[hl];kernel_rfl);have hfar:∀ k,k≠w.heap.size+1→(w5.setCells (w.heap.size+1) 0 C.toList).heap[k]? = w5.heap[k]?:=fun k hk=>jC _ _ k hk;have hbel:Below w.heap.size w (w5.setCells (w.heap.size+1) 0 C.toList):=below_setCells (Nat.le_succ _) _ _ _ (HB.out.trans (HB5.out.mono HB.out.size))
 obtain ⟨W,hW⟩:∃ W,w5.setCells (w.heap.size+1) 0 C.toList=W:=⟨_,rfl⟩
 rw[hW] at hld hbel hfar ⊢;have s1:=bX (S1.out.far fun k hk _=>hfar k bA);have s2:=bX (S2.out.far fun k hk _=>hfar k bA);have s3:=bX (S3.out.far fun k hk _=>hfar k bA);have HBel:=bX hbel;have hz4:w.heap.size≤w4.heap.size:=by omega
 clear hbel hfar hW hr hone hl hCs ht hRf S1 S2 S3;go_wp2_with fail
 refine bodyPost_ret (v:=.agg C) (kW Tryz.results21 rfl (by simpa using hld)) rfl ⟨v1,v2,v3,?_,⟨s1.out.mono hz4,s2.out.mono hz4,s3.out.mono hz4⟩,HBel.out⟩;rw[HV.out]
end
theorem hO.typed {p:eG} (h:hO p) (t:Int):hO { p with typ:=t }:=⟨⟨h.sz,h.kn,h.un,h.kl,h.ul,h.ll⟩,h.ch,h.cl,h.se,h.k0,h.na⟩
section
variable {w:World} {B b ub:Nat} {p:eG} {vk vu vl u:Value}
theorem aCj (H:eH w B b p vk vu vl u):Calls Tryz.prog 60 #[.pointer (some ⟨b,0,none⟩)] w fun e w'=>e = .returned (.tuple #[])∧eH w' B b { p with typ:=nT p.typ } vk vu vl u∧Below B w w':=by
 have ci:=rY H;have q5:=H.row.at 5 _ rfl;have f5:=H.row.free 5 bI;have HH:=bX H;clear H
 by_cases c:1≤p.typ∧p.typ≤5
 ·have hv:decide (1≤p.typ∧p.typ≤5)=true:=decide_eq_true c;rw[hv] at ci;have ht:nT p.typ=1:=if_pos c;rw[ht];clear hv ht c;go_enter Tryz.func60,Tryz.ntmps60;go_wp2_with fail
  (with_reducible refine ci.mono ?_)
  rintro e w' ⟨rfl,rfl⟩;go_wp2_with fail
  refine bodyPost_end (v:=.tuple #[]) (by simp[results,Tryz.results60]) rfl ?_;exact ⟨rfl,HH.out.put 5 (.int .i64 1) { p with typ:=1 } u rfl rfl rfl rfl bA,(Below.refl _ _).setCell (p:=⟨b,5,none⟩) HH.out.base _⟩
 have hv:decide (1≤p.typ∧p.typ≤5)=false:=decide_eq_false c;rw[hv] at ci;have ht:nT p.typ=0:=if_neg c;rw[ht];clear hv ht c;go_enter Tryz.func60,Tryz.ntmps60;go_wp2_with fail
 (with_reducible refine ci.mono ?_)
 rintro e w' ⟨rfl,rfl⟩;go_wp2_with fail
 refine bodyPost_end (v:=.tuple #[]) (by simp[results,Tryz.results60]) rfl ?_;exact ⟨rfl,HH.out.put 5 (.int .i64 0) { p with typ:=0 } u rfl rfl rfl rfl bA,(Below.refl _ _).setCell (p:=⟨b,5,none⟩) HH.out.base _⟩
end
section
variable {w:World} {st:fM} {vl vd vf vc:Value}
theorem uW (S:SiteIn w st vl vd vf vc) (OS:jN st) (comp s:ByteArray) (hs:s.size≤900000) (ha:asc s) :
 Calls Tryz.prog 34 #[.agg #[vl,vd,vf,vc],.string comp,.string s] w fun e w' =>
  ∃ v1 v2 v3,e = .returned (fY (nF { hJ (eJ st) comp (norm s) with typ:=nT (hJ (eJ st) comp (norm s)).typ }) v1 v2 v3)∧Told w' w.heap.size { hJ (eJ st) comp (norm s) with typ:=nT (hJ (eJ st) comp (norm s)).typ } v1 v2 v3∧Below w.heap.size w w':=by
 have HSI:=bX S;have hok0:=tO (eJ st) comp (norm s) (by rw[norm_size];exact hs)
 have hok:hO { hJ (eJ st) comp (norm s) with typ:=nT (hJ (eJ st) comp (norm s)).typ }∧-1≤(hJ (eJ st) comp (norm s)).fmt∧-1≤(hJ (eJ st) comp (norm s)).lang:=⟨hok0.1.typed _,hok0.2⟩
 clear hok0;have HOK:=bX hok;have HA:=bX ha;obtain ⟨Al,cl,rfl,_,_⟩:=S.l;obtain ⟨Ad,cd,rfl,_,_⟩:=S.d;obtain ⟨Af,cf,rfl,_,_⟩:=S.f;obtain ⟨Ac,cc,rfl,_,_⟩:=S.c;clear S hok ha;have hB1:Below w.heap.size w (w.alloc (.cells #[.slice Al st.langs.length cl,.slice Ad st.dis.length cd,.slice Af st.fmts.length cf,.slice Ac st.cont.length cc] 25)):=(Below.refl _ _).alloc (Nat.le_refl _) _;have hR1:=Row.new w [.slice Al st.langs.length cl,.slice Ad st.dis.length cd,.slice Af st.fmts.length cf,.slice Ac st.cont.length cc] 25;have hs1:w.heap.size < (w.alloc (.cells #[.slice Al st.langs.length cl,.slice Ad st.dis.length cd,.slice Af st.fmts.length cf,.slice Ac st.cont.length cc] 25)).heap.size:=by simp
 go_enter Tryz.func34,Tryz.ntmps34;go_upto_region 1 with fail
 obtain ⟨w1,hw1⟩:∃ w1,w.alloc (.cells #[.slice Al st.langs.length cl,.slice Ad st.dis.length cd,.slice Af st.fmts.length cf,.slice Ac st.cont.length cc] 25)=w1:=⟨_,rfl⟩
 have hz1:w1.heap.size=w.heap.size+1:=by rw[← hw1];simp
 rw[hw1] at hB1 hR1 hs1 ⊢;clear hw1;have hB2:Below w1.heap.size w1 (w1.alloc (.cells eX.toArray 28)):=(Below.refl _ _).alloc (Nat.le_refl _) _;have hR2:Row (w1.alloc (.cells eX.toArray 28)) w1.heap.size eX:=Row.new w1 eX _;rw[show eX.toArray=TZ from rfl] at hB2 hR2
 obtain ⟨w2,hw2⟩:∃ w2,w1.alloc (.cells TZ 28)=w2:=⟨_,rfl⟩
 rw[hw2] at hB2 hR2;change Code.wp _ _ _ _ (w1.alloc (.cells TZ 28));rw[hw2];clear hw2;rw[hz1] at hR2;have hB:Below w.heap.size w w2:=hB1.trans (hB2.mono bA);have hRs:=hR1.below hB2 hs1;have r0:=hRs.at 0 _ rfl;have r1:=hRs.at 1 _ rfl;have r2:=hRs.at 2 _ rfl;have r3:=hRs.at 3 _ rfl;have HB:=bX hB;have HR2:=bX hR2;have hlt2:w.heap.size+1 < w2.heap.size:=hR2.lt bG;have cp:=vG (HSI.out.l.below hB) (HSI.out.d.below hB) (HSI.out.f.below hB) (HSI.out.c.below hB) OS;clear hB1 hR1 hs1 hB2 hR2 hB hRs hz1;go_wp2_with fail
 refine cp.mono ?_;rintro e w3 ⟨pb,mb,sb,fb,rfl,hS,hb3⟩;have cP:=wL hS OS comp s hs HA.out;have HB3:=bX hb3;clear cp hS hb3 r0 r1 r2 r3;go_wp2_with fail
 refine cP.mono ?_;rintro e w4 ⟨b,ub,vk,vu,vl,rfl,hp,hb4⟩;have cu:=aCj hp.1;have HB4:=bX (eB HB3.out hb4);clear cP hp hb4;go_wp2_with fail
 refine cu.mono ?_;rintro e w9 ⟨rfl,hp9,hb9⟩;have ct:=yU hp9 HOK.out.1 HOK.out.2.1 HOK.out.2.2;replace HB4:=bX (HB4.out.trans (hb9.mono HB3.out.size));clear cu hb9 hp9;go_wp2_with fail
 refine ct.mono ?_;rintro e w5 ⟨v1,v2,v3,rfl,hs1,hs2,hs3,hb5⟩;have HB5:=bX (eB HB4.out hb5);have hz5:=HB4.out.size;have S1:=bX hs1;have S2:=bX hs2;have S3:=bX hs3;obtain ⟨A1,c1,e1,_⟩:=S1.out;obtain ⟨A2,c2,e2,_⟩:=S2.out;obtain ⟨A3,c3,e3,_⟩:=S3.out;clear ct hb5 hs1 hs2 hs3
 obtain ⟨C,hC⟩:∃ C:Array Value,oR (nF { hJ (eJ st) comp (norm s) with typ:=nT (hJ (eJ st) comp (norm s)).typ }) v1 v2 v3=C:=⟨_,rfl⟩
 have hval:fY (nF { hJ (eJ st) comp (norm s) with typ:=nT (hJ (eJ st) comp (norm s)).typ }) v1 v2 v3 = .agg C:=by rw[← hC];rfl
 have hCs:C.size=31:=by rw[← hC];rfl
 have hl:C.toList.length=31:=by simpa using hCs
 have hone:C.all (·.oneCell')=true:=by rw[← hC,e1,e2,e3];exact nN _ _ _ _ _ _ _ _ _ _
 have HV:=bX hval;rw[hval];clear hval e1 e2 e3;have HC:=bX hC;have hRf:=HR2.out.below HB5.out hlt2;have ht:World.there _ (w.heap.size+1) 0 31:=hRf.there
 dsimp only
 refine (show ∀ (a:Act) (w:World),wpList _ _ _ _ a w→_ from by assumption) _ _ ?_;refine wpList_store_mid rfl 28 _ _ rfl (w.heap.size+1) 0 C rfl rfl (by rw[hCs];exact ht) (by rw[hCs];kernel_rfl) hone ?_;have hr:=World.rangeAt_setCells_same _ (w.heap.size+1) 0 C.toList (by rw[hl];exact ht);have hld:=run_loadVar_mid (P:=Tryz.prog) _ (w.heap.size+1) 0 28 C.toList _ hr Tryz.underlying28 rfl (by rw[hl];kernel_rfl);have hfar:∀ k,k≠w.heap.size+1→(w5.setCells (w.heap.size+1) 0 C.toList).heap[k]? = w5.heap[k]?:=fun k hk=>jC _ _ k hk;have hbel:Below w.heap.size w (w5.setCells (w.heap.size+1) 0 C.toList):=below_setCells (Nat.le_succ _) _ _ _ (HB.out.trans (HB5.out.mono HB.out.size))
 obtain ⟨W,hW⟩:∃ W,w5.setCells (w.heap.size+1) 0 C.toList=W:=⟨_,rfl⟩
 rw[hW] at hld hbel hfar ⊢;have s1:=bX (S1.out.far fun k hk _=>hfar k bA);have s2:=bX (S2.out.far fun k hk _=>hfar k bA);have s3:=bX (S3.out.far fun k hk _=>hfar k bA);have HBel:=bX hbel;have hz4:w.heap.size≤w9.heap.size:=by omega
 clear hbel hfar hW hr hone hl hCs ht hRf S1 S2 S3;go_wp2_with fail
 refine bodyPost_ret (v:=.agg C) (kW Tryz.results34 rfl (by simpa using hld)) rfl ⟨v1,v2,v3,?_,⟨s1.out.mono hz4,s2.out.mono hz4,s3.out.mono hz4⟩,HBel.out⟩;rw[HV.out]
end
end Go.Proofs.YtlkoeeccebmjmaaGreatDoor.Path
