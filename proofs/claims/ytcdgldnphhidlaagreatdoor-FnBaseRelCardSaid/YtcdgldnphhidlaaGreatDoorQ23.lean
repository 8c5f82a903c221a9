/- Texts that the law leans on: Parse, Impl, Args, SiteRow, SpecParse, Asked, RelWalk, SpecRel. Condition: as told at each. -/
import Derived.SliceStrings
import Derived.Deep.Slices
import Derived.Deep.Fields
import Derived.Lib.SmallJoins
import Derived.ChangeSame
import Derived.Carry
import Derived.Test.YtcdgldnphhidlaaGreatDoorQa
import Derived.Test.YtcdgldnphhidlaaGreatDoorQ18
import Derived.Test.YtcdgldnphhidlaaGreatDoorQ20
import Derived.Test.YtcdgldnphhidlaaGreatDoorQ21
import Derived.Test.YtcdgldnphhidlaaGreatDoorQ22
set_option linter.unusedVariables false
set_option linter.unusedSimpArgs false
set_option maxRecDepth 100000
set_option maxHeartbeats 16000000
namespace Go.Proofs.YtcdgldnphhidlaaGreatDoor.Path
open Go.RowKit Go.WideMaps Go.ZW.PrintWords Go.Proofs.YtcdgldnphhidlaaGreatDoor.Base Go.Proofs.YtcdgldnphhidlaaGreatDoor.Lower Go.Proofs.YtcdgldnphhidlaaGreatDoor.Norm
theorem aJz {s:ByteArray} (h:asc s):∀ c∈L s,c.toNat≤127:=by
 intro c hc;obtain ⟨k,hk⟩:=List.mem_iff_getElem?.1 hc;have:=h k c hk;omega
theorem aIn {s:ByteArray} (h:asc s):asc (norm s):=by
 intro j c hc;have e:(norm s).data.toList=(L s).map fun c=>lJ (gZ c):=wD s;rw[e,List.getElem?_map] at hc
 cases hx:(L s)[j]? with
 | none=>rw[hx] at hc;cases hc
 | some x =>
  rw[hx] at hc;injection hc with hc
  have hx2:=h j x hx
  have h1:(gZ x).toNat < 128:=by
   unfold gZ;split
   ·rename_i h1
    rw[UInt8.toNat_add];have:(32:UInt8).toNat=32:=rfl;omega
   exact hx2
  rw[← hc];show (if gZ x=32 then (45:UInt8) else gZ x).toNat < 128
  by_cases c:gZ x=32
  ·rw[if_pos c];decide
  rw[if_neg c];exact h1
theorem eK.lower {w:World} {B B' b:Nat} {p:eH} {vk vu vl u:Value} (H:eK w B b p vk vu vl u) (h:B'≤B):eK w B' b p vk vu vl u :=
 ⟨Nat.le_trans h H.base,H.row,qK H.ok h,qK H.ou h,qK H.ol h,H.nk,H.nu,H.nl,H.ku⟩
def aCr (w:World) (B:Nat) (E:Env) (comp s:ByteArray) (b ub:Nat) (vk vu vl:Value):Prop :=
 eK w B b (gB E comp (norm s)) vk vu vl (.pointer (some ⟨ub,0,none⟩))∧∃ vk2 vu2 vl2 u2,eK w B ub (gB E comp s) vk2 vu2 vl2 u2
theorem aCr.below {w w' : World} {B:Nat} {E:Env} {comp s:ByteArray} {b ub:Nat} {vk vu vl:Value} (H:aCr w B E comp s b ub vk vu vl) (hb:Below w.heap.size w w'):aCr w' B E comp s b ub vk vu vl:=by
 obtain ⟨h1,vk2,vu2,vl2,u2,h2⟩:=H;exact ⟨h1.below hb,vk2,vu2,vl2,u2,h2.below hb⟩
section
variable {w:World} {pb mb sb fb:Nat} {st:eW} {sl sd sf sc:Value}
theorem aFk (S:jC w pb st sl sd sf sc mb sb fb) (OS:jF st) (comp s:ByteArray) (hs:s.size≤900000) (ha:asc s) :
 Calls Tryz.prog 78 #[.pointer (some ⟨pb,0,none⟩),.string comp,.string s] w fun e w' =>
  ∃ b ub vk vu vl,e = .returned (.tuple #[.pointer (some ⟨b,0,none⟩),.nilIface])∧aCr w' w.heap.size (eJ st) comp s b ub vk vu vl∧Below w.heap.size w w':=by
 have HS:=cB S;have cn:=vH s w bA (aJz ha);have hns:(norm s).size≤900000:=by rw[norm_size];exact hs
 have han:=aIn ha
 obtain ⟨t,ht⟩:∃ t,norm s=t:=⟨_,rfl⟩
 rw[ht] at cn hns han;have HT:=cB ht;have HA:=cB ha;have HAN:=cB han;clear S ha han ht;go_enter Tryz.func78,Tryz.ntmps78;go_wp2_with fail
 refine cn.mono ?_;rintro e w1 ⟨rfl,hb1⟩;have HS1:=cB (HS.out.below hb1);have HB1:=cB hb1;clear cn hb1;have cnew:=vV w1 (.pointer (some ⟨pb,0,none⟩)) comp;go_wp2_with fail
 refine cnew.mono ?_;rintro e w2 ⟨rfl,hp2,hb2⟩;have HP2:=cB hp2;have HB2:=cB hb2;have cd:=aC6 HS1.out OS hb2 comp hp2 t hns HAN.out;clear cnew hp2 hb2;go_wp2_with fail
 refine cd.mono ?_;rintro e w3 ⟨rfl,vk,vu,vl,hp3,hm3⟩;have HP3:=cB hp3;have HB3:=cB (HB2.out.trans (fB.below HP2.out hm3));clear cd hp3 hm3
 obtain ⟨b1,hb1⟩:∃ b1,w1.heap.size=b1:=⟨_,rfl⟩
 have HBB:=cB hb1;rw[hb1] at HP3 HB3 ⊢;have hlt:=HP3.out.lt;have HLT:=cB hlt;clear hb1 hlt
 obtain ⟨z,hz⟩:∃ z,(s.toList==t.toList)=z:=⟨_,rfl⟩
 have hz2:(s.toList != t.toList) = !z:=by rw[bne,hz]
 have HZ:=cB hz;cases z
 ·have HS3:=cB (HS1.out.below (HBB.out▸HB3.out))
  have HB03:Aside0 (Below w.heap.size w w3):=⟨HB1.out.trans (HB3.out.mono (by rw[← HBB.out];exact HB1.out.size))⟩
  have cnew:=vV w3 (.pointer (some ⟨pb,0,none⟩)) comp;clear HP2 HB2;go_wp2_with fail
  refine cnew.mono ?_;rintro e w4 ⟨rfl,hp4,hb4⟩;have HP4:=cB hp4;have HB4:=cB hb4;have cd:=aC6 HS3.out OS hb4 comp hp4 s hs HA.out;clear cnew hp4 hb4;have q25:=HP3.out.row.at 25 _ rfl;have f25:=HP3.out.row.free 25 bG;go_wp2_with fail
  refine cd.mono ?_;rintro e w5 ⟨rfl,vk2,vu2,vl2,hp5,hm5⟩;have HB5:=cB (HB4.out.trans (fB.below HP4.out hm5));have HP5:=cB (HP3.out.below HB5.out);have HQ5:=cB hp5;clear cd hp5 hm5 q25 f25;have q25:=HP5.out.row.at 25 _ rfl;have f25:=HP5.out.row.free 25 bG;go_wp2_with fail
  have hpa:=HP5.out.put 25 (.pointer (some ⟨w3.heap.size,0,none⟩)) (mDo (eJ st) comp t { fR with comp:=comp }) (.pointer (some ⟨w3.heap.size,0,none⟩)) rfl rfl rfl rfl bA;have hqa:eK (w5.setCell ⟨b1,25,none⟩ (.pointer (some ⟨w3.heap.size,0,none⟩))) w3.heap.size w3.heap.size (gB (eJ st) comp s) vk2 vu2 vl2 (.pointer none):=HQ5.out.beside (a:=⟨b1,25,none⟩) (by have:=HLT.out;show w3.heap.size≠b1;omega) (lW HQ5.out.ok HLT.out) (lW HQ5.out.ou HLT.out) (lW HQ5.out.ol HLT.out) (.pointer (some ⟨w3.heap.size,0,none⟩));have hbz:Below w.heap.size w (w5.setCell ⟨b1,25,none⟩ (.pointer (some ⟨w3.heap.size,0,none⟩))):=(HB03.out.trans (HB5.out.mono HB03.out.size)).setCell (p:=⟨b1,25,none⟩) (by rw[← HBB.out];exact HB1.out.size) (.pointer (some ⟨w3.heap.size,0,none⟩))
  refine bodyPost_ret (results_tmp2 bH _ _ _) rfl ⟨b1,w3.heap.size,vk,vu,vl,rfl,⟨?_,vk2,vu2,vl2,_,hqa.lower HB03.out.size⟩,hbz⟩;have:=hpa.lower (B':=w.heap.size) (by rw[← HBB.out];exact HB1.out.size);rw[← HT.out] at this;exact this
 have q25:=HP3.out.row.at 25 _ rfl;have f25:=HP3.out.row.free 25 bG
 have HST:=cB (show norm s=s by
  rw[HT.out];refine (L_inj ?_).symm;have h9:=beq_iff_eq.1 HZ.out;rw[L_toList,L_toList] at h9
  exact h9)
 clear HP2 HB2;go_wp2_with fail
 have hpa:=HP3.out.put 25 (.pointer (some ⟨b1,0,none⟩)) (mDo (eJ st) comp t { fR with comp:=comp }) (.pointer (some ⟨b1,0,none⟩)) rfl rfl rfl rfl bA;have hbz:Below w.heap.size w (w3.setCell ⟨b1,25,none⟩ (.pointer (some ⟨b1,0,none⟩))):=(HB1.out.trans (HB3.out.mono (by rw[← HBB.out];exact HB1.out.size))).setCell (p:=⟨b1,25,none⟩) (by rw[← HBB.out];exact HB1.out.size) (.pointer (some ⟨b1,0,none⟩));have hp:=hpa.lower (B':=w.heap.size) (by rw[← HBB.out];exact HB1.out.size);rw[← HT.out] at hp;refine bodyPost_ret (results_tmp2 bH _ _ _) rfl ⟨b1,b1,vk,vu,vl,rfl,⟨hp,vk,vu,vl,.pointer (some ⟨b1,0,none⟩),?_⟩,hbz⟩;have h8:=hp;rw[HST.out] at h8;exact h8
theorem aEn (S:jC w pb st sl sd sf sc mb sb fb) (OS:jF st) (comp s:ByteArray) (hs:s.size≤900000) (ha:asc s) :
 Calls Tryz.prog 52 #[.pointer (some ⟨pb,0,none⟩),.string comp,.string s] w fun e w' =>
  ∃ b ub vk vu vl,e = .returned (.pointer (some ⟨b,0,none⟩))∧aCr w' w.heap.size (eJ st) comp s b ub vk vu vl∧Below w.heap.size w w':=by
 have c:=aFk S OS comp s hs ha;clear S hs ha;go_enter Tryz.func52,Tryz.ntmps52;go_wp2_with fail
 refine c.mono ?_;rintro e w' ⟨b,ub,vk,vu,vl,rfl,hp,hb⟩;have HP:=cB hp;have HB:=cB hb;clear c hp hb;go_wp2_with fail
 go_ret;exact ⟨b,ub,vk,vu,vl,rfl,HP.out,HB.out⟩
end
open Go.RowKit Go.WideMaps Go.ZW.PrintWords Go.Proofs.YtcdgldnphhidlaaGreatDoor.Base Go.Proofs.YtcdgldnphhidlaaGreatDoor.Lower
structure SiteIn (w:World) (st:eW) (vl vd vf vc:Value):Prop where
 l:eV w 0 vl st.langs
 d:eV w 0 vd st.dis
 f:nG w 0 vf st.fmts
 c:eV w 0 vc st.cont
theorem SiteIn.below {w w' : World} {st:eW} {vl vd vf vc:Value} (H:SiteIn w st vl vd vf vc) (hb:Below w.heap.size w w'):SiteIn w' st vl vd vf vc :=
 ⟨H.l.below hb,H.d.below hb,H.f.below hb,H.c.below hb⟩
def Told (w:World) (B:Nat) (p:eH) (v1 v2 v3:Value):Prop:=eV w B v1 (jW p)∧eV w B v2 (kB p)∧eV w B v3 (lK p)
theorem Told.below {w w' : World} {B:Nat} {p:eH} {v1 v2 v3:Value} (H:Told w B p v1 v2 v3) (hb:Below w.heap.size w w'):Told w' B p v1 v2 v3:=⟨H.1.below hb,H.2.1.below hb,H.2.2.below hb⟩
open Go.RowKit Go.WideMaps Go.ZW.PrintWords Go.Proofs.YtcdgldnphhidlaaGreatDoor.Base Go.Proofs.YtcdgldnphhidlaaGreatDoor.Lower Go.Proofs.YtcdgldnphhidlaaGreatDoor.Total Go.Proofs.YtcdgldnphhidlaaGreatDoor.PCore
structure mM (w:World) (st:eW) (vl vd vf vc:Value):Prop extends SiteIn w st vl vd vf vc where
 ll:st.langs.length≤9223372036854775807
 dl:st.dis.length≤9223372036854775807
 fl:st.fmts.length≤9223372036854775807
 cl:st.cont.length≤9223372036854775807
theorem mM.below {w w' : World} {st:eW} {vl vd vf vc:Value} (H:mM w st vl vd vf vc) (hb:Below w.heap.size w w'):mM w' st vl vd vf vc :=
 ⟨H.toSiteIn.below hb,H.ll,H.dl,H.fl,H.cl⟩
def rB (st:eW):Bool:=Total.fits1 st.langs st.dis (st.fmts.map mkF) st.cont
def shortS (st:eW) (comp s:ByteArray):Bool:=xJ st.langs st.dis (st.fmts.map mkF) st.cont comp s
section
variable {w:World} {st:eW} {vl vd vf vc:Value}
theorem qO (S:mM w st vl vd vf vc):Calls Tryz.prog 15 #[.agg #[vl,vd,vf,vc]] w fun e w'=>e = .returned (.bool (rB st))∧Below w.heap.size w w':=by
 obtain ⟨k,hk⟩:=(Total.ev_fits1 st.langs st.dis (st.fmts.map mkF) st.cont).rounds;obtain ⟨A0,c0,rfl,h0,r0⟩:=S.l.kd S.ll;obtain ⟨A1,c1,rfl,h1,r1⟩:=S.d.kd S.dl;obtain ⟨A2,c2,rfl,h2,r2⟩:=S.f.kd S.fl;obtain ⟨A3,c3,rfl,h3,r3⟩:=S.c.kd S.cl;exact lH.calls k A0 c0 _ A1 c1 _ A2 c2 _ A3 c3 _ _ w r0 h0 r1 h1 r2 h2 r3 h3 hk
theorem aFq (S:mM w st vl vd vf vc) (hf:rB st=true) (comp s:ByteArray) (hcs:comp.size+s.size≤3 * MM):Calls Tryz.prog 16 #[.agg #[vl,vd,vf,vc],.string comp,.string s] w fun e w'=>e = .returned (.bool (shortS st comp s))∧Below w.heap.size w w':=by
 obtain ⟨k,hk⟩:=(aIx st.langs st.dis (st.fmts.map mkF) st.cont comp s hf hcs).rounds;obtain ⟨A0,c0,rfl,h0,r0⟩:=S.l.kd S.ll;obtain ⟨A1,c1,rfl,h1,r1⟩:=S.d.kd S.dl;obtain ⟨A2,c2,rfl,h2,r2⟩:=S.f.kd S.fl;obtain ⟨A3,c3,rfl,h3,r3⟩:=S.c.kd S.cl;exact gG.calls k A0 c0 _ A1 c1 _ A2 c2 _ A3 c3 _ comp s _ w r0 h0 r1 h1 r2 h2 r3 h3 hk
theorem aDh {l:List ByteArray} (h:fewB l=true):l.length≤2000∧∀ x∈l,x.size≤2000:=by
 unfold fewB at h;simp only[decide_eq_true_eq] at h;refine ⟨aM,fun x hx=>?_⟩
 have:x.size≤wt l:=by
  unfold wt
  induction l with
  | nil=>cases hx
  | cons a r ih =>
   simp only[List.map_cons,List.sum_cons];rcases List.mem_cons.1 hx with rfl | hx
   ·omega
   have:=ih (by simp only[wt,List.map_cons,List.sum_cons,List.length_cons] at h;simp only[wt];omega) hx;omega
 omega
theorem aKl (l:List (S46)):l.length≤wt3 l:=by
 unfold wt3
 induction l with
 | nil=>simp
 | cons a r ih=>simp only[List.map_cons,List.sum_cons,List.length_cons];omega
theorem aKm (l:List (S46)) (x:S46) (hx:x∈l):x.f0.size+x.f1.size≤wt3 l:=by
 unfold wt3
 induction l with
 | nil=>cases hx
 | cons a r ih =>
  simp only[List.map_cons,List.sum_cons];rcases List.mem_cons.1 hx with rfl | hx
  ·omega
  have:=ih hx;omega
theorem tA {comp s:ByteArray} (h:shortS st comp s=true):jF st∧comp.size≤2000∧s.size≤2000∧st.langs.length≤2000∧st.dis.length≤2000∧(st.fmts.map mkF).length≤2000∧st.cont.length≤2000∧(∀ x∈st.langs,x.size≤2000)∧(∀ x∈st.dis,x.size≤2000)∧(∀ x∈st.fmts.map mkF,x.f0.size≤2000∧x.f1.size≤2000)∧(∀ x∈st.cont,x.size≤2000):=by
 unfold shortS xJ at h;simp only[Bool.and_eq_true,decide_eq_true_eq] at h;obtain ⟨h0,h1,h2,h3⟩:=h;obtain ⟨a1,a2⟩:=aDh h1;obtain ⟨b1,b2⟩:=aDh h2;obtain ⟨c1,c2⟩:=aDh h3;have hw:=aKl (st.fmts.map mkF);have hm:=aKm (st.fmts.map mkF);have hlen:(st.fmts.map mkF).length=st.fmts.length:=by simp
 refine ⟨⟨aM,aM,aM,aM,fun x hx=>Nat.le_trans (a2 x hx) bA⟩,aM,aM,a1,b1,aM,c1,a2,b2,fun x hx=>?_,c2⟩;have:=hm x hx;omega
theorem zW {s:ByteArray} (h:Ext.ascii (L s)=true):asc s:=by
 intro j c hc;have:=List.all_eq_true.1 h c (List.mem_of_getElem? hc);simp only[decide_eq_true_eq] at this;omega
end
end Go.Proofs.YtcdgldnphhidlaaGreatDoor.Path
namespace Go.Proofs.YtcdgldnphhidlaaGreatDoor.SiteRow
open Go.ChangeShapes Go.WideShapes Go.ChangeAt Go.RowKit Go.Joins Go.Deep Go.Proofs.YtcdgldnphhidlaaGreatDoor.Path
theorem laidOut:laidOutB Tryz.prog=true:=by kernel_rfl
theorem aCv {a:Addr} (h:a.spot=none) (j:Nat):a.add j=⟨a.block,a.off+j,none⟩:=by
 cases a with
 | mk b o s =>
  simp only at h;subst h;unfold Addr.add;split
  ·rename_i h0;subst h0;rfl
  rfl
theorem aB1 {w:World} {a:Addr} {v:Value} (h:w.cell? a=some v):a.spot=none:=by
 unfold World.cell? at h;split at h
 ·cases hs:a.spot with
  | none=>rfl
  | some x=>rw[hs] at h;simp at h
 cases h
section
variable {H:Type} {enc:TypeId×Value→H} {W:World}
theorem open_strs {n:Nat} {v:Value} {y:DataW H×List MemPlace} (h:DataW.trod enc Tryz.prog W 0 (fun _=>true) true n 22 [v]=some y):∃ l,eV W 0 v l∧l.length≤9223372036854775807:=by
 rcases open_strings Tryz.underlying22 Tryz.underlying9 bB h with ⟨hcs,_⟩ | ⟨a,len,cap,ss,hcs,_,hl,hm,hz,_,hcell,_⟩
 ·injection hcs with hcs
  subst hcs;exact ⟨[],eV.nil _ _ _ _,dX⟩
 injection hcs with hcs
 subst hcs;simp only[if_true] at hz;have hlen:(ss.take len).length=len:=by rw[List.length_take];omega
 have hmx:cap≤9223372036854775807:=by have:=hm;unfold maxLen at this;omega
 refine ⟨ss.take len,⟨some a,cap,by rw[hlen],by rw[hlen];exact hl,fun hp=>?_⟩,by rw[hlen];omega⟩;rw[hlen] at hp;have hsp:a.spot=none:=aB1 (show W.cell? a=_ by have:=hcell 0 bA;rwa[show a.add 0=a by simp[Addr.add]] at this);refine ⟨a.block,a.off,by cases a;simp only at hsp;subst hsp;rfl,Nat.zero_le _,fun j hj=>?_⟩;have hj2:j < len:=by rw[hlen] at hj;exact hj
 have:=hcell j bA;rw[aCv hsp] at this;rw[this];congr 2;rw[List.getElem_take,List.getD_eq_getElem?_getD,List.getElem?_eq_getElem bA];rfl
theorem aH8 {n:Nat} {v:Value} {y:DataW H×List MemPlace} (h:DataW.trod enc Tryz.prog W 0 (fun _=>true) true n 23 [v]=some y):∃ l,nG W 0 v l∧l.length≤9223372036854775807:=by
 rcases open_slice Tryz.underlying23 h with ⟨hcs,_⟩ | ⟨a,len,cap,m,n2,D,Pl,hcs,_,hl,hm,hmm,_,hi⟩
 ·injection hcs with hcs
  subst hcs;exact ⟨[],⟨none,0,rfl,Nat.le_refl _,fun h=>absurd h bI⟩,dX⟩
 injection hcs with hcs
 subst hcs;simp only[if_true] at hmm;have hmx:cap≤9223372036854775807:=by have:=hm;unfold maxLen at this;omega
 have h2:Tryz.prog.cellsOf 46=2:=by kernel_rfl
 have each:∀ i,i < len→∃ x:ByteArray×ByteArray,W.cell? (a.add (i * 2))=some (.string x.1)∧W.cell? (a.add (i * 2+1))=some (.string x.2):=by
  intro i hil;obtain ⟨cs,hc,ht⟩:=hi i bA;rw[h2] at hc;obtain ⟨_,hcl,hat⟩:=World.cells?_some hc;obtain ⟨y0,y1,n3,_,_,h0,h1⟩:=trod_struct2 Tryz.underlying46 ht
  match cs,hcl with
  | [c0,c1],_ =>
   have e0:DataW.trod enc Tryz.prog W 0 (fun _=>true) true n3 9 [c0]=some y0:=h0;have e1:DataW.trod enc Tryz.prog W 0 (fun _=>true) true n3 9 [c1]=some y1:=h1;obtain ⟨s0,hs0,_⟩:=DataW.trod_string Tryz.underlying9 e0;obtain ⟨s1,hs1,_⟩:=DataW.trod_string Tryz.underlying9 e1;injection hs0 with hs0
   injection hs1 with hs1
   subst hs0 hs1;have a0:=hat 0 bA;have a1:=hat 1 bA;rw[Go.Deep.add_add] at a0 a1;exact ⟨(s0,s1),a0,a1⟩
 obtain ⟨f,hf⟩:=choose_lt each;have hlen:((List.range len).map f).length=len:=by simp
 refine ⟨(List.range len).map f,⟨some a,cap,by rw[hlen],by rw[hlen];exact hl,fun hp=>?_⟩,by rw[hlen];omega⟩;rw[hlen] at hp;have hsp:a.spot=none:=aB1 (show W.cell? a=_ by have:=(hf 0 hp).1;rwa[show a.add (0 * 2)=a by simp[Addr.add]] at this);refine ⟨a.block,a.off,by cases a;simp only at hsp;subst hsp;rfl,Nat.zero_le _,fun j hj=>?_⟩;have hj2:j < len:=by rw[hlen] at hj;exact hj
 obtain ⟨g1,g2⟩:=hf j hj2;rw[aCv hsp] at g1 g2;rw[g1,g2]
 simp
theorem open_site {r:Reach} {base:Nat} {v:Value} {d:DataW H} {p:List MemPlace} (hv:Value.okWide Tryz.prog W r base 25 v) (h:DataW.Trod enc Tryz.prog W 0 (fun _=>true) true 25 v d p) :
 ∃ st vl vd vf vc,v = .agg #[vl,vd,vf,vc]∧mM W st vl vd vf vc:=by
 obtain ⟨v0,v1,v2,v3,y0,y1,y2,y3,n,rfl,_,_,h0,h1,h2,h3⟩:=open_agg4 Tryz.underlying25 bB bB hv h;obtain ⟨l0,s0,z0⟩:=open_strs h0;obtain ⟨l1,s1,z1⟩:=open_strs h1;obtain ⟨l2,s2,z2⟩:=aH8 h2;obtain ⟨l3,s3,z3⟩:=open_strs h3;exact ⟨⟨l0,l1,l2,l3⟩,v0,v1,v2,v3,rfl,⟨⟨s0,s1,s2,s3⟩,z0,z1,z2,z3⟩⟩
end
end Go.Proofs.YtcdgldnphhidlaaGreatDoor.SiteRow
namespace Go.Proofs.YtcdgldnphhidlaaGreatDoor.Path
open Go.RowKit Go.WideMaps Go.ZW.PrintWords Go.Proofs.YtcdgldnphhidlaaGreatDoor.Base Go.Proofs.YtcdgldnphhidlaaGreatDoor.Lower Go.Proofs.YtcdgldnphhidlaaGreatDoor.Total Go.Proofs.YtcdgldnphhidlaaGreatDoor.PCore
def oC (w:World) (B:Nat) (t:gK) (v1 v2 v3:Value):Prop:=eV w B v1 t.langs∧eV w B v2 t.ids∧eV w B v3 t.unk
theorem oC.below {w w' : World} {B:Nat} {t:gK} {v1 v2 v3:Value} (H:oC w B t v1 v2 v3) (hb:Below w.heap.size w w'):oC w' B t v1 v2 v3:=⟨H.1.below hb,H.2.1.below hb,H.2.2.below hb⟩
theorem oC.mono {w:World} {B B' : Nat} {t:gK} {v1 v2 v3:Value} (H:oC w B t v1 v2 v3) (h:B'≤B):oC w B' t v1 v2 v3:=⟨H.1.mono h,H.2.1.mono h,H.2.2.mono h⟩
theorem oC.far {w w' : World} {B:Nat} {t:gK} {v1 v2 v3:Value} (H:oC w B t v1 v2 v3) (hb:∀ k,B≤k→k < w.heap.size→w'.heap[k]? = w.heap[k]?):oC w' B t v1 v2 v3:=⟨H.1.far hb,H.2.1.far hb,H.2.2.far hb⟩
theorem oC.one {w:World} {B:Nat} {t:gK} {v1 v2 v3:Value} (H:oC w B t v1 v2 v3):(nV t v1 v2 v3).all (·.oneCell')=true:=by
 obtain ⟨A1,c1,rfl,_⟩:=H.1;obtain ⟨A2,c2,rfl,_⟩:=H.2.1;obtain ⟨A3,c3,rfl,_⟩:=H.2.2;exact nZ _ _ _ _ _ _ _ _ _ _
section
variable {w:World} {st:eW} {vl vd vf vc:Value}
theorem aAo (S:nS w st vl vd vf vc) (O:aAv st) (comp s:ByteArray) (hs:s.size≤900000) :
 Calls Tryz.prog 49 #[.agg #[vl,vd,vf,vc],.string comp,.string s] w fun e w' =>
  ∃ v1 v2 v3,e = .returned (iH (tQ (wOf st comp (pathOf s false))) v1 v2 v3)∧oC w' w.heap.size (tQ (wOf st comp (pathOf s false))) v1 v2 v3∧Below w.heap.size w w':=by
 obtain ⟨x,hx⟩:∃ x,wOf st comp (pathOf s false)=x:=⟨_,rfl⟩
 have HO:Aside0 (wH x):=cB (hx▸aK1 st comp s false hs);rw[hx];have HSI:=cB S;have HF:=cB O;obtain ⟨Al,cl,rfl,_,_⟩:=S.l;obtain ⟨Ad,cd,rfl,_,_⟩:=S.d;obtain ⟨Af,cf,rfl,_,_⟩:=S.f;obtain ⟨Ac,cc,rfl,_,_⟩:=S.c;clear S O;have hB1:Below w.heap.size w (w.alloc (.cells #[.slice Al st.langs.length cl,.slice Ad st.dis.length cd,.slice Af st.fmts.length cf,.slice Ac st.cont.length cc] 25)):=(Below.refl _ _).alloc (Nat.le_refl _) _;have hR1:=Row.new w [.slice Al st.langs.length cl,.slice Ad st.dis.length cd,.slice Af st.fmts.length cf,.slice Ac st.cont.length cc] 25;have hs1:w.heap.size < (w.alloc (.cells #[.slice Al st.langs.length cl,.slice Ad st.dis.length cd,.slice Af st.fmts.length cf,.slice Ac st.cont.length cc] 25)).heap.size:=by simp
 go_enter Tryz.func49,Tryz.ntmps49;go_upto_region 1 with fail
 obtain ⟨w1,hw1⟩:∃ w1,w.alloc (.cells #[.slice Al st.langs.length cl,.slice Ad st.dis.length cd,.slice Af st.fmts.length cf,.slice Ac st.cont.length cc] 25)=w1:=⟨_,rfl⟩
 have hz1:w1.heap.size=w.heap.size+1:=by rw[← hw1];simp
 rw[hw1] at hB1 hR1 hs1 ⊢;clear hw1;have hB2:Below w1.heap.size w1 (w1.alloc (.cells eZ.toArray 35)):=(Below.refl _ _).alloc (Nat.le_refl _) _;have hR2:Row (w1.alloc (.cells eZ.toArray 35)) w1.heap.size eZ:=Row.new w1 eZ _;rw[show eZ.toArray=TZ from rfl] at hB2 hR2
 obtain ⟨w2,hw2⟩:∃ w2,w1.alloc (.cells TZ 35)=w2:=⟨_,rfl⟩
 rw[hw2] at hB2 hR2;change Code.wp _ _ _ _ (w1.alloc (.cells TZ 35));rw[hw2];clear hw2;rw[hz1] at hR2;have hB:Below w.heap.size w w2:=hB1.trans (hB2.mono bA);have hRs:=hR1.below hB2 hs1;have r0:=hRs.at 0 _ rfl;have r1:=hRs.at 1 _ rfl;have r2:=hRs.at 2 _ rfl;have r3:=hRs.at 3 _ rfl;have HB:=cB hB;have HR2:=cB hR2;have hlt2:w.heap.size+1 < w2.heap.size:=hR2.lt bF;have cp:=aCk (HSI.out.below hB) HF.out comp s false hs;rw[hx] at cp;clear hx hB1 hR1 hs1 hB2 hR2 hB hRs hz1 HF;go_wp2_with fail
 refine cp.mono ?_;rintro e w3 ⟨v0,v1,v2,rfl,q0,q1,q2,hb3⟩;obtain ⟨A0,c0,e0,_⟩:=id q0;obtain ⟨A1,c1,e1,_⟩:=id q1;obtain ⟨A2,c2,e2,_⟩:=id q2;subst e0 e1 e2;have ca:=aB7 HO.out (q0.mono (Nat.zero_le _)) (q1.mono (Nat.zero_le _)) (q2.mono (Nat.zero_le _));have HQ0:=cB q0;have HQ1:=cB q1;have HQ2:=cB q2;have HB3:=cB hb3;clear cp q0 q1 q2 hb3 r0 r1 r2 r3;go_wp2_with fail
 refine ca.mono ?_;rintro e w4 ⟨rfl,hb4⟩;have HB4:=cB (eD HB3.out hb4);have S1:=cB (HQ0.out.below hb4);have S2:=cB (HQ1.out.below hb4);have S3:=cB (HQ2.out.below hb4);clear ca hb4 HQ0 HQ1 HQ2 HB3
 obtain ⟨C,hC⟩:∃ C:Array Value,nV (tQ x) (.slice A2 x.langs.length c2) (.slice A0 x.ids.length c0) (.slice A1 x.unk.length c1)=C:=⟨_,rfl⟩
 have hval:iH (tQ x) (.slice A2 x.langs.length c2) (.slice A0 x.ids.length c0) (.slice A1 x.unk.length c1) = .agg C:=by rw[← hC];rfl
 have hCs:C.size=31:=by rw[← hC];rfl
 have hl:C.toList.length=31:=by simpa using hCs
 have hone:C.all (·.oneCell')=true:=by rw[← hC];exact nZ _ _ _ _ _ _ _ _ _ _
 have HV:=cB hval;rw[hval];clear hval;have HC:=cB hC;have hRf:=HR2.out.below HB4.out hlt2;have ht:World.there _ (w.heap.size+1) 0 31:=hRf.there
 dsimp only
 refine (show ∀ (a:Act) (w:World),wpList _ _ _ _ a w→_ from by assumption) _ _ ?_;refine wpList_store_mid rfl 35 _ _ rfl (w.heap.size+1) 0 C rfl rfl (by rw[hCs];exact ht) (by rw[hCs];kernel_rfl) hone ?_;have hr:=World.rangeAt_setCells_same _ (w.heap.size+1) 0 C.toList (by rw[hl];exact ht);have hld:=run_loadVar_mid (P:=Tryz.prog) _ (w.heap.size+1) 0 35 C.toList _ hr Tryz.underlying35 rfl (by rw[hl];kernel_rfl);have hfar:∀ k,k≠w.heap.size+1→(w4.setCells (w.heap.size+1) 0 C.toList).heap[k]? = w4.heap[k]?:=fun k hk=>hO _ _ k hk;have hbel:Below w.heap.size w (w4.setCells (w.heap.size+1) 0 C.toList):=below_setCells (Nat.le_succ _) _ _ _ (HB.out.trans (HB4.out.mono HB.out.size))
 obtain ⟨W,hW⟩:∃ W,w4.setCells (w.heap.size+1) 0 C.toList=W:=⟨_,rfl⟩
 rw[hW] at hld hbel hfar ⊢;have hz:=HB.out.size;have s1:=cB (S1.out.far fun k hk _=>hfar k bA);have s2:=cB (S2.out.far fun k hk _=>hfar k bA);have s3:=cB (S3.out.far fun k hk _=>hfar k bA);have HBel:=cB hbel;clear hbel hfar hW hr hone hl hCs ht hRf S1 S2 S3;go_wp2_with fail
 refine bodyPost_ret (v:=.agg C) (oX Tryz.results49 rfl (by simpa using hld)) rfl ⟨_,_,_,?_,⟨s3.out.mono hz,s1.out.mono hz,s2.out.mono hz⟩,HBel.out⟩;rw[HV.out]
end
open Go.ZW.PrintLast
theorem aHw {st:eW} {comp s:ByteArray} (h:shortS st comp s=true):aAv st:=by
 obtain ⟨_,_,_,h1,h2,h3,h4,h5,h6,_,h7⟩:=tA h;have hlen:(st.fmts.map mkF).length=st.fmts.length:=by simp
 exact ⟨aM,aM,aM,aM,fun x hx=>Nat.le_trans (h5 x hx) bA,fun x hx=>Nat.le_trans (h6 x hx) bA,fun x hx=>Nat.le_trans (h7 x hx) bA⟩
theorem aJn {st:eW} {comp s:ByteArray} (K:lF st comp s):tQ (wOf st comp (pathOf s false))=gL (gB (eJ st) comp (norm s)):=by
 obtain ⟨h1,h2,h3⟩:=aEi K (wOf st comp (pathOf s false)).typ false;have e:{ gB (eJ st) comp (norm s) with typ:=(wOf st comp (pathOf s false)).typ,trim:=false }=gB (eJ st) comp (norm s):=by rw[← h2,← h3]
 rw[e] at h1;rw[h1,aG5]
open Go.RowKit Go.WideMaps Go.ZW.PrintWords Go.Proofs.YtcdgldnphhidlaaGreatDoor.Base Go.Proofs.YtcdgldnphhidlaaGreatDoor.Lower
def aLj (b:ByteArray):ByteArray:=if b=⟨#[47]⟩ then ⟨#[]⟩ else b
theorem aL6 {b:ByteArray}:(b.toList==[47])=true↔b=⟨#[47]⟩:=by
 constructor
 ·intro h;have:b.toList=[47]:=by simpa using h
  rw[L_toList] at this;exact L_inj (by rw[this];rfl)
 intro h;rw[h,L_toList];rfl
section
variable {w:World} {B b B2 b2:Nat} {p p2:eH} {vk vu vl u vk2 vu2 vl2 u2:Value}
theorem aL2 (H:eK w B b p vk vu vl u) (H2:eK w B2 b2 p2 vk2 vu2 vl2 u2) (O2:iN p2):Calls Tryz.prog 54 #[.pointer (some ⟨b,0,none⟩),.pointer (some ⟨b2,0,none⟩)] w fun e w'=>e = .returned (.string (aLl (nrm p.trim p.s) (vB p2)))∧Below w.heap.size w w':=by
 have c1:=zP H2 O2;have z1:(vB p2).size≤2000000:=aLt O2.toPathIn;have HH:=cB H;clear H H2
 obtain ⟨o,ho⟩:∃ o,vB p2=o:=⟨_,rfl⟩
 rw[ho] at c1 z1 ⊢
 obtain ⟨pt,hpt⟩:∃ x,nrm p.trim p.s=x:=⟨_,rfl⟩
 have HPT:=cB hpt;rw[hpt];clear ho hpt
 obtain ⟨sf,hsf⟩:∃ x,Lib.hasSuffix (L o) [47]=x:=⟨_,rfl⟩
 have HSF:=cB hsf;have cs:∀ w,Calls _ _ _ w _:=fun w=>Tryz.strings_HasSuffix o ⟨#[47]⟩ w bA;have e2:Lib.hasSuffix o.data.toList (⟨#[47]⟩:ByteArray).data.toList=Lib.hasSuffix (L o) [47]:=rfl;rw[e2,hsf] at cs;clear hsf e2;go_enter Tryz.func54,Tryz.ntmps54;go_wp2_with fail
 refine c1.mono ?_;rintro e w1 ⟨rfl,hb1⟩;have HB1:=cB hb1;clear hb1 c1;go_wp2_with fail
 refine (cs _).mono ?_;rintro e w2 ⟨rfl,hw2⟩;obtain rfl:w1=w2:=hw2.symm;clear cs;have c3:=rU (HH.out.below HB1.out);rw[HPT.out] at c3;cases sf
 ·go_wp2_with fail
  refine c3.mono ?_;rintro e w3 ⟨rfl,hw3⟩;obtain rfl:w1=w3:=hw3.symm;clear c3;go_wp2_with fail
  refine (Tryz.strings_TrimPrefix _ _ _).mono ?_;rintro e w4 ⟨rfl,hw4⟩;obtain rfl:w1=w4:=hw4.symm;go_wp2_with fail
  go_ret;refine ⟨?_,HB1.out⟩;have:aLp o=o++⟨#[47]⟩:=by unfold aLp;rw[HSF.out];rfl
  unfold aLl;rw[this,nQ];rfl
 go_wp2_with fail
 refine c3.mono ?_;rintro e w3 ⟨rfl,hw3⟩;obtain rfl:w1=w3:=hw3.symm;clear c3;go_wp2_with fail
 refine (Tryz.strings_TrimPrefix _ _ _).mono ?_;rintro e w4 ⟨rfl,hw4⟩;obtain rfl:w1=w4:=hw4.symm;go_wp2_with fail
 go_ret;refine ⟨?_,HB1.out⟩;have:aLp o=o:=by unfold aLp;rw[HSF.out];rfl
 unfold aLl;rw[this];rfl
theorem aL1 (H:eK w B b p vk vu vl u) (O:iN p) (H2:eK w B2 b2 p2 vk2 vu2 vl2 u2) (O2:iN p2) (hlt:(aLj (vB p2)).size < (vB p).size):Calls Tryz.prog 53 #[.pointer (some ⟨b,0,none⟩),.pointer (some ⟨b2,0,none⟩)] w fun e w'=>e = .returned (.string ((vB p).extract ((aLj (vB p2)).size+1) (vB p).size))∧Below w.heap.size w w':=by
 have c1:=zP H2 O2;have z1:(vB p2).size≤2000000:=aLt O2.toPathIn;have z2:(vB p).size≤2000000:=aLt O.toPathIn;have HH:=cB H;have HO:=cB O;clear H H2 O
 obtain ⟨o,ho⟩:∃ o,vB p2=o:=⟨_,rfl⟩
 rw[ho] at c1 z1 hlt ⊢
 obtain ⟨bs,hbs⟩:∃ x,vB p=x:=⟨_,rfl⟩
 have HBS:=cB hbs;rw[hbs] at z2 hlt ⊢;clear ho hbs
 cases c0:(o.toList==[47]) with
 | true =>
  have ho:aLj o=⟨#[]⟩:=if_pos (aL6.1 c0);have hz:(⟨#[]⟩:ByteArray).size=0:=rfl;rw[ho,hz] at hlt ⊢;have hlt2:(0:Int)+1≤(bs.size:Int):=by omega
  clear ho hz;go_enter Tryz.func53,Tryz.ntmps53;go_wp2_with fail
  refine c1.mono ?_;rintro e w1 ⟨rfl,hb1⟩;have HB1:=cB hb1;have c3:=zP (HH.out.below hb1) HO.out;rw[HBS.out] at c3;clear hb1 c1;go_wp2_with fail
  refine c3.mono ?_;rintro e w3 ⟨rfl,hb3⟩;have HB3:=cB (eD HB1.out hb3);clear c3 hb3;go_wp2_with fail
  go_ret;exact ⟨rfl,HB3.out⟩
 | false =>
  have ho:aLj o=o:=if_neg (fun h=>by rw[aL6.2 h] at c0;cases c0);rw[ho] at hlt ⊢;have hlt2:(o.size:Int)+1≤(bs.size:Int):=by omega
  clear ho;go_enter Tryz.func53,Tryz.ntmps53;go_wp2_with fail
  refine c1.mono ?_;rintro e w1 ⟨rfl,hb1⟩;have HB1:=cB hb1;have c3:=zP (HH.out.below hb1) HO.out;rw[HBS.out] at c3;clear hb1 c1;go_wp2_with fail
  refine c3.mono ?_;rintro e w3 ⟨rfl,hb3⟩;have HB3:=cB (eD HB1.out hb3);clear c3 hb3;go_wp2_with fail
  go_ret;exact ⟨rfl,HB3.out⟩
end
section
variable {w:World} {st:eW} {vl vd vf vc:Value}
theorem aLw (S:SiteIn w st vl vd vf vc) (OS:jF st) (comp s owner:ByteArray) (hs:s.size≤900000) (ho:owner.size≤900000) (ha:asc s) (hao:asc owner) :
 Calls Tryz.prog 21 #[.agg #[vl,vd,vf,vc],.string comp,.string s,.string owner] w fun e w'=>e = .returned (.string (aLl (nrm (gB (eJ st) comp (norm s)).trim (gB (eJ st) comp (norm s)).s) (vB (gB (eJ st) comp (norm owner)))))∧Below w.heap.size w w':=by
 have HSI:=cB S;have HOK:=cB (qR (eJ st) comp (norm s) (by rw[norm_size];exact hs));have HOK2:=cB (qR (eJ st) comp (norm owner) (by rw[norm_size];exact ho));have HA:=cB ha;have HA2:=cB hao;obtain ⟨Al,cl,rfl,_,_⟩:=S.l;obtain ⟨Ad,cd,rfl,_,_⟩:=S.d;obtain ⟨Af,cf,rfl,_,_⟩:=S.f;obtain ⟨Ac,cc,rfl,_,_⟩:=S.c;clear S ha hao;have hB1:Below w.heap.size w (w.alloc (.cells #[.slice Al st.langs.length cl,.slice Ad st.dis.length cd,.slice Af st.fmts.length cf,.slice Ac st.cont.length cc] 25)):=(Below.refl _ _).alloc (Nat.le_refl _) _;have hR1:=Row.new w [.slice Al st.langs.length cl,.slice Ad st.dis.length cd,.slice Af st.fmts.length cf,.slice Ac st.cont.length cc] 25;go_enter Tryz.func21,Tryz.ntmps21;go_upto_region 1 with fail
 obtain ⟨w1,hw1⟩:∃ w1,w.alloc (.cells #[.slice Al st.langs.length cl,.slice Ad st.dis.length cd,.slice Af st.fmts.length cf,.slice Ac st.cont.length cc] 25)=w1:=⟨_,rfl⟩
 rw[hw1] at hB1 hR1 ⊢;clear hw1;have r0:=hR1.at 0 _ rfl;have r1:=hR1.at 1 _ rfl;have r2:=hR1.at 2 _ rfl;have r3:=hR1.at 3 _ rfl;have HB1:=cB hB1;have cp:=aD3 (HSI.out.l.below hB1) (HSI.out.d.below hB1) (HSI.out.f.below hB1) (HSI.out.c.below hB1) OS;clear hB1 hR1;go_wp2_with fail
 refine cp.mono ?_;rintro e w3 ⟨pb,mb,sb,fb,rfl,hS,hb3⟩;have cP:=aEn hS OS comp s hs HA.out;have HS:=cB hS;have HB3:=cB (eD HB1.out hb3);clear cp hS hb3 r0 r1 r2 r3;go_wp2_with fail
 refine cP.mono ?_;rintro e w4 ⟨b,ub,vk,vu,vl,rfl,hp,hb4⟩;have HP:=cB hp.1;have HB4:=cB (eD HB3.out hb4);have cP2:=aEn (HS.out.below hb4) OS comp owner ho HA2.out;clear cP hp hb4;go_wp2_with fail
 refine cP2.mono ?_;rintro e w5 ⟨b2,ub2,vk2,vu2,vl2,rfl,hp2,hb5⟩;have HB5:=cB (eD HB4.out hb5);have c6:=aL2 (HP.out.below hb5) hp2.1 HOK2.out.1;clear cP2 hp2 hb5;go_wp2_with fail
 refine c6.mono ?_;rintro e w6 ⟨rfl,hb6⟩;have HB6:=cB (eD HB5.out hb6);clear c6 hb6;go_wp2_with fail
 go_ret;exact ⟨rfl,HB6.out⟩
theorem aLv (S:SiteIn w st vl vd vf vc) (OS:jF st) (comp s owner:ByteArray) (hs:s.size≤900000) (ho:owner.size≤900000) (ha:asc s) (hao:asc owner) (hlt:(aLj (vB (gB (eJ st) comp (norm owner)))).size < (vB (gB (eJ st) comp (norm s))).size) :
 Calls Tryz.prog 18 #[.agg #[vl,vd,vf,vc],.string comp,.string s,.string owner] w fun e w'=>e = .returned (.string ((vB (gB (eJ st) comp (norm s))).extract ((aLj (vB (gB (eJ st) comp (norm owner)))).size+1) (vB (gB (eJ st) comp (norm s))).size))∧Below w.heap.size w w':=by
 have HSI:=cB S;have HOK:=cB (qR (eJ st) comp (norm s) (by rw[norm_size];exact hs));have HOK2:=cB (qR (eJ st) comp (norm owner) (by rw[norm_size];exact ho));have HA:=cB ha;have HA2:=cB hao;have HLT:=cB hlt;obtain ⟨Al,cl,rfl,_,_⟩:=S.l;obtain ⟨Ad,cd,rfl,_,_⟩:=S.d;obtain ⟨Af,cf,rfl,_,_⟩:=S.f;obtain ⟨Ac,cc,rfl,_,_⟩:=S.c;clear S ha hao hlt;have hB1:Below w.heap.size w (w.alloc (.cells #[.slice Al st.langs.length cl,.slice Ad st.dis.length cd,.slice Af st.fmts.length cf,.slice Ac st.cont.length cc] 25)):=(Below.refl _ _).alloc (Nat.le_refl _) _;have hR1:=Row.new w [.slice Al st.langs.length cl,.slice Ad st.dis.length cd,.slice Af st.fmts.length cf,.slice Ac st.cont.length cc] 25;go_enter Tryz.func18,Tryz.ntmps18;go_upto_region 1 with fail
 obtain ⟨w1,hw1⟩:∃ w1,w.alloc (.cells #[.slice Al st.langs.length cl,.slice Ad st.dis.length cd,.slice Af st.fmts.length cf,.slice Ac st.cont.length cc] 25)=w1:=⟨_,rfl⟩
 rw[hw1] at hB1 hR1 ⊢;clear hw1;have r0:=hR1.at 0 _ rfl;have r1:=hR1.at 1 _ rfl;have r2:=hR1.at 2 _ rfl;have r3:=hR1.at 3 _ rfl;have HB1:=cB hB1;have cp:=aD3 (HSI.out.l.below hB1) (HSI.out.d.below hB1) (HSI.out.f.below hB1) (HSI.out.c.below hB1) OS;clear hB1 hR1;go_wp2_with fail
 refine cp.mono ?_;rintro e w3 ⟨pb,mb,sb,fb,rfl,hS,hb3⟩;have cP:=aEn hS OS comp s hs HA.out;have HS:=cB hS;have HB3:=cB (eD HB1.out hb3);clear cp hS hb3 r0 r1 r2 r3;go_wp2_with fail
 refine cP.mono ?_;rintro e w4 ⟨b,ub,vk,vu,vl,rfl,hp,hb4⟩;have HP:=cB hp.1;have HB4:=cB (eD HB3.out hb4);have cP2:=aEn (HS.out.below hb4) OS comp owner ho HA2.out;clear cP hp hb4;go_wp2_with fail
 refine cP2.mono ?_;rintro e w5 ⟨b2,ub2,vk2,vu2,vl2,rfl,hp2,hb5⟩;have HB5:=cB (eD HB4.out hb5);have c6:=aL1 (HP.out.below hb5) HOK.out.1 hp2.1 HOK2.out.1 HLT.out;clear cP2 hp2 hb5;go_wp2_with fail
 refine c6.mono ?_;rintro e w6 ⟨rfl,hb6⟩;have HB6:=cB (eD HB5.out hb6);clear c6 hb6;go_wp2_with fail
 go_ret;exact ⟨rfl,HB6.out⟩
end
theorem aLg {w w' : World} {b j:Nat} {v:Value} (h:w.cell? ⟨b,j,none⟩=some v) (hb:Below w.heap.size w w'):w'.cell? ⟨b,j,none⟩=some v:=(hb.cell (World.block_lt_of_cell? w ⟨b,j,none⟩ h)).trans h
theorem aL5 (t:gK) (A1 A2 A3:Option Addr) (n1 n2 n3 c1 c2 c3:Nat) (W:World):(Instr.field 35 (iH t (.slice A1 n1 c1) (.slice A2 n2 c2) (.slice A3 n3 c3)) 9).run Tryz.prog W = .ok (.string t.path) W:=by kernel_rfl
theorem aLo (t:gK) (A1 A2 A3:Option Addr) (n1 n2 n3 c1 c2 c3:Nat) (W:World):(Instr.field 35 (iH t (.slice A1 n1 c1) (.slice A2 n2 c2) (.slice A3 n3 c3)) 13).run Tryz.prog W = .ok (.string t.base) W:=by kernel_rfl
theorem aL9 {o:ByteArray} (h:(o.toList==[])=true):o=⟨#[]⟩:=by
 have h9:o.toList=[]:=by simpa using h
 rw[L_toList] at h9;exact L_inj (h9.trans rfl)
section
variable {w:World} {st:eW} {vl vd vf vc:Value}
theorem aLq (S:nS w st vl vd vf vc) (O:aAv st) {comp s:ByteArray} (K:lF st comp s) {t:gK} (ht:gL (gB (eJ st) comp (norm s))=t) (W:World) (hb:Below w.heap.size w W):Calls Tryz.prog 49 #[.agg #[vl,vd,vf,vc],.string comp,.string s] W fun e w' =>
 ∃ v1 v2 v3,e = .returned (iH t v1 v2 v3)∧oC w' W.heap.size t v1 v2 v3∧Below W.heap.size W w' :=
 ht▸aJn K▸aAo (S.below hb) O comp s (by have:=K.most;omega)
theorem aLm {comp s:ByteArray} (K:lF st comp s):(vB (gB (eJ st) comp (norm s))).size≤2000000∧(nrm (gB (eJ st) comp (norm s)).trim (gB (eJ st) comp (norm s)).s).size≤1000000:=by
 have h:=(qR (eJ st) comp (norm s) (by rw[norm_size];have:=K.most;omega)).1.toPathIn;exact ⟨aLt h,aL0 h⟩
theorem aLr (S:nS w st vl vd vf vc) (O:aAv st) {comp owner:ByteArray} (K2:lF st comp owner):Calls Tryz.prog 50 #[.agg #[vl,vd,vf,vc],.string comp,.string owner] w fun e w'=>e = .returned (.string (aLj (vB (gB (eJ st) comp (norm owner)))))∧Below w.heap.size w w':=by
 obtain ⟨T2,hT2⟩:∃ t,gL (gB (eJ st) comp (norm owner))=t:=⟨_,rfl⟩
 obtain ⟨o,ho⟩:∃ x,vB (gB (eJ st) comp (norm owner))=x:=⟨_,rfl⟩
 have e2:T2.base=o:=by rw[← hT2,← ho];rfl
 rw[ho];have HK:=cB K2;have HT2:=cB hT2;have HE2:=cB e2;clear K2 hT2 ho e2;have HSI:=cB S;have HFW:=cB O;obtain ⟨Al,cl,rfl,_,_⟩:=S.l;obtain ⟨Ad,cd,rfl,_,_⟩:=S.d;obtain ⟨Af,cf,rfl,_,_⟩:=S.f;obtain ⟨Ac,cc,rfl,_,_⟩:=S.c;clear S O;have hB1:Below w.heap.size w (w.alloc (.cells #[.slice Al st.langs.length cl,.slice Ad st.dis.length cd,.slice Af st.fmts.length cf,.slice Ac st.cont.length cc] 25)):=(Below.refl _ _).alloc (Nat.le_refl _) _;have hR1:=Row.new w [.slice Al st.langs.length cl,.slice Ad st.dis.length cd,.slice Af st.fmts.length cf,.slice Ac st.cont.length cc] 25;go_enter Tryz.func50,Tryz.ntmps50;go_upto_region 1 with fail
 obtain ⟨w1,hw1⟩:∃ w1,w.alloc (.cells #[.slice Al st.langs.length cl,.slice Ad st.dis.length cd,.slice Af st.fmts.length cf,.slice Ac st.cont.length cc] 25)=w1:=⟨_,rfl⟩
 rw[hw1] at hB1 hR1 ⊢;clear hw1;have r0:=hR1.at 0 _ rfl;have r1:=hR1.at 1 _ rfl;have r2:=hR1.at 2 _ rfl;have r3:=hR1.at 3 _ rfl;have HB1:=cB hB1;have HR1:=cB hR1;clear hB1 hR1;have c:=aLq HSI.out HFW.out HK.out HT2.out w1 HB1.out;go_wp2_with fail
 refine c.mono ?_;rintro e w2 ⟨v1,v2,v3,rfl,hT,hb2⟩;obtain ⟨a1x,d1x,f1x,_⟩:=hT.1;obtain ⟨a2x,d2x,f2x,_⟩:=hT.2.1;obtain ⟨a3x,d3x,f3x,_⟩:=hT.2.2;subst f1x f2x f3x;have hfx:∀ W:World,(Instr.field 35 (iH T2 (.slice a1x T2.langs.length d1x) (.slice a2x T2.ids.length d2x) (.slice a3x T2.unk.length d3x)) 13).run Tryz.prog W = .ok (.string o) W:=fun W=>(aLo T2 _ _ _ _ _ _ _ _ _ W).trans (by rw[HE2.out]);clear hT;have HB2:=cB (eD HB1.out hb2);clear c hb2 r0 r1 r2 r3
 cases c0:(o.toList==[47]) with
 | true =>
  have H0:=cB (show aLj o=⟨#[]⟩ from if_pos (aL6.1 c0));go_wp2_with fail
  go_ret;exact ⟨congrArg (fun x=>Ending.returned (Value.string x)) H0.out.symm,HB2.out⟩
 | false =>
  have H0:=cB (show aLj o=o from if_neg (fun h=>by rw[aL6.2 h] at c0;cases c0));go_wp2_with fail
  go_ret;exact ⟨congrArg (fun x=>Ending.returned (Value.string x)) H0.out.symm,HB2.out⟩
theorem aLy (S:nS w st vl vd vf vc) (O:aAv st) {comp s owner:ByteArray} (K1:lF st comp s) (K2:lF st comp owner):Calls Tryz.prog 22 #[.agg #[vl,vd,vf,vc],.string comp,.string s,.string owner] w fun e w'=>e = .returned (.string (aLi (nrm (gB (eJ st) comp (norm s)).trim (gB (eJ st) comp (norm s)).s) (vB (gB (eJ st) comp (norm owner)))))∧Below w.heap.size w w':=by
 obtain ⟨T1,hT1⟩:∃ t,gL (gB (eJ st) comp (norm s))=t:=⟨_,rfl⟩
 obtain ⟨T2,hT2⟩:∃ t,gL (gB (eJ st) comp (norm owner))=t:=⟨_,rfl⟩
 obtain ⟨pt,hpt⟩:∃ x,nrm (gB (eJ st) comp (norm s)).trim (gB (eJ st) comp (norm s)).s=x:=⟨_,rfl⟩
 obtain ⟨o,ho⟩:∃ x,vB (gB (eJ st) comp (norm owner))=x:=⟨_,rfl⟩
 have e1:T1.path=pt:=by rw[← hT1,← hpt];rfl
 have e2:T2.base=o:=by rw[← hT2,← ho];rfl
 have z1:pt.size≤1000000:=hpt▸(aLm K1).2;have z2:o.size≤2000000:=ho▸(aLm K2).1;rw[hpt,ho];have HK1:=cB K1;have HK2:=cB K2;have HT1:=cB hT1;have HT2:=cB hT2;have HE1:=cB e1;have HE2:=cB e2;clear K1 K2 hT1 hT2 hpt ho e1 e2;have HSI:=cB S;have HFW:=cB O;obtain ⟨Al,cl,rfl,_,_⟩:=S.l;obtain ⟨Ad,cd,rfl,_,_⟩:=S.d;obtain ⟨Af,cf,rfl,_,_⟩:=S.f;obtain ⟨Ac,cc,rfl,_,_⟩:=S.c;clear S O;have hB1:Below w.heap.size w (w.alloc (.cells #[.slice Al st.langs.length cl,.slice Ad st.dis.length cd,.slice Af st.fmts.length cf,.slice Ac st.cont.length cc] 25)):=(Below.refl _ _).alloc (Nat.le_refl _) _;have hR1:=Row.new w [.slice Al st.langs.length cl,.slice Ad st.dis.length cd,.slice Af st.fmts.length cf,.slice Ac st.cont.length cc] 25
 go_enter Tryz.func22,Tryz.ntmps22;go_upto_region 1 with fail
 obtain ⟨w1,hw1⟩:∃ w1,w.alloc (.cells #[.slice Al st.langs.length cl,.slice Ad st.dis.length cd,.slice Af st.fmts.length cf,.slice Ac st.cont.length cc] 25)=w1:=⟨_,rfl⟩
 rw[hw1] at hB1 hR1 ⊢;clear hw1;have r0:=hR1.at 0 _ rfl;have r1:=hR1.at 1 _ rfl;have r2:=hR1.at 2 _ rfl;have r3:=hR1.at 3 _ rfl;have HB1:=cB hB1;have HR1:=cB hR1;clear hB1 hR1;go_upto_region 1 with fail
 refine iJ (n:=12) (S:=fun w'=>w'.cell? ⟨w.heap.size,0,none⟩=some (.slice Al st.langs.length cl)∧w'.cell? ⟨w.heap.size,1,none⟩=some (.slice Ad st.dis.length cd)∧w'.cell? ⟨w.heap.size,2,none⟩=some (.slice Af st.fmts.length cf)∧w'.cell? ⟨w.heap.size,3,none⟩=some (.slice Ac st.cont.length cc)) (ds:=[]) _ bB rfl rfl ⟨r0,r1,r2,r3⟩ (fun hHeld=>?_);refine sA1 1 (some 12) sB1 ?_
 refine sA1 2 (some 13) sB1 ?_
 refine sA1 6 (some 17) sB1 ?_
 refine sA1 7 (some 18) sB1 ?_
 refine sC1 0 (some 11) sP1 ?_
 refine sC1 5 (some 16) sP1 ?_
 refine sF1 3 (some 14) sG1 (fun K hK=>?_);refine lS Tryz.func49 bB rfl #[.agg #[.slice Al st.langs.length cl,.slice Ad st.dis.length cd,.slice Af st.fmts.length cf,.slice Ac st.cont.length cc],.string comp,.string s] bH rfl rfl bJ ?_
 with_reducible refine ((aLq HSI.out HFW.out HK1.out HT1.out _ (eD HB1.out (Below.refl w1.heap.size w1).drew))).mono ?_
 rintro e w3 ⟨v1,v2,v3,rfl,hT,hb3⟩;refine ⟨_,rfl,?_⟩;have HB3:=cB (eD HB1.out (eD (Below.refl w1.heap.size w1).drew hb3));have r0_3:=aLg (w:=w1.drew) r0 hb3;have r1_3:=aLg (w:=w1.drew) r1 hb3;have r2_3:=aLg (w:=w1.drew) r2 hb3;have r3_3:=aLg (w:=w1.drew) r3 hb3;obtain ⟨a1x,d1x,f1x,_⟩:=hT.1;obtain ⟨a2x,d2x,f2x,_⟩:=hT.2.1;obtain ⟨a3x,d3x,f3x,_⟩:=hT.2.2;subst f1x f2x f3x;have hfx:∀ W:World,(Instr.field 35 (iH T1 (.slice a1x T1.langs.length d1x) (.slice a2x T1.ids.length d2x) (.slice a3x T1.unk.length d3x)) 9).run Tryz.prog W = .ok (.string pt) W:=fun W=>(aL5 T1 _ _ _ _ _ _ _ _ _ W).trans (by rw[HE1.out]);clear hT;refine hK.out _ _ ⟨r0_3,r1_3,r2_3,r3_3⟩ (fun hHeld=>?_);clear hK K;refine gM sJ1 ?_
 refine sA1 4 (some 15) sB1 ?_
 refine sF1 8 (some 19) sG1 (fun K hK=>?_);refine lS Tryz.func49 bB rfl #[.agg #[.slice Al st.langs.length cl,.slice Ad st.dis.length cd,.slice Af st.fmts.length cf,.slice Ac st.cont.length cc],.string comp,.string owner] bH rfl rfl bJ ?_
 with_reducible refine ((aLq HSI.out HFW.out HK2.out HT2.out _ HB3.out)).mono ?_
 rintro e w4 ⟨v1,v2,v3,rfl,hT,hb4⟩;refine ⟨_,rfl,?_⟩;have HB4:=cB (eD HB3.out hb4);have r0_4:=aLg (w:=w3) r0_3 hb4;have r1_4:=aLg (w:=w3) r1_3 hb4;have r2_4:=aLg (w:=w3) r2_3 hb4;have r3_4:=aLg (w:=w3) r3_3 hb4;obtain ⟨a1y,d1y,f1y,_⟩:=hT.1;obtain ⟨a2y,d2y,f2y,_⟩:=hT.2.1;obtain ⟨a3y,d3y,f3y,_⟩:=hT.2.2;subst f1y f2y f3y;have hfy:∀ W:World,(Instr.field 35 (iH T2 (.slice a1y T2.langs.length d1y) (.slice a2y T2.ids.length d2y) (.slice a3y T2.unk.length d3y)) 13).run Tryz.prog W = .ok (.string o) W:=fun W=>(aLo T2 _ _ _ _ _ _ _ _ _ W).trans (by rw[HE2.out]);clear hT;refine hK.out _ _ ⟨r0_4,r1_4,r2_4,r3_4⟩ (fun hHeld=>?_);clear hK K;refine gM sJ1 ?_
 refine sA1 9 (some 20) sB1 ?_
 refine sA1 10 (some 9) sB1 ?_
 refine sA1 11 (some 10) sB1 ?_
 refine iV bB ?_;clear hHeld hb3 hb4 r0 r1 r2 r3 r0_3 r1_3 r2_3 r3_3 r0_4 r1_4 r2_4 r3_4 hfx hfy
 cases c0:(o.toList==[]) with
 | true =>
  have ho0:=aL9 c0
  obtain ⟨a,ha⟩:∃ x:ByteArray,o++⟨#[47]⟩=x:=⟨_,rfl⟩
  have za:a.size≤3000000:=by rw[← ha,size_append];have:(⟨#[47]⟩:ByteArray).size=1:=rfl;omega
  have HA:=cB (show aLk o=a from by rw[← ha];exact if_pos (.inl ho0));clear ho0;go_upto_region 4 with fail
  clear ha
  by_cases h1:a.size≤pt.size
  ·have d1:decide ((a.size:Int)≤(pt.size:Int))=true:=decide_eq_true bA;have d2:decide (a.size≤pt.size)=true:=decide_eq_true h1;have d3:(a.size:Int)≤(pt.size:Int):=by omega
   obtain ⟨q,hq⟩:∃ q,((pt.extract 0 a.size).toList==a.toList)=q:=⟨_,rfl⟩
   have HQ:=cB hq;cases q
   ·go_wp2_with fail
    go_ret;refine ⟨?_,HB4.out⟩;unfold aLi;rw[HA.out,if_neg (fun h=>by have h9:=HQ.out;rw[h.2] at h9;simp at h9)];rfl
   go_wp2_with fail
   go_ret;refine ⟨?_,HB4.out⟩;unfold aLi;rw[HA.out,if_pos ⟨h1,L_inj (by have h9:=HQ.out;rw[beq_iff_eq,L_toList,L_toList] at h9;exact h9)⟩];rfl
  have d1:decide ((a.size:Int)≤(pt.size:Int))=false:=decide_eq_false bA;have d2:decide (a.size≤pt.size)=false:=decide_eq_false h1;go_wp2_with fail
  go_ret;refine ⟨?_,HB4.out⟩;unfold aLi;rw[HA.out,if_neg (fun h=>h1 h.1)];rfl
 | false =>
  have h1:0 < o.size:=by
   rcases Nat.eq_zero_or_pos o.size with h | h
   ·have:o=⟨#[]⟩:=L_inj (List.eq_nil_of_length_eq_zero (by rw[eG];exact h));rw[this] at c0;exact Bool.noConfusion (c0.symm.trans (show ((⟨#[]⟩:ByteArray).toList==[])=true by rw[L_toList];rfl))
   exact h
  have hne:o≠⟨#[]⟩:=fun e=>by rw[e] at h1;exact absurd h1 bF
  have d2:IntKind.i64.wrap ((o.size:Int) - 1)=(o.size:Int) - 1:=by rw[IntWalk.i64_in _ bA]
  have d3:0≤(o.size:Int) - 1:=by omega
  have d4:(o.size:Int) - 1 < (o.size:Int):=by omega
  have hx:(((o[o.size - 1]' bA).toNat:Nat):Int)=bt o ((o.size:Int) - 1):=by rw[← fQ o ((o.size:Int) - 1) bA];congr 3;omega
  have d6:((o.size:Int) - 1).toNat=o.size - 1:=by omega
  obtain ⟨g,hg⟩:∃ g,(bt o ((o.size:Int) - 1)==47)=g:=⟨_,rfl⟩
  have hg2:(bt o ((o.size:Int) - 1) != 47) = !g:=by rw[bne,hg]
  have hl:((L o)[o.size - 1]? = some 47)↔g=true:=by
   rw[← eG,← List.getLast?_eq_getElem?,← xU o h1,← hg]
   simp
  have HLL:=cB hl;have HNE:=cB hne;clear hl hne;cases g
  ·have xx:=trivial
   obtain ⟨a,ha⟩:∃ x:ByteArray,o++⟨#[47]⟩=x:=⟨_,rfl⟩
   have za:a.size≤3000000:=by rw[← ha,size_append];have:(⟨#[47]⟩:ByteArray).size=1:=rfl;omega
   have HA:=cB (show aLk o=a from by rw[← ha];exact if_pos (.inr (fun h=>by have:=HLL.out.1 h;cases this)));go_upto_region 4 with fail
   clear hg hg2 hx d2 d3 d4 d6 h1;clear ha
   by_cases h1:a.size≤pt.size
   ·have d1:decide ((a.size:Int)≤(pt.size:Int))=true:=decide_eq_true bA;have d2:decide (a.size≤pt.size)=true:=decide_eq_true h1;have d3:(a.size:Int)≤(pt.size:Int):=by omega
    obtain ⟨q,hq⟩:∃ q,((pt.extract 0 a.size).toList==a.toList)=q:=⟨_,rfl⟩
    have HQ:=cB hq;cases q
    ·go_wp2_with fail
     go_ret;refine ⟨?_,HB4.out⟩;unfold aLi;rw[HA.out,if_neg (fun h=>by have h9:=HQ.out;rw[h.2] at h9;simp at h9)];rfl
    go_wp2_with fail
    go_ret;refine ⟨?_,HB4.out⟩;unfold aLi;rw[HA.out,if_pos ⟨h1,L_inj (by have h9:=HQ.out;rw[beq_iff_eq,L_toList,L_toList] at h9;exact h9)⟩];rfl
   have d1:decide ((a.size:Int)≤(pt.size:Int))=false:=decide_eq_false bA;have d2:decide (a.size≤pt.size)=false:=decide_eq_false h1;go_wp2_with fail
   go_ret;refine ⟨?_,HB4.out⟩;unfold aLi;rw[HA.out,if_neg (fun h=>h1 h.1)];rfl
  have xx:=trivial;have za:o.size≤3000000:=by omega
  have HA:=cB (show aLk o=o from if_neg (fun h=>h.elim HNE.out (fun h2=>h2 (HLL.out.2 rfl))));go_upto_region 4 with fail
  clear hg hg2 hx d2 d3 d4 d6 h1
  by_cases h1:o.size≤pt.size
  ·have d1:decide ((o.size:Int)≤(pt.size:Int))=true:=decide_eq_true bA;have d2:decide (o.size≤pt.size)=true:=decide_eq_true h1;have d3:(o.size:Int)≤(pt.size:Int):=by omega
   obtain ⟨q,hq⟩:∃ q,((pt.extract 0 o.size).toList==o.toList)=q:=⟨_,rfl⟩
   have HQ:=cB hq;cases q
   ·go_wp2_with fail
    go_ret;refine ⟨?_,HB4.out⟩;unfold aLi;rw[HA.out,if_neg (fun h=>by have h9:=HQ.out;rw[h.2] at h9;simp at h9)];rfl
   go_wp2_with fail
   go_ret;refine ⟨?_,HB4.out⟩;unfold aLi;rw[HA.out,if_pos ⟨h1,L_inj (by have h9:=HQ.out;rw[beq_iff_eq,L_toList,L_toList] at h9;exact h9)⟩];rfl
  have d1:decide ((o.size:Int)≤(pt.size:Int))=false:=decide_eq_false bA;have d2:decide (o.size≤pt.size)=false:=decide_eq_false h1;go_wp2_with fail
  go_ret;refine ⟨?_,HB4.out⟩;unfold aLi;rw[HA.out,if_neg (fun h=>h1 h.1)];rfl
theorem aLn (S:mM w st vl vd vf vc) {comp s owner:ByteArray} (h:shortS st comp (s++owner)=true):∃ r:Bool,(r=true→asc s∧asc owner∧lF st comp s∧lF st comp owner)∧∀ w',Below w.heap.size w w'→Calls Tryz.prog 20 #[.agg #[vl,vd,vf,vc],.string comp,.string s,.string owner] w' fun e w''=>e = .returned (.bool r)∧Below w'.heap.size w' w'':=by
 obtain ⟨h1,h2,h3,h4,h5,h6,h7,h8,h9,h10,h11⟩:=tA h;rw[size_append] at h3;have st1:=xN st.langs st.dis (st.fmts.map mkF) st.cont comp s bA bA bA bA (fun x hx=>Nat.le_trans (h8 x hx) bA) (fun x hx=>Nat.le_trans (h9 x hx) bA) (fun x hx=>⟨Nat.le_trans (h10 x hx).1 bA,Nat.le_trans (h10 x hx).2 bA⟩) (fun x hx=>Nat.le_trans (h11 x hx) bA) bA bA;have st2:=xN st.langs st.dis (st.fmts.map mkF) st.cont comp owner bA bA bA bA (fun x hx=>Nat.le_trans (h8 x hx) bA) (fun x hx=>Nat.le_trans (h9 x hx) bA) (fun x hx=>⟨Nat.le_trans (h10 x hx).1 bA,Nat.le_trans (h10 x hx).2 bA⟩) (fun x hx=>Nat.le_trans (h11 x hx) bA) bA bA
 have hp:PEv (fun r=>r=true→aF8 st.langs st.dis (st.fmts.map mkF) st.cont comp s∧aF8 st.langs st.dis (st.fmts.map mkF) st.cont comp owner) (fun k=>aLh.f k st.langs st.dis (st.fmts.map mkF) st.cont comp s owner):=by
  unfold aLh.f;refine PEv.bind st1 (fun r0 h0=>?_);refine PEv.ite (fun e0=>?_) (fun _=>PEv.now (fun h=>by cases h));exact PEv.bind st2 (fun r1 h1=>PEv.now (fun e1=>⟨h0 e0,h1 e1⟩))
 obtain ⟨r,hr,hp⟩:=hp;obtain ⟨k,hk⟩:=hr.rounds;refine ⟨r,fun e=>⟨zW (hp e).1.ascY,zW (hp e).2.ascY,(hp e).1,(hp e).2⟩,fun w' hb=>?_⟩;have S':=S.below hb;obtain ⟨A0,c0,rfl,g0,r0⟩:=S'.l.kd S.ll;obtain ⟨A1,c1,rfl,g1,r1⟩:=S'.d.kd S.dl;obtain ⟨A2,c2,rfl,g2,r2⟩:=S'.f.kd S.fl;obtain ⟨A3,c3,rfl,g3,r3⟩:=S'.c.kd S.cl;exact aLh.calls k A0 c0 _ A1 c1 _ A2 c2 _ A3 c3 _ comp s owner _ w' r0 g0 r1 g1 r2 g2 r3 g3 hk
theorem aLx (S:nS w st vl vd vf vc) (O:aAv st) {comp s owner:ByteArray} (K1:lF st comp s) (K2:lF st comp owner) (hlt:(aLj (vB (gB (eJ st) comp (norm owner)))).size < (vB (gB (eJ st) comp (norm s))).size):Calls Tryz.prog 19 #[.agg #[vl,vd,vf,vc],.string comp,.string s,.string owner] w fun e w'=>e = .returned (.string ((vB (gB (eJ st) comp (norm s))).extract ((aLj (vB (gB (eJ st) comp (norm owner)))).size+1) (vB (gB (eJ st) comp (norm s))).size))∧Below w.heap.size w w':=by
 obtain ⟨T1,hT1⟩:∃ t,gL (gB (eJ st) comp (norm s))=t:=⟨_,rfl⟩
 obtain ⟨T2,hT2⟩:∃ t,gL (gB (eJ st) comp (norm owner))=t:=⟨_,rfl⟩
 obtain ⟨bs,hbs⟩:∃ x,vB (gB (eJ st) comp (norm s))=x:=⟨_,rfl⟩
 obtain ⟨o,ho⟩:∃ x,aLj (vB (gB (eJ st) comp (norm owner)))=x:=⟨_,rfl⟩
 have e1:T1.base=bs:=by rw[← hT1,← hbs];rfl
 have z1:bs.size≤2000000:=hbs▸(aLm K1).1;have z2:o.size≤2000000:=by rw[← ho];unfold aLj;split;exact Nat.zero_le _;exact (aLm K2).1
 rw[hbs,ho] at hlt ⊢;have HK1:=cB K1;have HK2:=cB K2;have HT1:=cB hT1;have HE1:=cB e1;have HOB:=cB ho;clear K1 K2 hT1 hT2 hbs ho e1;have HSI:=cB S;have HFW:=cB O;obtain ⟨Al,cl,rfl,_,_⟩:=S.l;obtain ⟨Ad,cd,rfl,_,_⟩:=S.d;obtain ⟨Af,cf,rfl,_,_⟩:=S.f;obtain ⟨Ac,cc,rfl,_,_⟩:=S.c;clear S O;have hB1:Below w.heap.size w (w.alloc (.cells #[.slice Al st.langs.length cl,.slice Ad st.dis.length cd,.slice Af st.fmts.length cf,.slice Ac st.cont.length cc] 25)):=(Below.refl _ _).alloc (Nat.le_refl _) _;have hR1:=Row.new w [.slice Al st.langs.length cl,.slice Ad st.dis.length cd,.slice Af st.fmts.length cf,.slice Ac st.cont.length cc] 25;go_enter Tryz.func19,Tryz.ntmps19;go_upto_region 1 with fail
 obtain ⟨w1,hw1⟩:∃ w1,w.alloc (.cells #[.slice Al st.langs.length cl,.slice Ad st.dis.length cd,.slice Af st.fmts.length cf,.slice Ac st.cont.length cc] 25)=w1:=⟨_,rfl⟩
 rw[hw1] at hB1 hR1 ⊢;clear hw1;have r0:=hR1.at 0 _ rfl;have r1:=hR1.at 1 _ rfl;have r2:=hR1.at 2 _ rfl;have r3:=hR1.at 3 _ rfl;have HB1:=cB hB1;have HR1:=cB hR1;clear hB1 hR1;go_upto_region 1 with fail
 refine iJ (n:=11) (S:=fun w'=>w'.cell? ⟨w.heap.size,0,none⟩=some (.slice Al st.langs.length cl)∧w'.cell? ⟨w.heap.size,1,none⟩=some (.slice Ad st.dis.length cd)∧w'.cell? ⟨w.heap.size,2,none⟩=some (.slice Af st.fmts.length cf)∧w'.cell? ⟨w.heap.size,3,none⟩=some (.slice Ac st.cont.length cc)) (ds:=[]) _ bB rfl rfl ⟨r0,r1,r2,r3⟩ (fun hHeld=>?_);refine sA1 1 (some 12) sB1 ?_
 refine sA1 2 (some 13) sB1 ?_
 refine sA1 6 (some 17) sB1 ?_
 refine sA1 7 (some 18) sB1 ?_
 refine sC1 0 (some 11) sP1 ?_
 refine sC1 5 (some 16) sP1 ?_
 refine sF1 3 (some 14) sG1 (fun K hK=>?_);refine lS Tryz.func49 bB rfl #[.agg #[.slice Al st.langs.length cl,.slice Ad st.dis.length cd,.slice Af st.fmts.length cf,.slice Ac st.cont.length cc],.string comp,.string s] bH rfl rfl bJ ?_
 with_reducible refine ((aLq HSI.out HFW.out HK1.out HT1.out _ (eD HB1.out (Below.refl w1.heap.size w1).drew))).mono ?_
 rintro e w3 ⟨v1,v2,v3,rfl,hT,hb3⟩;refine ⟨_,rfl,?_⟩;have HB3:=cB (eD HB1.out (eD (Below.refl w1.heap.size w1).drew hb3));have r0_3:=aLg (w:=w1.drew) r0 hb3;have r1_3:=aLg (w:=w1.drew) r1 hb3;have r2_3:=aLg (w:=w1.drew) r2 hb3;have r3_3:=aLg (w:=w1.drew) r3 hb3;obtain ⟨a1x,d1x,f1x,_⟩:=hT.1;obtain ⟨a2x,d2x,f2x,_⟩:=hT.2.1;obtain ⟨a3x,d3x,f3x,_⟩:=hT.2.2;subst f1x f2x f3x;have hfx:∀ W:World,(Instr.field 35 (iH T1 (.slice a1x T1.langs.length d1x) (.slice a2x T1.ids.length d2x) (.slice a3x T1.unk.length d3x)) 13).run Tryz.prog W = .ok (.string bs) W:=fun W=>(aLo T1 _ _ _ _ _ _ _ _ _ W).trans (by rw[HE1.out]);clear hT;refine hK.out _ _ ⟨r0_3,r1_3,r2_3,r3_3⟩ (fun hHeld=>?_);clear hK K;refine gM sJ1 ?_
 refine sA1 4 (some 15) sB1 ?_
 refine sF1 8 (some 19) sG1 (fun K hK=>?_);refine lS Tryz.func50 bB rfl #[.agg #[.slice Al st.langs.length cl,.slice Ad st.dis.length cd,.slice Af st.fmts.length cf,.slice Ac st.cont.length cc],.string comp,.string owner] bH rfl rfl bJ ?_
 with_reducible refine ((HOB.out▸aLr (HSI.out.below HB3.out) HFW.out HK2.out)).mono ?_
 rintro e w4 ⟨rfl,hb4⟩;refine ⟨_,rfl,?_⟩;have HB4:=cB (eD HB3.out hb4);have r0_4:=aLg (w:=w3) r0_3 hb4;have r1_4:=aLg (w:=w3) r1_3 hb4;have r2_4:=aLg (w:=w3) r2_3 hb4;have r3_4:=aLg (w:=w3) r3_3 hb4;refine hK.out _ _ ⟨r0_4,r1_4,r2_4,r3_4⟩ (fun hHeld=>?_);clear hK K;refine gM sJ1 ?_
 refine sA1 9 (some 9) sB1 ?_
 refine sA1 10 (some 10) sB1 ?_
 refine iV bB ?_;clear hHeld hb3 hb4 r0 r1 r2 r3 r0_3 r1_3 r2_3 r3_3 r0_4 r1_4 r2_4 r3_4 hfx;have d1:decide ((bs.size:Int)≤(o.size:Int))=false:=decide_eq_false bA;have d2:decide (bs.size≤o.size)=false:=decide_eq_false bA;have d3:(o.size:Int)+1≤(bs.size:Int):=by omega
 go_wp2_with fail
 go_ret;exact ⟨rfl,HB4.out⟩
theorem aLu (S:nS w st vl vd vf vc) (O:aAv st) {comp s owner:ByteArray} (K1:lF st comp s) (K2:lF st comp owner) {r:Bool} (ck:∀ w',Below w.heap.size w w'→Calls Tryz.prog 20 #[.agg #[vl,vd,vf,vc],.string comp,.string s,.string owner] w' fun e w''=>e = .returned (.bool true)∧Below w'.heap.size w' w'') (hr:decide ((aLj (vB (gB (eJ st) comp (norm owner)))).size < (vB (gB (eJ st) comp (norm s))).size)=r):Calls Tryz.prog 17 #[.agg #[vl,vd,vf,vc],.string comp,.string s,.string owner] w fun e w'=>e = .returned (.bool r)∧Below w.heap.size w w':=by
 obtain ⟨T1,hT1⟩:∃ t,gL (gB (eJ st) comp (norm s))=t:=⟨_,rfl⟩
 obtain ⟨T2,hT2⟩:∃ t,gL (gB (eJ st) comp (norm owner))=t:=⟨_,rfl⟩
 obtain ⟨bs,hbs⟩:∃ x,vB (gB (eJ st) comp (norm s))=x:=⟨_,rfl⟩
 obtain ⟨o,ho⟩:∃ x,aLj (vB (gB (eJ st) comp (norm owner)))=x:=⟨_,rfl⟩
 have e1:T1.base=bs:=by rw[← hT1,← hbs];rfl
 have z1:bs.size≤2000000:=hbs▸(aLm K1).1;have z2:o.size≤2000000:=by rw[← ho];unfold aLj;split;exact Nat.zero_le _;exact (aLm K2).1
 rw[hbs,ho] at hr;have hr2:decide ((o.size:Int) < (bs.size:Int))=r:=by rw[← hr];by_cases c:o.size < bs.size <;> simp[c] <;> omega
 have HK1:=cB K1;have HK2:=cB K2;have HT1:=cB hT1;have HE1:=cB e1;have HOB:=cB ho;clear K1 K2 hT1 hT2 hbs ho e1;have HSI:=cB S;have HFW:=cB O;have HCK:=cB ck;clear ck;obtain ⟨Al,cl,rfl,_,_⟩:=S.l;obtain ⟨Ad,cd,rfl,_,_⟩:=S.d;obtain ⟨Af,cf,rfl,_,_⟩:=S.f;obtain ⟨Ac,cc,rfl,_,_⟩:=S.c;clear S O;have hB1:Below w.heap.size w (w.alloc (.cells #[.slice Al st.langs.length cl,.slice Ad st.dis.length cd,.slice Af st.fmts.length cf,.slice Ac st.cont.length cc] 25)):=(Below.refl _ _).alloc (Nat.le_refl _) _;have hR1:=Row.new w [.slice Al st.langs.length cl,.slice Ad st.dis.length cd,.slice Af st.fmts.length cf,.slice Ac st.cont.length cc] 25;go_enter Tryz.func17,Tryz.ntmps17;go_upto_region 1 with fail
 obtain ⟨w1,hw1⟩:∃ w1,w.alloc (.cells #[.slice Al st.langs.length cl,.slice Ad st.dis.length cd,.slice Af st.fmts.length cf,.slice Ac st.cont.length cc] 25)=w1:=⟨_,rfl⟩
 rw[hw1] at hB1 hR1 ⊢;clear hw1;have r0:=hR1.at 0 _ rfl;have r1:=hR1.at 1 _ rfl;have r2:=hR1.at 2 _ rfl;have r3:=hR1.at 3 _ rfl;have HB1:=cB hB1;have HR1:=cB hR1;clear hB1 hR1;have cq:=HCK.out w1 HB1.out;go_wp2_with fail
 refine cq.mono ?_;rintro e w2 ⟨rfl,hb2⟩;have HB2:=cB (eD HB1.out hb2);have HR2:=cB (HR1.out.below hb2 (HR1.out.lt bI));clear cq hb2 r0 r1 r2 r3;have r0:=HR2.out.at 0 _ rfl;have r1:=HR2.out.at 1 _ rfl;have r2:=HR2.out.at 2 _ rfl;have r3:=HR2.out.at 3 _ rfl;go_upto_region 3 with fail
 refine iJ (n:=13) (S:=fun w'=>w'.cell? ⟨w.heap.size,0,none⟩=some (.slice Al st.langs.length cl)∧w'.cell? ⟨w.heap.size,1,none⟩=some (.slice Ad st.dis.length cd)∧w'.cell? ⟨w.heap.size,2,none⟩=some (.slice Af st.fmts.length cf)∧w'.cell? ⟨w.heap.size,3,none⟩=some (.slice Ac st.cont.length cc)) (ds:=[]) _ bB rfl rfl ⟨r0,r1,r2,r3⟩ (fun hHeld=>?_);refine sA1 1 (some 16) sB1 ?_
 refine sA1 2 (some 17) sB1 ?_
 refine sA1 7 (some 22) sB1 ?_
 refine sA1 8 (some 23) sB1 ?_
 refine sC1 0 (some 15) sP1 ?_
 refine sC1 6 (some 21) sP1 ?_
 refine sF1 3 (some 18) sG1 (fun K hK=>?_);refine lS Tryz.func49 bB rfl #[.agg #[.slice Al st.langs.length cl,.slice Ad st.dis.length cd,.slice Af st.fmts.length cf,.slice Ac st.cont.length cc],.string comp,.string s] bH rfl rfl bJ ?_
 with_reducible refine ((aLq HSI.out HFW.out HK1.out HT1.out _ (eD HB2.out (Below.refl w2.heap.size w2).drew))).mono ?_
 rintro e w3 ⟨v1,v2,v3,rfl,hT,hb3⟩;refine ⟨_,rfl,?_⟩;have HB3:=cB (eD HB2.out (eD (Below.refl w2.heap.size w2).drew hb3));have r0_3:=aLg (w:=w2.drew) r0 hb3;have r1_3:=aLg (w:=w2.drew) r1 hb3;have r2_3:=aLg (w:=w2.drew) r2 hb3;have r3_3:=aLg (w:=w2.drew) r3 hb3;obtain ⟨a1x,d1x,f1x,_⟩:=hT.1;obtain ⟨a2x,d2x,f2x,_⟩:=hT.2.1;obtain ⟨a3x,d3x,f3x,_⟩:=hT.2.2;subst f1x f2x f3x;have hfx:∀ W:World,(Instr.field 35 (iH T1 (.slice a1x T1.langs.length d1x) (.slice a2x T1.ids.length d2x) (.slice a3x T1.unk.length d3x)) 13).run Tryz.prog W = .ok (.string bs) W:=fun W=>(aLo T1 _ _ _ _ _ _ _ _ _ W).trans (by rw[HE1.out]);clear hT;refine hK.out _ _ ⟨r0_3,r1_3,r2_3,r3_3⟩ (fun hHeld=>?_);clear hK K;refine gM sJ1 ?_
 refine sA1 4 (some 19) sB1 ?_
 refine sA1 5 (some 20) sB1 ?_
 refine sF1 9 (some 24) sG1 (fun K hK=>?_);refine lS Tryz.func50 bB rfl #[.agg #[.slice Al st.langs.length cl,.slice Ad st.dis.length cd,.slice Af st.fmts.length cf,.slice Ac st.cont.length cc],.string comp,.string owner] bH rfl rfl bJ ?_
 with_reducible refine ((HOB.out▸aLr (HSI.out.below HB3.out) HFW.out HK2.out)).mono ?_
 rintro e w4 ⟨rfl,hb4⟩;refine ⟨_,rfl,?_⟩;have HB4:=cB (eD HB3.out hb4);have r0_4:=aLg (w:=w3) r0_3 hb4;have r1_4:=aLg (w:=w3) r1_3 hb4;have r2_4:=aLg (w:=w3) r2_3 hb4;have r3_4:=aLg (w:=w3) r3_3 hb4;refine hK.out _ _ ⟨r0_4,r1_4,r2_4,r3_4⟩ (fun hHeld=>?_);clear hK K;refine gM sJ1 ?_
 refine sA1 10 (some 25) sB1 ?_
 refine sA1 11 (some 26) sB1 ?_
 refine sA1 12 (some 8) sB1 ?_
 refine iV bB ?_;clear hHeld hb3 hb4 r0 r1 r2 r3 r0_3 r1_3 r2_3 r3_3 r0_4 r1_4 r2_4 r3_4 hfx;go_wp2_with fail
 go_ret
 first
 | exact ⟨rfl,HB4.out⟩
 | exact ⟨congrArg (fun b=>Ending.returned (Value.bool b)) (by assumption),HB4.out⟩
theorem aLz {comp s owner:ByteArray} (S:nS w st vl vd vf vc) (O:aAv st) (ck:∀ w',Below w.heap.size w w'→Calls Tryz.prog 20 #[.agg #[vl,vd,vf,vc],.string comp,.string s,.string owner] w' fun e w''=>e = .returned (.bool false)∧Below w'.heap.size w' w''):Calls Tryz.prog 17 #[.agg #[vl,vd,vf,vc],.string comp,.string s,.string owner] w fun e w'=>e = .returned (.bool false)∧Below w.heap.size w w':=by
 have HSI:=cB S;have HFW:=cB O;have HCK:=cB ck;clear ck;obtain ⟨Al,cl,rfl,_,_⟩:=S.l;obtain ⟨Ad,cd,rfl,_,_⟩:=S.d;obtain ⟨Af,cf,rfl,_,_⟩:=S.f;obtain ⟨Ac,cc,rfl,_,_⟩:=S.c;clear S O;have hB1:Below w.heap.size w (w.alloc (.cells #[.slice Al st.langs.length cl,.slice Ad st.dis.length cd,.slice Af st.fmts.length cf,.slice Ac st.cont.length cc] 25)):=(Below.refl _ _).alloc (Nat.le_refl _) _;have hR1:=Row.new w [.slice Al st.langs.length cl,.slice Ad st.dis.length cd,.slice Af st.fmts.length cf,.slice Ac st.cont.length cc] 25;go_enter Tryz.func17,Tryz.ntmps17;go_upto_region 1 with fail
 obtain ⟨w1,hw1⟩:∃ w1,w.alloc (.cells #[.slice Al st.langs.length cl,.slice Ad st.dis.length cd,.slice Af st.fmts.length cf,.slice Ac st.cont.length cc] 25)=w1:=⟨_,rfl⟩
 rw[hw1] at hB1 hR1 ⊢;clear hw1;have r0:=hR1.at 0 _ rfl;have r1:=hR1.at 1 _ rfl;have r2:=hR1.at 2 _ rfl;have r3:=hR1.at 3 _ rfl;have HB1:=cB hB1;have HR1:=cB hR1;clear hB1 hR1;have cq:=HCK.out w1 HB1.out;go_wp2_with fail
 refine cq.mono ?_;rintro e w2 ⟨rfl,hb2⟩;have HB2:=cB (eD HB1.out hb2);clear cq hb2 r0 r1 r2 r3;go_wp2_with fail
 go_ret;exact ⟨rfl,HB2.out⟩
theorem aLs (S:mM w st vl vd vf vc) {comp s owner:ByteArray} (h:shortS st comp (s++owner)=true):∃ r:Bool,(r=true→asc s∧asc owner∧lF st comp s∧lF st comp owner∧(aLj (vB (gB (eJ st) comp (norm owner)))).size < (vB (gB (eJ st) comp (norm s))).size)∧∀ w',Below w.heap.size w w'→Calls Tryz.prog 17 #[.agg #[vl,vd,vf,vc],.string comp,.string s,.string owner] w' fun e w''=>e = .returned (.bool r)∧Below w'.heap.size w' w'':=by
 obtain ⟨r,hr,ck⟩:=aLn S h;have FW:=aHw h
 cases r with
 | false=>exact ⟨false,fun h=>(by cases h),fun w' hb=>aLz ⟨(S.below hb).l,(S.below hb).d,(S.below hb).f,(S.below hb).c⟩ FW (fun W hW=>ck W (hb.trans (hW.mono hb.size)))⟩
 | true =>
  obtain ⟨a1,a2,K1,K2⟩:=hr rfl;exact ⟨_,fun e=>⟨a1,a2,K1,K2,of_decide_eq_true e⟩,fun w' hb=>aLu ⟨(S.below hb).l,(S.below hb).d,(S.below hb).f,(S.below hb).c⟩ FW K1 K2 (fun W hW=>ck W (hb.trans (hW.mono hb.size))) rfl⟩
end
end Go.Proofs.YtcdgldnphhidlaaGreatDoor.Path
