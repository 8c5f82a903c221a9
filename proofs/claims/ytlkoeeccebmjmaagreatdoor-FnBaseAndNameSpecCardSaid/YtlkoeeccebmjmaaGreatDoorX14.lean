/- Texts that the law leans on: Ids, Acc5, Told, ToldWalk, Asc, Total, Total2. Condition: as told at each. -/
import Derived.Deep.MidRow
import Derived.Lib.LazyBuf
import Derived.Test.YtlkoeeccebmjmaaGreatDoorXa
import Derived.Test.YtlkoeeccebmjmaaGreatDoorX13
set_option linter.unusedVariables false
set_option linter.unusedSimpArgs false
set_option maxRecDepth 100000
set_option maxHeartbeats 16000000
namespace Go.Proofs.YtlkoeeccebmjmaaGreatDoor.Path
open Go.RowKit Go.ZW.PrintWords Go.Proofs.YtlkoeeccebmjmaaGreatDoor.Base
section
variable {w:World} {B b:Nat} {p:eE} {vk vu vl u:Value}
theorem info9:(Tryz.prog.info? 9).map (fun i=>(i.zero,i.size,i.bytes))=some (some (.string ⟨#[]⟩),1,16):=by kernel_rfl
def kL (p:eE):List ByteArray:=p.known.map fun x=>sub p.s x.1 x.2
def lQ (p:eE):List ByteArray:=p.unknown.map fun x=>sub p.s x.1 x.2
theorem vY (H:eF w B b p vk vu vl u) (O:hU p):Calls Tryz.prog 92 #[.pointer (some ⟨b,0,none⟩)] w fun e w'=>∃ v,e = .returned v∧fA w' w.heap.size v (kL p)∧Below w.heap.size w w':=by
 have h0:=H.row.at 0 _ rfl;have h6:=H.row.at 6 _ rfl;have o1:=O.sz;have okl:=O.kl;obtain ⟨A,cp,hv⟩:=fL H.ok;rw[hv] at h6;have hb:=H.lt
 obtain ⟨n,hn⟩:∃ n,p.known.length=n:=⟨_,rfl⟩
 have hlen:(kL p).length=n:=by unfold kL;rw[List.length_map];exact hn
 rw[hn] at h6 okl;have hmk:=run_make_row' (P:=Tryz.prog) 22 9 (.string ⟨#[]⟩) 16 Tryz.underlying22 info9 rfl .i64 .i64 n bA bA;have HH:=bW H;have HK:=bW O.kn;have HV:=bW hv;have HL:=bW hlen;have HN:=bW hn;clear H O hv hlen hn;go_enter Tryz.func92,Tryz.ntmps92;go_wp2_with fail
 go_loopg [17] n (fun g i wr=>∃ k:Nat,k≤n∧g=n - k∧i = .int .i64 k∧Aside0 (Row wr w.heap.size (fill (kL p) k))∧Aside0 (Below w.heap.size w wr)∧w.heap.size < wr.heap.size)
 case atStart =>
  refine ⟨0,Nat.zero_le _,rfl,rfl,⟨?_⟩,⟨(Below.refl _ _).alloc (Nat.le_refl _) _⟩,dV⟩;rw[uO,HL.out];exact Row.made w n _ _
 case round =>
  obtain ⟨k,hk,hg,rfl,HR,HB,hsz⟩:=hrel
  by_cases hlt:k < n
  ·have hP:=HH.out.below HB.out;have h0:=hP.row.at 0 _ rfl;have hbr:=hP.lt
   obtain ⟨x,hx⟩:∃ x,p.known[k]? = some x:=⟨_,List.getElem?_eq_getElem (by rw[HN.out];exact hlt)⟩
   obtain ⟨g,c2,hv2,k1,k2⟩:=hP.knownAt k x hx;obtain ⟨q1,q2,q3⟩:=HK.out x (List.mem_of_getElem? hx);rw[HV.out] at hv2;injection hv2 with hA _ hcc
   subst hA hcc;obtain ⟨lo,hlo⟩:=Int.eq_ofNat_of_zero_le (show 0≤x.1 by omega);obtain ⟨hi,hhi⟩:=Int.eq_ofNat_of_zero_le (show 0≤x.2 by omega);rw[hlo] at k1 q1 q2;rw[hhi] at k2 q2 q3;have hgl:g < wr.heap.size:=World.block_lt_of_cell? wr ⟨g,k * 2,none⟩ k1;have hfl:k < (fill (kL p) k).length:=by rw[pZ _ _ (by rw[HL.out];omega),HL.out];exact hlt
   have hfr:=HR.out.free k hfl;have hcell:wr.cell? ⟨w.heap.size,k,none⟩=some ((fill (kL p) k)[k]):=(HR.out k hfl).1
   have hel:(kL p)[k]'(by rw[HL.out];exact hlt)=p.s.extract lo hi:=by
    unfold kL;rw[List.getElem_map]
    have:p.known[k]'(by rw[HN.out];exact hlt)=x:=by
     have:=List.getElem?_eq_getElem (l:=p.known) (i:=k) (by rw[HN.out];exact hlt);rw[hx] at this;exact (Option.some.inj this).symm
    rw[this,hlo,hhi];rfl
   have HE:=bW hel
   obtain ⟨old,hold⟩:∃ old,(fill (kL p) k)[k]=old:=⟨_,rfl⟩
   rw[hold] at hcell;clear hel hold hx hlo hhi hP;go_upto_region 5 with fail
   have hal:Below wr.heap.size wr (wr.alloc (.cells #[.int .i64 lo,.int .i64 hi] 78)):=(Below.refl _ _).alloc (Nat.le_refl _) _
   obtain ⟨W,hW⟩:∃ W,wr.alloc (.cells #[.int .i64 lo,.int .i64 hi] 78)=W:=⟨_,rfl⟩
   rw[hW];rw[hW] at hal;have c0:W.cell? ⟨wr.heap.size,0,none⟩=some (.int .i64 lo):=by subst hW;exact (Row.new wr [.int .i64 lo,.int .i64 hi] _).at 0 _ rfl
   have c1:W.cell? ⟨wr.heap.size,1,none⟩=some (.int .i64 hi):=by subst hW;exact (Row.new wr [.int .i64 lo,.int .i64 hi] _).at 1 _ rfl
   have hsW:wr.heap.size < W.heap.size:=by subst hW;simp
   clear hW;have hB2:Below w.heap.size w W.drew:=((HB.out.trans (hal.mono (Nat.le_of_lt hsz)))).drew;have hR2:Row W.drew w.heap.size (fill (kL p) k):=HR.out.step (by exact hal.block _ hsz);have e0:W.drew.cell? ⟨b,0,none⟩=some (.string p.s):=(hal.cell (p:=⟨b,0,none⟩) hbr).trans h0;have er:W.drew.cell? ⟨w.heap.size,k,none⟩=some old:=(hal.cell (p:=⟨w.heap.size,k,none⟩) hsz).trans hcell;have ef:W.drew.frozen? ⟨w.heap.size,k,none⟩=false:=(hal.frozen (p:=⟨w.heap.size,k,none⟩) hsz).trans hfr;have d0:W.drew.cell? ⟨wr.heap.size,0,none⟩=some (.int .i64 lo):=c0;have d1:W.drew.cell? ⟨wr.heap.size,1,none⟩=some (.int .i64 hi):=c1;have hs2:w.heap.size < W.drew.heap.size:=Nat.lt_trans hsz hsW;refine wp_region_still_tail 12 bB bB ?_
   change wpStill _ _ W.drew (fun a'=>wpList _ _ _ _ a' W.drew) _ _
   obtain ⟨V,hV⟩:∃ V,W.drew=V:=⟨_,rfl⟩
   rw[hV] at hB2 hR2 e0 er ef d0 d1 hs2;rw[hV];clear hV c0 c1 hal hsW k1 k2 h0 hcell hfr hbr;have HB3:=bW hB2;have HR3:=bW hR2;have HF3:=bW hfl;clear hB2 hR2 hfl HH HK HV HN HR HB;simp only[List.take_succ_cons,List.take_zero,List.drop_succ_cons,List.drop_zero]
   repeat still_step
   refine wpStill_nil ?_;go_wp2_with fail
   go_roundg (n - (k+1))
   case rel =>
    refine ⟨k+1,aM,rfl,aZ,⟨?_⟩,⟨?_⟩,?_⟩
    ·have:=HR3.out.set k (.string (p.s.extract lo hi)) HF3.out;rw[← HE.out,xK] at this;rw[HE.out] at this;exact this
    ·exact HB3.out.setCell (Nat.le_refl _) _
    simpa using hs2
   case measure=>omega
  have:k=n:=by omega
  subst this;have hR2:=HR.out;rw[← HL.out,xJ] at hR2;go_wp2_with fail
  go_ret;refine ⟨_,rfl,?_,HB.out⟩;rw[← HL.out];exact fA.of_row hR2 _ (Nat.le_refl _)
theorem rD (H:eF w B b p vk vu vl u) (O:hU p):Calls Tryz.prog 93 #[.pointer (some ⟨b,0,none⟩)] w fun e w'=>∃ v,e = .returned v∧fA w' w.heap.size v (lQ p)∧Below w.heap.size w w':=by
 have h0:=H.row.at 0 _ rfl;have h6:=H.row.at 7 _ rfl;have o1:=O.sz;have okl:=O.ul;obtain ⟨A,cp,hv⟩:=fL H.ou;rw[hv] at h6;have hb:=H.lt
 obtain ⟨n,hn⟩:∃ n,p.unknown.length=n:=⟨_,rfl⟩
 have hlen:(lQ p).length=n:=by unfold lQ;rw[List.length_map];exact hn
 rw[hn] at h6 okl;have hmk:=run_make_row' (P:=Tryz.prog) 22 9 (.string ⟨#[]⟩) 16 Tryz.underlying22 info9 rfl .i64 .i64 n bA bA;have HH:=bW H;have HK:=bW O.un;have HV:=bW hv;have HL:=bW hlen;have HN:=bW hn;clear H O hv hlen hn;go_enter Tryz.func93,Tryz.ntmps93;go_wp2_with fail
 go_loopg [17] n (fun g i wr=>∃ k:Nat,k≤n∧g=n - k∧i = .int .i64 k∧Aside0 (Row wr w.heap.size (fill (lQ p) k))∧Aside0 (Below w.heap.size w wr)∧w.heap.size < wr.heap.size)
 case atStart =>
  refine ⟨0,Nat.zero_le _,rfl,rfl,⟨?_⟩,⟨(Below.refl _ _).alloc (Nat.le_refl _) _⟩,dV⟩;rw[uO,HL.out];exact Row.made w n _ _
 case round =>
  obtain ⟨k,hk,hg,rfl,HR,HB,hsz⟩:=hrel
  by_cases hlt:k < n
  ·have hP:=HH.out.below HB.out;have h0:=hP.row.at 0 _ rfl;have hbr:=hP.lt
   obtain ⟨x,hx⟩:∃ x,p.unknown[k]? = some x:=⟨_,List.getElem?_eq_getElem (by rw[HN.out];exact hlt)⟩
   obtain ⟨g,c2,hv2,k1,k2⟩:=hP.unknownAt k x hx;obtain ⟨q1,q2,q3⟩:=HK.out x (List.mem_of_getElem? hx);rw[HV.out] at hv2;injection hv2 with hA _ hcc
   subst hA hcc;obtain ⟨lo,hlo⟩:=Int.eq_ofNat_of_zero_le (show 0≤x.1 by omega);obtain ⟨hi,hhi⟩:=Int.eq_ofNat_of_zero_le (show 0≤x.2 by omega);rw[hlo] at k1 q1 q2;rw[hhi] at k2 q2 q3;have hgl:g < wr.heap.size:=World.block_lt_of_cell? wr ⟨g,k * 2,none⟩ k1;have hfl:k < (fill (lQ p) k).length:=by rw[pZ _ _ (by rw[HL.out];omega),HL.out];exact hlt
   have hfr:=HR.out.free k hfl;have hcell:wr.cell? ⟨w.heap.size,k,none⟩=some ((fill (lQ p) k)[k]):=(HR.out k hfl).1
   have hel:(lQ p)[k]'(by rw[HL.out];exact hlt)=p.s.extract lo hi:=by
    unfold lQ;rw[List.getElem_map]
    have:p.unknown[k]'(by rw[HN.out];exact hlt)=x:=by
     have:=List.getElem?_eq_getElem (l:=p.unknown) (i:=k) (by rw[HN.out];exact hlt);rw[hx] at this;exact (Option.some.inj this).symm
    rw[this,hlo,hhi];rfl
   have HE:=bW hel
   obtain ⟨old,hold⟩:∃ old,(fill (lQ p) k)[k]=old:=⟨_,rfl⟩
   rw[hold] at hcell;clear hel hold hx hlo hhi hP;go_upto_region 5 with fail
   have hal:Below wr.heap.size wr (wr.alloc (.cells #[.int .i64 lo,.int .i64 hi] 78)):=(Below.refl _ _).alloc (Nat.le_refl _) _
   obtain ⟨W,hW⟩:∃ W,wr.alloc (.cells #[.int .i64 lo,.int .i64 hi] 78)=W:=⟨_,rfl⟩
   rw[hW];rw[hW] at hal;have c0:W.cell? ⟨wr.heap.size,0,none⟩=some (.int .i64 lo):=by subst hW;exact (Row.new wr [.int .i64 lo,.int .i64 hi] _).at 0 _ rfl
   have c1:W.cell? ⟨wr.heap.size,1,none⟩=some (.int .i64 hi):=by subst hW;exact (Row.new wr [.int .i64 lo,.int .i64 hi] _).at 1 _ rfl
   have hsW:wr.heap.size < W.heap.size:=by subst hW;simp
   clear hW;have hB2:Below w.heap.size w W.drew:=((HB.out.trans (hal.mono (Nat.le_of_lt hsz)))).drew;have hR2:Row W.drew w.heap.size (fill (lQ p) k):=HR.out.step (by exact hal.block _ hsz);have e0:W.drew.cell? ⟨b,0,none⟩=some (.string p.s):=(hal.cell (p:=⟨b,0,none⟩) hbr).trans h0;have er:W.drew.cell? ⟨w.heap.size,k,none⟩=some old:=(hal.cell (p:=⟨w.heap.size,k,none⟩) hsz).trans hcell;have ef:W.drew.frozen? ⟨w.heap.size,k,none⟩=false:=(hal.frozen (p:=⟨w.heap.size,k,none⟩) hsz).trans hfr;have d0:W.drew.cell? ⟨wr.heap.size,0,none⟩=some (.int .i64 lo):=c0;have d1:W.drew.cell? ⟨wr.heap.size,1,none⟩=some (.int .i64 hi):=c1;have hs2:w.heap.size < W.drew.heap.size:=Nat.lt_trans hsz hsW;refine wp_region_still_tail 12 bB bB ?_
   change wpStill _ _ W.drew (fun a'=>wpList _ _ _ _ a' W.drew) _ _
   obtain ⟨V,hV⟩:∃ V,W.drew=V:=⟨_,rfl⟩
   rw[hV] at hB2 hR2 e0 er ef d0 d1 hs2;rw[hV];clear hV c0 c1 hal hsW k1 k2 h0 hcell hfr hbr;have HB3:=bW hB2;have HR3:=bW hR2;have HF3:=bW hfl;clear hB2 hR2 hfl HH HK HV HN HR HB;simp only[List.take_succ_cons,List.take_zero,List.drop_succ_cons,List.drop_zero]
   repeat still_step
   refine wpStill_nil ?_;go_wp2_with fail
   go_roundg (n - (k+1))
   case rel =>
    refine ⟨k+1,aM,rfl,aZ,⟨?_⟩,⟨?_⟩,?_⟩
    ·have:=HR3.out.set k (.string (p.s.extract lo hi)) HF3.out;rw[← HE.out,xK] at this;rw[HE.out] at this;exact this
    ·exact HB3.out.setCell (Nat.le_refl _) _
    simpa using hs2
   case measure=>omega
  have:k=n:=by omega
  subst this;have hR2:=HR.out;rw[← HL.out,xJ] at hR2;go_wp2_with fail
  go_ret;refine ⟨_,rfl,?_,HB.out⟩;rw[← HL.out];exact fA.of_row hR2 _ (Nat.le_refl _)
end
section
variable {w:World} {B b:Nat} {p:eE} {vk vu vl u:Value}
def kP (p:eE):List ByteArray:=p.plangs.map fun i=>fE p i
theorem yE (H:eF w B b p vk vu vl u) (O:hU p):Calls Tryz.prog 136 #[.pointer (some ⟨b,0,none⟩),vl] w fun e w'=>∃ v,e = .returned v∧fA w' w.heap.size v (kP p)∧Below w.heap.size w w':=by
 have okl:=O.ll;obtain ⟨A,cp,hv⟩:=fL H.ol;rw[hv]
 obtain ⟨n,hn⟩:∃ n,p.plangs.length=n:=⟨_,rfl⟩
 have hlen:(kP p).length=n:=by unfold kP;rw[List.length_map];exact hn
 rw[hn] at okl ⊢;have HH:=bW H;have HO:=bW O;have HV:=bW hv;have HL:=bW hlen;have HN:=bW hn
 by_cases hz:n=0
 ·subst hz;have hnil:kP p=[]:=List.eq_nil_of_length_eq_zero hlen;rw[hnil];clear H O hv hlen hn hnil;go_enter Tryz.func136,Tryz.ntmps136;go_wp2_with fail
  go_ret;exact ⟨_,rfl,fA.nil _ _ _ _,Below.refl _ _⟩
 have hz1:((n:Int)==0)=false:=beq_eq_false_iff_ne.2 bA;have hz2:(n==0)=false:=beq_eq_false_iff_ne.2 hz;have hmk:=run_make_row' (P:=Tryz.prog) 22 9 (.string ⟨#[]⟩) 16 Tryz.underlying22 info9 rfl .i64 .i64 n bA bA;clear H O hv hlen hn;go_enter Tryz.func136,Tryz.ntmps136;go_wp2_with fail
 go_loopg [16] n (fun g i wr=>∃ k:Nat,k≤n∧g=n - k∧i = .int .i64 k∧Aside0 (Row wr w.heap.size (fill (kP p) k))∧Aside0 (Below w.heap.size w wr)∧w.heap.size < wr.heap.size)
 case atStart =>
  refine ⟨0,Nat.zero_le _,rfl,rfl,⟨?_⟩,⟨(Below.refl _ _).alloc (Nat.le_refl _) _⟩,dV⟩;rw[uO,HL.out];exact Row.made w n _ _
 case round =>
  obtain ⟨k,hk,hg,rfl,HR,HB,hsz⟩:=hrel
  by_cases hlt:k < n
  ·have hP:=HH.out.below HB.out
   obtain ⟨x,hx⟩:∃ x,p.plangs[k]? = some x:=⟨_,List.getElem?_eq_getElem (by rw[HN.out];exact hlt)⟩
   obtain ⟨g,c2,hv2,k1⟩:=hP.langAt k x hx;rw[HV.out] at hv2;injection hv2 with hA _ hcc
   subst hA hcc;have hfl:k < (fill (kP p) k).length:=by rw[pZ _ _ (by rw[HL.out];omega),HL.out];exact hlt
   have hfr:=HR.out.free k hfl;have hcell:wr.cell? ⟨w.heap.size,k,none⟩=some ((fill (kP p) k)[k]):=(HR.out k hfl).1
   have hel:(kP p)[k]'(by rw[HL.out];exact hlt)=fE p x:=by
    unfold kP;rw[List.getElem_map]
    have:p.plangs[k]'(by rw[HN.out];exact hlt)=x:=by
     have:=List.getElem?_eq_getElem (l:=p.plangs) (i:=k) (by rw[HN.out];exact hlt);rw[hx] at this;exact (Option.some.inj this).symm
    rw[this]
   have HE:=bW hel;have c:=gP hP HO.out.toPathIn x
   obtain ⟨old,hold⟩:∃ old,(fill (kP p) k)[k]=old:=⟨_,rfl⟩
   rw[hold] at hcell;have HF:=bW hfl;clear hel hold hx hP hfl;go_wp2_with fail
   (with_reducible refine c.mono ?_)
   rintro e w' ⟨rfl,hb⟩;have er:w'.cell? ⟨w.heap.size,k,none⟩=some old:=(hb.cell (p:=⟨w.heap.size,k,none⟩) hsz).trans hcell;have ef:w'.frozen? ⟨w.heap.size,k,none⟩=false:=(hb.frozen (p:=⟨w.heap.size,k,none⟩) hsz).trans hfr;have hR2:=bW (HR.out.step (hb.block _ hsz));have hB2:=bW (HB.out.trans (hb.mono (Nat.le_of_lt hsz)));have hs2:=Nat.lt_of_lt_of_le hsz hb.size;clear hb hfr hcell HR HB hsz;go_wp2_with fail
   go_roundg (n - (k+1))
   case rel =>
    refine ⟨k+1,aM,rfl,aZ,⟨?_⟩,⟨?_⟩,?_⟩
    ·have:=hR2.out.set k (.string (fE p x)) HF.out;rw[← HE.out,xK] at this;rw[HE.out] at this;exact this
    ·exact hB2.out.setCell (Nat.le_refl _) _
    simpa using hs2
   case measure=>omega
  have:k=n:=by omega
  subst this;have hR2:=HR.out;rw[← HL.out,xJ] at hR2;go_wp2_with fail
  go_ret;refine ⟨_,rfl,?_,HB.out⟩;rw[← HL.out];exact fA.of_row hR2 _ (Nat.le_refl _)
theorem aDd (H:eF w B b p vk vu vl u) (O:hU p):Calls Tryz.prog 91 #[.pointer (some ⟨b,0,none⟩)] w fun e w'=>∃ v,e = .returned v∧fA w' w.heap.size v (kP p)∧Below w.heap.size w w':=by
 have h14:=H.row.at 14 _ rfl;have c:=yE H O;obtain ⟨A,cp,hv⟩:=fL H.ol;rw[hv] at h14 c;clear H O hv;go_enter Tryz.func91,Tryz.ntmps91;go_wp2_with fail
 (with_reducible refine c.mono ?_)
 rintro e w' ⟨v,rfl,hs,hb⟩;have HS:=bW hs;have HB:=bW hb;clear hs hb;obtain ⟨A2,c2,rfl,_⟩:=HS.out;go_wp2_with fail
 go_ret;exact ⟨_,rfl,HS.out,HB.out⟩
def oJ (p:eE):ByteArray:=match p.known with | []=>frm p.s p.cHigh | x::_=>sub p.s p.cHigh (x.1 - 1)
theorem yB (H:eF w B b p vk vu vl u) (O:hU p):Calls Tryz.prog 77 #[.pointer (some ⟨b,0,none⟩)] w fun e w'=>e = .returned (.string (oJ p))∧eV w w':=by
 have h0:=H.row.at 0 _ rfl;have h2:=H.row.at 2 _ rfl;have c:=lW H 0;have o1:=O.sz;obtain ⟨o2,o3⟩:=O.ch;obtain ⟨y,hy⟩:=Int.eq_ofNat_of_zero_le (show 0≤p.cHigh by omega);rw[hy] at h2 o2 o3;unfold oJ;rw[hy]
 cases hk:p.known with
 | nil =>
  have e1:mK p 0 = -1:=by unfold mK;rw[hk];rfl
  rw[e1] at c;clear hk e1 H O hy;show Calls _ _ _ _ fun e w'=>e = .returned (.string (p.s.extract y p.s.size))∧eV w w';go_enter Tryz.func77,Tryz.ntmps77;go_wp2_with fail
  (with_reducible refine c.mono ?_)
  rintro e w' ⟨rfl,rfl⟩;go_wp2_with fail
  go_quiet (fail)
  go_wp2_with fail
  go_ret;exact ⟨rfl,⟨_,rfl⟩⟩
 | cons x r =>
  have h6:=H.row.at 6 _ rfl;have hx:p.known[0]? = some x:=by rw[hk];rfl
  obtain ⟨q1,q2,q3⟩:=O.kn x (List.mem_of_getElem? hx);have q4:=O.k0 x hx;obtain ⟨g,cp,hv,k1,_⟩:=H.knownAt 0 x hx;rw[hv] at h6;have e1:mK p 0=0:=by unfold mK;rw[hk];simp
  rw[e1] at c;obtain ⟨lo,hlo⟩:=Int.eq_ofNat_of_zero_le (show 0≤x.1 by omega);rw[hlo] at k1 q1 q2 q4;rw[hy] at q4;have k1' : w.cell? ⟨g,0,none⟩=some (.int .i64 lo):=k1;show Calls _ _ _ _ fun e w'=>e = .returned (.string (sub p.s y (x.1 - 1)))∧eV w w';rw[hlo,show ((lo:Int) - 1)=((lo - 1:Nat):Int) from by omega,iW];have hlen:(0:Int) < p.known.length:=by rw[hk];simp only[List.length_cons];omega
  have hyc:IntKind.i64.wrap ((lo:Int) - 1)=((lo - 1:Nat):Int):=by rw[IntWalk.i64_in _ bA];omega
  have q5:((y:Nat):Int)≤((lo - 1:Nat):Int):=by omega
  have q6:((lo - 1:Nat):Int)≤(p.s.size:Int):=by omega
  have q7:((0:Int) == -1)=false:=rfl;clear hk e1 H O hy hx hlo hv k1 q4 q3;go_enter Tryz.func77,Tryz.ntmps77;go_wp2_with fail
  (with_reducible refine c.mono ?_)
  rintro e w' ⟨rfl,rfl⟩;go_wp2_with fail
  go_quiet (fail)
  go_wp2_with fail
  go_ret;exact ⟨rfl,⟨_,rfl⟩⟩
def qX (p:eE):ByteArray:=match p.known with | []=>nrm p.trim p.s | x::_=>nrm p.trim (sub p.s 0 (x.1 - 1))
theorem xD (H:eF w B b p vk vu vl u) (O:hU p) (hf:-1≤p.fmt) (hl:-1≤p.lang):Calls Tryz.prog 83 #[.pointer (some ⟨b,0,none⟩)] w fun e w'=>e = .returned (.string (qX p))∧Below w.heap.size w w':=by
 have h0:=H.row.at 0 _ rfl;have h6:=H.row.at 6 _ rfl;have h8:=H.row.at 8 _ rfl;have h9:=H.row.at 9 _ rfl;have o1:=O.sz;have HH:=bW H;unfold qX
 cases hk:p.known with
 | nil =>
  obtain ⟨A,c0,hv⟩:=fL H.ok;rw[hv,hk] at h6;have h6' : w.cell? ⟨b,6,none⟩=some (.slice A 0 c0):=h6;clear hk h6 hv H O;go_enter Tryz.func83,Tryz.ntmps83;go_wp2_with fail
  (with_reducible refine (iN HH.out _).mono ?_)
  rintro e w' ⟨rfl,rfl⟩;go_wp2_with fail
  go_ret;exact ⟨rfl,Below.refl _ _⟩
 | cons x r =>
  have c:=lW H 0;have hx:p.known[0]? = some x:=by rw[hk];rfl
  obtain ⟨q1,q2,q3⟩:=O.kn x (List.mem_of_getElem? hx);obtain ⟨g,cp,hv,k1,k2⟩:=H.knownAt 0 x hx;rw[hv] at h6;have hb:=H.lt;have e1:mK p 0=0:=by unfold mK;rw[hk];simp
  rw[e1] at c;obtain ⟨lo,hlo⟩:=Int.eq_ofNat_of_zero_le (show 0≤x.1 by omega);obtain ⟨hi,hhi⟩:=Int.eq_ofNat_of_zero_le (show 0≤x.2 by omega);rw[hlo] at k1 q1 q2;rw[hhi] at k2 q2 q3;have k1' : w.cell? ⟨g,0,none⟩=some (.int .i64 lo):=k1;have k2' : w.cell? ⟨g,0+1,none⟩=some (.int .i64 hi):=k2;have k2'' : w.cell? ⟨g,1,none⟩=some (.int .i64 hi):=k2;have hg:g < w.heap.size:=World.block_lt_of_cell? w ⟨g,0,none⟩ k1';show Calls _ _ _ _ fun e w'=>e = .returned (.string (nrm p.trim (sub p.s 0 (x.1 - 1))))∧Below w.heap.size w w';rw[hlo,show ((lo:Int) - 1)=((lo - 1:Nat):Int) from by omega,show (0:Int)=((0:Nat):Int) from rfl,iW]
  obtain ⟨n,hn⟩:∃ n,p.known.length=n:=⟨_,rfl⟩
  have hlen:0 < n:=by rw[← hn,hk];simp
  rw[hn] at h6;have hlen2:((n:Int)==0)=false:=beq_eq_false_iff_ne.2 bA;have hlen3:(n==0)=false:=beq_eq_false_iff_ne.2 bA;have hlen4:(0:Int) < n:=by omega
  have hyc:IntKind.i64.wrap ((lo:Int) - 1)=((lo - 1:Nat):Int):=by rw[IntWalk.i64_in _ bA];omega
  have q6:((lo - 1:Nat):Int)≤(p.s.size:Int):=by omega
  have q7:((0:Int) == -1)=false:=rfl
  obtain ⟨fm,hfm⟩:∃ fm,p.fmt=fm:=⟨_,rfl⟩
  obtain ⟨la,hla⟩:∃ la,p.lang=la:=⟨_,rfl⟩
  rw[hfm] at h9 hf;rw[hla] at h8 hl
  have g1:(fm != -1 && decide (fm < 0))=false:=by
   by_cases t:fm = -1
   ·subst t;rfl
   rw[decide_eq_false bA,Bool.and_false]
  have g2:(la != -1 && decide (la < 0))=false:=by
   by_cases t:la = -1
   ·subst t;rfl
   rw[decide_eq_false bA,Bool.and_false]
  clear hk e1 H O hx hlo hhi hv k1 k2 hn hfm hla;go_enter Tryz.func83,Tryz.ntmps83;go_wp2_with fail
  (with_reducible refine c.mono ?_)
  rintro e w' ⟨rfl,rfl⟩;go_wp2_with fail
  all_goals
   go_quiet ((go_at_call 69;exact Calls.quiet_of_same (iN ((HH.out.alloc _).drewN _) _)))
   go_wp2_with fail
   go_ret;exact ⟨rfl,eA ((Below.refl _ _).alloc (Nat.le_refl _) _) (eV.below ⟨⟨_,rfl⟩⟩)⟩
end
open Go.RowKit Go.Proofs.YtlkoeeccebmjmaaGreatDoor.Base
structure gN where
 component:ByteArray
 container:ByteArray
 containerDir:ByteArray
 section_:ByteArray
 name:ByteArray
 nameNoExt:ByteArray
 baseName:ByteArray
 nameNoId:ByteArray
 dir:ByteArray
 path:ByteArray
 pathNoLang:ByteArray
 pathNoId:ByteArray
 pathBefore:ByteArray
 base:ByteArray
 idBase:ByteArray
 ext:ByteArray
 fmt:ByteArray
 kind:ByteArray
 layout:ByteArray
 lang:ByteArray
 custom:ByteArray
 langs:List ByteArray
 ids:List ByteArray
 unk:List ByteArray
 disabled:Bool
 isContent:Bool
 isBundle:Bool
 isBranch:Bool
 isLeaf:Bool
 isData:Bool
 typ:Int
def mM (t:gN) (v1 v2 v3:Value):List Value :=
 [.string t.component,.string t.container,.string t.containerDir,.string t.section_,.string t.name,.string t.nameNoExt,.string t.baseName,.string t.nameNoId,.string t.dir,.string t.path,.string t.pathNoLang,.string t.pathNoId,.string t.pathBefore,.string t.base,.string t.idBase,.string t.ext,.string t.fmt,.string t.kind,.string t.layout,.string t.lang,.string t.custom,v1,v2,v3,.bool t.disabled,.bool t.isContent,.bool t.isBundle,.bool t.isBranch,.bool t.isLeaf,.bool t.isData,.int .i64 t.typ]
def lX (t:gN) (v1 v2 v3:Value):Value:=.agg #[.string t.component,.string t.container,.string t.containerDir,.string t.section_,.string t.name,.string t.nameNoExt,.string t.baseName,.string t.nameNoId,.string t.dir,.string t.path,.string t.pathNoLang,.string t.pathNoId,.string t.pathBefore,.string t.base,.string t.idBase,.string t.ext,.string t.fmt,.string t.kind,.string t.layout,.string t.lang,.string t.custom,v1,v2,v3,.bool t.disabled,.bool t.isContent,.bool t.isBundle,.bool t.isBranch,.bool t.isLeaf,.bool t.isData,.int .i64 t.typ]
def fX:List Value:=[.string ⟨#[]⟩,.string ⟨#[]⟩,.string ⟨#[]⟩,.string ⟨#[]⟩,.string ⟨#[]⟩,.string ⟨#[]⟩,.string ⟨#[]⟩,.string ⟨#[]⟩,.string ⟨#[]⟩,.string ⟨#[]⟩,.string ⟨#[]⟩,.string ⟨#[]⟩,.string ⟨#[]⟩,.string ⟨#[]⟩,.string ⟨#[]⟩,.string ⟨#[]⟩,.string ⟨#[]⟩,.string ⟨#[]⟩,.string ⟨#[]⟩,.string ⟨#[]⟩,.string ⟨#[]⟩,.slice none 0 0,.slice none 0 0,.slice none 0 0,.bool false,.bool false,.bool false,.bool false,.bool false,.bool false,.int .i64 0]
section
variable {w:World} {B b:Nat} {p:eE} {vk vu vl u:Value}
def nK (p:eE):ByteArray:=if 3≤p.typ∧p.typ≤5 then mY p else nL p
def aCn (p:eE):ByteArray:=if p.pfmt = -1 then fE p p.fmt else fE p p.pfmt
def yS (p:eE):ByteArray:=if p.pkind = -1 then fE p p.kind else fE p p.pkind
def sQ (p:eE):ByteArray:=if p.play = -1 then fE p p.lay else fE p p.play
def tJ (p:eE):Bool:=decide (1≤p.typ∧p.typ≤5)
def uX (p:eE):Bool:=decide (3≤p.typ∧p.typ≤5)
def uW (p:eE):Bool:=p.typ==4
def aAa (p:eE):Bool:=p.typ==3
def zZ (p:eE):Bool:=p.typ==5
theorem nW (H:eF w B b p vk vu vl u) (O:hU p):Calls Tryz.prog 72 #[.pointer (some ⟨b,0,none⟩)] w fun e w'=>e = .returned (.string (nK p))∧Below w.heap.size w w':=qJ H O
theorem wA (H:eF w B b p vk vu vl u) (O:hU p):Calls Tryz.prog 86 #[.pointer (some ⟨b,0,none⟩)] w fun e w'=>e = .returned (.string (aCn p))∧Below w.heap.size w w':=uG H O
theorem aF0 (H:eF w B b p vk vu vl u) (O:hU p):Calls Tryz.prog 87 #[.pointer (some ⟨b,0,none⟩)] w fun e w'=>e = .returned (.string (yS p))∧Below w.heap.size w w':=aEr H O
theorem aDe (H:eF w B b p vk vu vl u) (O:hU p):Calls Tryz.prog 88 #[.pointer (some ⟨b,0,none⟩)] w fun e w'=>e = .returned (.string (sQ p))∧Below w.heap.size w w':=aBq H O
theorem zK (H:eF w B b p vk vu vl u):Calls Tryz.prog 95 #[.pointer (some ⟨b,0,none⟩)] w fun e w'=>e = .returned (.bool (tJ p))∧w'=w:=yA H
theorem aA3 (H:eF w B b p vk vu vl u):Calls Tryz.prog 96 #[.pointer (some ⟨b,0,none⟩)] w fun e w'=>e = .returned (.bool (uX p))∧w'=w:=oD H
theorem uC (H:eF w B b p vk vu vl u):Calls Tryz.prog 97 #[.pointer (some ⟨b,0,none⟩)] w fun e w'=>e = .returned (.bool (uW p))∧w'=w:=sW H
theorem vZ (H:eF w B b p vk vu vl u):Calls Tryz.prog 98 #[.pointer (some ⟨b,0,none⟩)] w fun e w'=>e = .returned (.bool (aAa p))∧w'=w:=mW H
theorem uF (H:eF w B b p vk vu vl u):Calls Tryz.prog 99 #[.pointer (some ⟨b,0,none⟩)] w fun e w'=>e = .returned (.bool (zZ p))∧w'=w:=uD H
def kA (p:eE):gN where
 component:=p.comp
 container:=mY p
 containerDir:=mR p
 section_:=iT p
 name:=vV p
 nameNoExt:=oJ p
 baseName:=nK p
 nameNoId:=nL p
 dir:=xO p
 path:=nrm p.trim p.s
 pathNoLang:=qZ p
 pathNoId:=iS p false false
 pathBefore:=qX p
 base:=iV p
 idBase:=qY p
 ext:=fE p 0
 fmt:=aCn p
 kind:=yS p
 layout:=sQ p
 lang:=vU p
 custom:=pR p
 langs:=kP p
 ids:=kL p
 unk:=lQ p
 disabled:=p.dis
 isContent:=tJ p
 isBundle:=uX p
 isBranch:=uW p
 isLeaf:=aAa p
 isData:=zZ p
 typ:=p.typ
theorem oB {P:Program} {fn:Func} {tmps:Array Value} {a:Nat} {t:TypeId} {v:Value} {w:World} {x:Addr} (hf:fn.results = #[.cell a t]) (ha:tmps.getD a undef = .pointer (some x)) (hl:(loadVar t x).run P w = .ok v w) :
 (results fn tmps).run P w = .ok v w:=by
 unfold results;rw[hf];have ha' : tmps[a]?.getD undef = .pointer (some x):=by simpa using ha
 simp[ha',hl,asAddr]
theorem Row.there {w:World} {b:Nat} {cs:List Value} (H:Row w b cs):w.there b 0 cs.length:=fun j hj=>by
 rw[Nat.zero_add];exact ⟨by rw[(H j hj).1];rfl,(H j hj).2⟩
theorem xC {P:Program} {o:Oper} {a:Act} {w:World} {K:Act→World→Prop} {Q:Exit→Act→World→Prop} (t:TypeId) (parts:Array (Nat×Operand)) (cells:Array Value) (ho:o.op = .build t parts)
 (hc:P.built t (parts.map fun (i,x)=>(i,a.eval x)).toList=some cells) (h:K (a.put o.dst (.agg cells)) w):o.wp P a w K Q :=
 wp_build t parts ho (by rw[hc];rfl) (by rw[hc];exact h)
theorem aFx (H:eF w B b p vk vu vl u) (O:hU p) (hf:-1≤p.fmt) (hl:-1≤p.lang):Calls Tryz.prog 47 #[.pointer (some ⟨b,0,none⟩)] w fun e w'=>∃ v1 v2 v3,e = .returned (lX (kA p) v1 v2 v3)∧fA w' w.heap.size v1 (kP p)∧fA w' w.heap.size v2 (kL p)∧fA w' w.heap.size v3 (lQ p)∧Below w.heap.size w w':=by
 have HH:=bW H;have HO:=bW O;clear H O;have hB1:Below w.heap.size w (w.alloc (.cells (#[.string ⟨#[]⟩,.string ⟨#[]⟩,.string ⟨#[]⟩,.string ⟨#[]⟩,.string ⟨#[]⟩,.string ⟨#[]⟩,.string ⟨#[]⟩,.string ⟨#[]⟩,.string ⟨#[]⟩,.string ⟨#[]⟩,.string ⟨#[]⟩,.string ⟨#[]⟩,.string ⟨#[]⟩,.string ⟨#[]⟩,.string ⟨#[]⟩,.string ⟨#[]⟩,.string ⟨#[]⟩,.string ⟨#[]⟩,.string ⟨#[]⟩,.string ⟨#[]⟩,.string ⟨#[]⟩,.slice none 0 0,.slice none 0 0,.slice none 0 0,.bool false,.bool false,.bool false,.bool false,.bool false,.bool false,.int .i64 0]) 28)):=(Below.refl _ _).alloc (Nat.le_refl _) _
 have hR1:Row (w.alloc (.cells (#[.string ⟨#[]⟩,.string ⟨#[]⟩,.string ⟨#[]⟩,.string ⟨#[]⟩,.string ⟨#[]⟩,.string ⟨#[]⟩,.string ⟨#[]⟩,.string ⟨#[]⟩,.string ⟨#[]⟩,.string ⟨#[]⟩,.string ⟨#[]⟩,.string ⟨#[]⟩,.string ⟨#[]⟩,.string ⟨#[]⟩,.string ⟨#[]⟩,.string ⟨#[]⟩,.string ⟨#[]⟩,.string ⟨#[]⟩,.string ⟨#[]⟩,.string ⟨#[]⟩,.string ⟨#[]⟩,.slice none 0 0,.slice none 0 0,.slice none 0 0,.bool false,.bool false,.bool false,.bool false,.bool false,.bool false,.int .i64 0]) 28)) w.heap.size fX:=Row.new w fX _;go_enter Tryz.func47,Tryz.ntmps47;go_wp2_with fail
 obtain ⟨w1,hw1⟩:∃ w1,w.alloc (.cells (#[.string ⟨#[]⟩,.string ⟨#[]⟩,.string ⟨#[]⟩,.string ⟨#[]⟩,.string ⟨#[]⟩,.string ⟨#[]⟩,.string ⟨#[]⟩,.string ⟨#[]⟩,.string ⟨#[]⟩,.string ⟨#[]⟩,.string ⟨#[]⟩,.string ⟨#[]⟩,.string ⟨#[]⟩,.string ⟨#[]⟩,.string ⟨#[]⟩,.string ⟨#[]⟩,.string ⟨#[]⟩,.string ⟨#[]⟩,.string ⟨#[]⟩,.string ⟨#[]⟩,.string ⟨#[]⟩,.slice none 0 0,.slice none 0 0,.slice none 0 0,.bool false,.bool false,.bool false,.bool false,.bool false,.bool false,.int .i64 0]) 28)=w1:=⟨_,rfl⟩
 rw[hw1] at hB1 hR1 ⊢;clear hw1;have HH:=bW (HH.out.below hB1);have HB1:=bW hB1;have HR:=bW hR1;have HB:=bW (Below.refl w1.heap.size w1);clear hB1 hR1
 (refine (rR (HH.out.below HB.out)).mono ?_)
 rintro e w' ⟨rfl,rfl⟩;go_wp2_with fail
 (refine (rS (HH.out.below HB.out) HO.out).mono ?_)
 rintro e w' ⟨rfl,hd⟩;replace HB:=bW (eA HB.out (eV.below hd));clear hd;go_wp2_with fail
 (refine (uE (HH.out.below HB.out) HO.out).mono ?_)
 rintro e w' ⟨rfl,hd⟩;replace HB:=bW (eA HB.out (eV.below hd));clear hd;go_wp2_with fail
 (refine (tT (HH.out.below HB.out) HO.out).mono ?_)
 rintro e w' ⟨rfl,hd⟩;replace HB:=bW (eA HB.out (eV.below hd));clear hd;go_wp2_with fail
 (refine (aEu (HH.out.below HB.out) HO.out).mono ?_)
 rintro e w' ⟨rfl,hd⟩;replace HB:=bW (eA HB.out (eV.below hd));clear hd;go_wp2_with fail
 (refine (yB (HH.out.below HB.out) HO.out).mono ?_)
 rintro e w' ⟨rfl,hd⟩;replace HB:=bW (eA HB.out (eV.below hd));clear hd;go_wp2_with fail
 (refine (nW (HH.out.below HB.out) HO.out).mono ?_)
 rintro e w' ⟨rfl,hd⟩;replace HB:=bW (eA HB.out hd);clear hd;go_wp2_with fail
 (refine (oP (HH.out.below HB.out) HO.out).mono ?_)
 rintro e w' ⟨rfl,hd⟩;replace HB:=bW (eA HB.out hd);clear hd;go_wp2_with fail
 (refine (aAh (HH.out.below HB.out) HO.out).mono ?_)
 rintro e w' ⟨rfl,hd⟩;replace HB:=bW (eA HB.out (eV.below hd));clear hd;go_wp2_with fail
 (refine (qP (HH.out.below HB.out)).mono ?_)
 rintro e w' ⟨rfl,rfl⟩;go_wp2_with fail
 (refine (xE (HH.out.below HB.out) HO.out).mono ?_)
 rintro e w' ⟨rfl,hd⟩;replace HB:=bW (eA HB.out hd);clear hd;go_wp2_with fail
 (refine (sD (HH.out.below HB.out) HO.out).mono ?_)
 rintro e w' ⟨rfl,hd⟩;replace HB:=bW (eA HB.out hd);clear hd;go_wp2_with fail
 (refine (xD (HH.out.below HB.out) HO.out hf hl).mono ?_)
 rintro e w' ⟨rfl,hd⟩;replace HB:=bW (eA HB.out hd);clear hd;go_wp2_with fail
 (refine (qO (HH.out.below HB.out) HO.out).mono ?_)
 rintro e w' ⟨rfl,hd⟩;replace HB:=bW (eA HB.out hd);clear hd;go_wp2_with fail
 (refine (sV (HH.out.below HB.out) HO.out).mono ?_)
 rintro e w' ⟨rfl,hd⟩;replace HB:=bW (eA HB.out hd);clear hd;go_wp2_with fail
 (refine (aFz (HH.out.below HB.out) HO.out).mono ?_)
 rintro e w' ⟨rfl,hd⟩;replace HB:=bW (eA HB.out hd);clear hd;go_wp2_with fail
 (refine (wA (HH.out.below HB.out) HO.out).mono ?_)
 rintro e w' ⟨rfl,hd⟩;replace HB:=bW (eA HB.out hd);clear hd;go_wp2_with fail
 (refine (aF0 (HH.out.below HB.out) HO.out).mono ?_)
 rintro e w' ⟨rfl,hd⟩;replace HB:=bW (eA HB.out hd);clear hd;go_wp2_with fail
 (refine (aDe (HH.out.below HB.out) HO.out).mono ?_)
 rintro e w' ⟨rfl,hd⟩;replace HB:=bW (eA HB.out hd);clear hd;go_wp2_with fail
 (refine (aEt (HH.out.below HB.out) HO.out).mono ?_)
 rintro e w' ⟨rfl,hd⟩;replace HB:=bW (eA HB.out hd);clear hd;go_wp2_with fail
 (refine (aBp (HH.out.below HB.out) HO.out).mono ?_)
 rintro e w' ⟨rfl,hd⟩;replace HB:=bW (eA HB.out hd);clear hd;go_wp2_with fail
 (refine (aDd (HH.out.below HB.out) HO.out).mono ?_)
 rintro e w' ⟨v21,rfl,hs,hd⟩;have S21:=bW (hs.mono (show w.heap.size+1≤_ from Nat.lt_of_lt_of_le (HR.out.lt bF) HB.out.size));replace HB:=bW (eA HB.out hd);obtain ⟨A21,c21,hv21,_⟩:=S21.out;rw[hv21];replace hv21:=bW hv21;clear hd hs;go_wp2_with fail
 (refine (vY (HH.out.below HB.out) HO.out).mono ?_)
 rintro e w' ⟨v22,rfl,hs,hd⟩;have S22:=bW (hs.mono (show w.heap.size+1≤_ from Nat.lt_of_lt_of_le (HR.out.lt bF) HB.out.size));replace S21:=bW (S21.out.below hd);replace HB:=bW (eA HB.out hd);obtain ⟨A22,c22,hv22,_⟩:=S22.out;rw[hv22];replace hv22:=bW hv22;clear hd hs;go_wp2_with fail
 (refine (rD (HH.out.below HB.out) HO.out).mono ?_)
 rintro e w' ⟨v23,rfl,hs,hd⟩;have S23:=bW (hs.mono (show w.heap.size+1≤_ from Nat.lt_of_lt_of_le (HR.out.lt bF) HB.out.size));replace S21:=bW (S21.out.below hd);replace S22:=bW (S22.out.below hd);replace HB:=bW (eA HB.out hd);obtain ⟨A23,c23,hv23,_⟩:=S23.out;rw[hv23];replace hv23:=bW hv23;clear hd hs;go_wp2_with fail
 (refine (zI (HH.out.below HB.out)).mono ?_)
 rintro e w' ⟨rfl,rfl⟩;go_wp2_with fail
 (refine (zK (HH.out.below HB.out)).mono ?_)
 rintro e w' ⟨rfl,rfl⟩;go_wp2_with fail
 (refine (aA3 (HH.out.below HB.out)).mono ?_)
 rintro e w' ⟨rfl,rfl⟩;go_wp2_with fail
 (refine (uC (HH.out.below HB.out)).mono ?_)
 rintro e w' ⟨rfl,rfl⟩;go_wp2_with fail
 (refine (vZ (HH.out.below HB.out)).mono ?_)
 rintro e w' ⟨rfl,rfl⟩;go_wp2_with fail
 (refine (uF (HH.out.below HB.out)).mono ?_)
 rintro e w' ⟨rfl,rfl⟩;go_wp2_with fail
 (refine (sY (HH.out.below HB.out)).mono ?_)
 rintro e w' ⟨rfl,rfl⟩;go_wp2_with fail
 have hRf:=HR.out.below HB.out (HR.out.lt bF);have ht:World.there _ w.heap.size 0 31:=hRf.there
 obtain ⟨C,hC⟩:∃ C:Array Value,#[.string (p.comp),.string (mY p),.string (mR p),.string (iT p),.string (vV p),.string (oJ p),.string (nK p),.string (nL p),.string (xO p),.string (nrm p.trim p.s),.string (qZ p),.string (iS p false false),.string (qX p),.string (iV p),.string (qY p),.string (fE p 0),.string (aCn p),.string (yS p),.string (sQ p),.string (vU p),.string (pR p),.slice A21 (kP p).length c21,.slice A22 (kL p).length c22,.slice A23 (lQ p).length c23,.bool (p.dis),.bool (tJ p),.bool (uX p),.bool (uW p),.bool (aAa p),.bool (zZ p),.int .i64 p.typ]=C:=⟨_,rfl⟩
 refine xC 28 _ C rfl (hC▸by kernel_rfl) ?_;have hs:C.size=31:=by rw[← hC];rfl
 have hl:C.toList.length=31:=by simpa using hs
 have hone:C.all (·.oneCell')=true:=by rw[← hC];kernel_rfl
 have hB4:=HB.out;refine (show ∀ (a:Act) (w:World),wpList _ _ _ _ a w→_ from by assumption) _ _ ?_;refine wpList_store_mid rfl 28 _ _ rfl w.heap.size 0 C rfl rfl (by rw[hs];exact ht) (by rw[hs];kernel_rfl) hone ?_;have hr:=World.rangeAt_setCells_same _ w.heap.size 0 C.toList (by rw[hl];exact ht);have hld:=run_loadVar_mid (P:=Tryz.prog) _ w.heap.size 0 28 C.toList _ hr Tryz.underlying28 rfl (by rw[hl];kernel_rfl);have hbw:Below w'.heap.size w' w':=Below.refl _ _;have hz:w.heap.size < w'.heap.size:=Nat.lt_of_lt_of_le (HR.out.lt bF) HB.out.size;have hfar:∀ k,k≠w.heap.size→(w'.setCells w.heap.size 0 C.toList).heap[k]? = w'.heap[k]?:=fun k hk=>nJ _ _ k hk;have hbel:Below w.heap.size w (w'.setCells w.heap.size 0 C.toList):=below_setCells (Nat.le_refl _) _ _ _ (HB1.out.trans (HB.out.mono HB1.out.size))
 obtain ⟨W,hW⟩:∃ W,w'.setCells w.heap.size 0 C.toList=W:=⟨_,rfl⟩
 rw[hW] at hld hbel hfar ⊢;have s1:=bW (S21.out.far fun k hk _=>hfar k bA);have s2:=bW (S22.out.far fun k hk _=>hfar k bA);have s3:=bW (S23.out.far fun k hk _=>hfar k bA);have HBel:=bW hbel;have HC:=bW hC;clear hC hbel hfar hW hz hbw hr hB4 hone hl hs ht hRf S21 S22 S23;go_wp2_with fail
 refine bodyPost_ret (v:=.agg C) (oB Tryz.results47 rfl (by simpa using hld)) rfl ⟨v21,v22,v23,?_,s1.out.mono (Nat.le_succ _),s2.out.mono (Nat.le_succ _),s3.out.mono (Nat.le_succ _),HBel.out⟩;rw[← HC.out,hv21.out,hv22.out,hv23.out];rfl
end
def qU (t:gN) (v1 v2 v3:Value):Array Value:=(mM t v1 v2 v3).toArray
theorem pD (t:gN) (A1 A2 A3:Option Addr) (n1 n2 n3 c1 c2 c3:Nat):(qU t (.slice A1 n1 c1) (.slice A2 n2 c2) (.slice A3 n3 c3)).all (·.oneCell')=true:=by kernel_rfl
def TZ:Array Value:=#[.string ⟨#[]⟩,.string ⟨#[]⟩,.string ⟨#[]⟩,.string ⟨#[]⟩,.string ⟨#[]⟩,.string ⟨#[]⟩,.string ⟨#[]⟩,.string ⟨#[]⟩,.string ⟨#[]⟩,.string ⟨#[]⟩,.string ⟨#[]⟩,.string ⟨#[]⟩,.string ⟨#[]⟩,.string ⟨#[]⟩,.string ⟨#[]⟩,.string ⟨#[]⟩,.string ⟨#[]⟩,.string ⟨#[]⟩,.string ⟨#[]⟩,.string ⟨#[]⟩,.string ⟨#[]⟩,.slice none 0 0,.slice none 0 0,.slice none 0 0,.bool false,.bool false,.bool false,.bool false,.bool false,.bool false,.int .i64 0]
end Go.Proofs.YtlkoeeccebmjmaaGreatDoor.Path
namespace Go.Proofs.YtlkoeeccebmjmaaGreatDoor.Ext
open Go.RowKit Go.ZW.PrintWords Go.Proofs.YtlkoeeccebmjmaaGreatDoor.Base Go.Proofs.YtlkoeeccebmjmaaGreatDoor.PCore
def ascii (l:List UInt8):Bool:=l.all fun c=>decide (c.toNat≤127)
theorem yF (c:UInt8) (r:List UInt8):ascii (c::r)=(decide (c.toNat≤127) && ascii r):=rfl
theorem aDl (s:ByteArray) (hs:s.size≤140737488355328) (d:Nat):∀ i:Nat,s.size - i=d→i≤s.size→Ev (fun k=>fO.l0 k s i) (ascii ((L s).drop i)):=by
 have hl:=eD s
 induction d with
 | zero =>
  intro i h1 h2;have e:(L s).drop i=[]:=List.drop_of_length_le bA;rw[e];refine Ev.step (f:=fun _=>some true) (fun k=>?_) (Ev.now _);simp only[fO.l0];rw[if_neg bA]
 | succ d ih =>
  intro i h1 h2;have hi:i < (L s).length:=by omega
  have hb:=sN s i hi;have e:(L s).drop i=(L s)[i]::(L s).drop (i+1):=List.drop_eq_getElem_cons hi;rw[e]
  by_cases h:(L s)[i].toNat≤127
  ·have e2:ascii ((L s)[i]::(L s).drop (i+1))=ascii ((L s).drop (i+1)):=by rw[yF,decide_eq_true h,Bool.true_and]
   rw[e2];refine Ev.step (f:=fun k=>fO.l0 k s ((i+1:Nat):Int)) (fun k=>?_) (ih (i+1) bA bA);simp only[fO.l0];rw[if_pos bA,if_pos bA,hb,if_neg bA,w64 bA bA];rfl
  have e2:ascii ((L s)[i]::(L s).drop (i+1))=false:=by rw[yF,decide_eq_false h,Bool.false_and]
  rw[e2];refine Ev.step (f:=fun _=>some false) (fun k=>?_) (Ev.now _);simp only[fO.l0];rw[if_pos bA,if_pos bA,hb,if_pos bA]
theorem xG (s:ByteArray) (hs:s.size≤140737488355328):Ev (fun k=>fO.f k s) (ascii (L s)):=by
 have h:=aDl s hs s.size 0 bA bA;exact h
end Go.Proofs.YtlkoeeccebmjmaaGreatDoor.Ext
namespace Go.Proofs.YtlkoeeccebmjmaaGreatDoor.Total
open Go.RowKit Go.ZW.PrintWords Go.Proofs.YtlkoeeccebmjmaaGreatDoor.Base Go.Proofs.YtlkoeeccebmjmaaGreatDoor.PCore Go.Proofs.YtlkoeeccebmjmaaGreatDoor.Ext
def oM {α:Type} (g:Nat→Option α):Prop:=∃ r,Ev g r
theorem oM.now {α:Type} (r:α):oM (fun _=>some r):=⟨r,Ev.now r⟩
theorem oM.succ {α:Type} {g:Nat→Option α} (h:oM (fun k=>g (k+1))):oM g:=by
 obtain ⟨r,h⟩:=h;exact ⟨r,Ev.step (fun _=>rfl) h⟩
theorem oM.ite {α:Type} {c:Prop} [Decidable c] {a b:Nat→Option α} (h1:c→oM a) (h2:¬ c→oM b):oM (fun k=>if c then a k else b k):=by
 by_cases h:c
 ·simpa only [if_pos h] using h1 h
 simpa only [if_neg h] using h2 h
theorem oM.bind {α β:Type} {g:Nat→Option α} {f:Nat→α→Option β} (h:oM g) (k:∀ a,Ev g a→oM (fun n=>f n a)):oM (fun n=>(g n).bind (f n)):=by
 obtain ⟨a,ha⟩:=h;obtain ⟨r,hr⟩:=k a ha;exact ⟨r,Ev.bind ha hr⟩
theorem oM.bindC {α β:Type} {x:Option α} {f:Nat→α→Option β} {a:α} (h:x=some a) (k:oM (fun n=>f n a)):oM (fun n=>x.bind (f n)):=by
 subst h;exact k
theorem Ev.fun_ {α:Type} {g:Nat→Option α} {a b:α} (h:Ev g a) (h' : Ev g b):a=b:=by
 obtain ⟨K,h⟩:=h;obtain ⟨K',h'⟩:=h';have e1:=h (K+K') bA;have e2:=h' (K+K') bA;rw[e1] at e2;exact Option.some.inj e2
theorem oA {α:Type} (d:α) (l:List α) (i:Nat) (h:i < l.length):iB d l (i:Int)=l[i]:=by
 unfold iB
 simp[h]
theorem nZ (l:List S53) (i:Nat) (h:i < l.length):gQ l (i:Int)=l[i]:=by
 unfold gQ
 simp[h]
def MM:Nat:=2147483647
def fits2 (l:List ByteArray):Bool:=decide (l.length≤MM) && l.all fun s=>decide (s.size≤MM)
def fits3 (l:List S53):Bool:=decide (l.length≤MM) && l.all fun s=>decide (s.f0.size≤MM) && decide (s.f1.size≤MM)
theorem aDm (l:List ByteArray) (hl:l.length≤MM):∀ (n j:Nat),l.length - j=n→j≤l.length→Ev (fun k=>eZ.l0 k l (l.length:Int) (j:Int)) ((l.drop j).all fun s=>decide (s.size≤MM)):=by
 unfold MM at *;intro n
 induction n with
 | zero =>
  intro j h1 h2;rw[List.drop_of_length_le bA];refine Ev.step (f:=fun _=>some true) (fun k=>?_) (Ev.now _);simp only[eZ.l0];rw[if_neg bA]
 | succ n ih =>
  intro j h1 h2;have hj:j < l.length:=by omega
  rw[List.drop_eq_getElem_cons hj,List.all_cons]
  by_cases c:l[j].size≤2147483647
  ·rw[decide_eq_true c,Bool.true_and];refine Ev.step (fun k=>?_) (ih (j+1) bA bA);simp only[eZ.l0];rw[if_pos bA,if_pos bA,if_pos bA,oA _ _ _ hj,if_neg bA,w64 bA bA];rfl
  rw[decide_eq_false c,Bool.false_and];refine Ev.step (f:=fun _=>some false) (fun k=>?_) (Ev.now _);simp only[eZ.l0];rw[if_pos bA,if_pos bA,if_pos bA,oA _ _ _ hj,if_pos bA]
theorem xH (l:List ByteArray):Ev (fun k=>eZ.f k l) (fits2 l):=by
 unfold eZ.f fits2
 by_cases c:l.length≤MM
 ·have:=aDm l c l.length 0 bA bA;rw[decide_eq_true c,Bool.true_and];refine Ev.congr (fun k=>?_) this;unfold MM at c;rw[if_neg bA];rfl
 rw[decide_eq_false c,Bool.false_and];refine Ev.congr (fun k=>?_) (Ev.now _);unfold MM at c;rw[if_pos bA]
theorem aDn (l:List S53) (hl:l.length≤MM):∀ (n j:Nat),l.length - j=n→j≤l.length→Ev (fun k=>fR.l0 k l (l.length:Int) (j:Int)) ((l.drop j).all fun s=>decide (s.f0.size≤MM) && decide (s.f1.size≤MM)):=by
 unfold MM at *;intro n
 induction n with
 | zero =>
  intro j h1 h2;rw[List.drop_of_length_le bA];refine Ev.step (f:=fun _=>some true) (fun k=>?_) (Ev.now _);simp only[fR.l0];rw[if_neg bA]
 | succ n ih =>
  intro j h1 h2;have hj:j < l.length:=by omega
  rw[List.drop_eq_getElem_cons hj,List.all_cons]
  have e4:lO.f l[j].f0 l[j].f1=some (decide (l[j].f0.size≤2147483647) && decide (l[j].f1.size≤2147483647)):=by
   unfold lO.f
   by_cases c1:l[j].f0.size≤2147483647
   ·by_cases c2:l[j].f1.size≤2147483647
    ·rw[if_neg bA,if_neg bA,decide_eq_true c1,decide_eq_true c2];rfl
    rw[if_neg bA,if_pos bA,decide_eq_true c1,decide_eq_false c2];rfl
   rw[if_pos bA,decide_eq_false c1];rfl
  cases c:(decide (l[j].f0.size≤2147483647) && decide (l[j].f1.size≤2147483647)) with
  | true =>
   rw[Bool.true_and];refine Ev.step (fun k=>?_) (ih (j+1) bA bA);simp only[fR.l0];rw[if_pos bA,if_pos bA,if_pos bA,nZ _ _ hj,e4,c,w64 bA bA];rfl
  | false =>
   rw[Bool.false_and];refine Ev.step (f:=fun _=>some false) (fun k=>?_) (Ev.now _);simp only[fR.l0];rw[if_pos bA,if_pos bA,if_pos bA,nZ _ _ hj,e4,c];rfl
theorem aHg (l:List S53):Ev (fun k=>fR.f k l) (fits3 l):=by
 unfold fR.f fits3
 by_cases c:l.length≤MM
 ·have:=aDn l c l.length 0 bA bA;rw[decide_eq_true c,Bool.true_and];refine Ev.congr (fun k=>?_) this;unfold MM at c;rw[if_neg bA];rfl
 rw[decide_eq_false c,Bool.false_and];refine Ev.congr (fun k=>?_) (Ev.now _);unfold MM at c;rw[if_pos bA]
def fits1 (a b:List ByteArray) (c:List S53) (d:List ByteArray):Bool:=fits2 a && (fits2 b && (fits3 c && fits2 d))
theorem ev_fits1 (a b:List ByteArray) (c:List S53) (d:List ByteArray):Ev (fun k=>kK.f k a b c d) (fits1 a b c d):=by
 unfold kK.f fits1;refine Ev.bind (xH a) ?_;cases fits2 a
 ·exact Ev.now _
 simp only[if_true,Bool.true_and];refine Ev.bind (xH b) ?_;cases fits2 b
 ·exact Ev.now _
 simp only[if_true,Bool.true_and];refine Ev.bind (aHg c) ?_;cases fits3 c
 ·exact Ev.now _
 simp only[if_true,Bool.true_and];refine Ev.bind (xH d) ?_;cases fits2 d
 ·exact Ev.now _
 exact Ev.now _
def wt (l:List ByteArray):Nat:=(l.map ByteArray.size).sum
def wt3 (l:List S53):Nat:=(l.map fun s=>1+s.f0.size+s.f1.size).sum
theorem aGg (l:List ByteArray) (hl:fits2 l=true):∀ (n j a:Nat),l.length - j=n→j≤l.length→a≤MM+j * MM→Ev (fun k=>gF.l0 k (a:Int) l (l.length:Int) (j:Int)) (decide (a+wt (l.drop j)≤2000)):=by
 unfold fits2 at hl;simp only[Bool.and_eq_true,decide_eq_true_eq,List.all_eq_true] at hl;obtain ⟨hl1,hl2⟩:=hl;unfold MM at *;intro n
 induction n with
 | zero =>
  intro j a h1 h2 h3;rw[List.drop_of_length_le bA];refine Ev.step (f:=fun _=>some (decide ((a:Int)≤2000))) (fun k=>?_) ?_
  ·simp only[gF.l0];rw[if_neg bA]
  have:decide ((a:Int)≤2000)=decide (a+wt []≤2000):=by unfold wt;simp;omega
  rw[this];exact Ev.now _
 | succ n ih =>
  intro j a h1 h2 h3;have hj:j < l.length:=by omega
  have hz:=hl2 l[j] (List.getElem_mem hj);rw[List.drop_eq_getElem_cons hj];have e:a+wt (l[j]::l.drop (j+1))=(a+l[j].size)+wt (l.drop (j+1)):=by simp only[wt,List.map_cons,List.sum_cons];omega
  rw[e];have hm:(j+1) * 2147483647=j * 2147483647+2147483647:=by omega
  have hjj:j * 2147483647≤2147483647 * 2147483647:=by omega
  refine Ev.step (fun k=>?_) (ih (j+1) (a+l[j].size) bA bA bA);simp only[gF.l0];rw[if_pos bA,if_pos bA,if_pos bA,oA _ _ _ hj,w64 (n:=(j:Int)+1) bA bA,w64 bA bA];rfl
def fewB (l:List ByteArray):Bool:=decide (l.length+wt l≤2000)
theorem sO (l:List ByteArray) (hl:fits2 l=true):Ev (fun k=>gF.f k l) (fewB l):=by
 have h9:=hl;unfold fits2 at h9;simp only[Bool.and_eq_true,decide_eq_true_eq] at h9;exact aGg l hl l.length 0 l.length bA bA bA
def yZ (a b:List ByteArray) (c:List S53) (d:List ByteArray) (x y:ByteArray):Bool:=decide (x.size+y.size+wt3 c≤2000) && (fewB a && (fewB b && fewB d))
theorem aDo (a b:List ByteArray) (c:List S53) (d:List ByteArray) (h:fits1 a b c d=true):∀ (n j x:Nat),c.length - j=n→j≤c.length→x+wt3 (c.drop j)≤9223372036854775807 →
 Ev (fun k=>gG.l0 k (x:Int) c (c.length:Int) (j:Int) a b c d) (decide (x+wt3 (c.drop j)≤2000) && (fewB a && (fewB b && fewB d))):=by
 unfold fits1 at h;simp only[Bool.and_eq_true] at h;obtain ⟨ha,hb,hc,hd⟩:=h;have hc9:=hc;unfold fits3 at hc9;simp only[Bool.and_eq_true,decide_eq_true_eq,List.all_eq_true] at hc9;obtain ⟨hl1,hl2⟩:=hc9;intro n
 induction n with
 | zero =>
  intro j x h1 h2 h3;rw[List.drop_of_length_le bA];have e:decide (x+wt3 []≤2000)=decide ((x:Int)≤2000):=by unfold wt3;simp;omega
  rw[e];refine Ev.step (f:=fun k=>if (x:Int)≤2000 then ((gF.f k a).bind fun t105=>(if t105=true then ((gF.f k b).bind fun t106=>(if t106=true then ((gF.f k d).bind fun t107=>(some t107)) else (some false))) else (some false))) else (some false)) (fun k=>?_) ?_
  ·simp only[gG.l0];rw[if_neg bA]
  by_cases cx:(x:Int)≤2000
  ·simp only[if_pos cx,decide_eq_true cx,Bool.true_and];refine Ev.bind (sO a ha) ?_;cases fewB a
   ·exact Ev.now _
   simp only[if_true,Bool.true_and];refine Ev.bind (sO b hb) ?_;cases fewB b
   ·exact Ev.now _
   simp only[if_true,Bool.true_and];exact Ev.bind (sO d hd) (Ev.now _)
  simp only[if_neg cx,decide_eq_false cx,Bool.false_and];exact Ev.now _
 | succ n ih =>
  intro j x h1 h2 h3;have hj:j < c.length:=by omega
  have hz:=hl2 c[j] (List.getElem_mem hj);unfold MM at *;rw[List.drop_eq_getElem_cons hj] at h3 ⊢;have e:x+wt3 (c[j]::c.drop (j+1))=(x+(1+c[j].f0.size+c[j].f1.size))+wt3 (c.drop (j+1)):=by simp only[wt3,List.map_cons,List.sum_cons];omega
  rw[e] at h3 ⊢;refine Ev.step (fun k=>?_) (ih (j+1) (x+(1+c[j].f0.size+c[j].f1.size)) bA bA bA);simp only[gG.l0];rw[if_pos bA,if_pos bA,if_pos bA,nZ _ _ hj,w64 (n:=(j:Int)+1) bA bA,w64 (n:=1+(c[j].f0.size:Int)) bA bA,w64 (n:=1+(c[j].f0.size:Int)+(c[j].f1.size:Int)) bA bA,w64 bA bA];have e1:(x:Int)+(1+(c[j].f0.size:Int)+(c[j].f1.size:Int))=((x+(1+c[j].f0.size+c[j].f1.size):Nat):Int):=by omega
  rw[e1];rfl
theorem aCa (a b:List ByteArray) (c:List S53) (d:List ByteArray) (x y:ByteArray) (h:fits1 a b c d=true) (hxy:x.size+y.size+wt3 c≤9223372036854775807):Ev (fun k=>gG.f k a b c d x y) (yZ a b c d x y):=by
 have e:=aDo a b c d h c.length 0 (x.size+y.size) bA bA (by rw[List.drop_zero];exact hxy);refine Ev.congr (fun k=>?_) e;unfold gG.f;rw[w64 bA bA];rfl
def PEv {α:Type} (P:α→Prop) (g:Nat→Option α):Prop:=∃ r,Ev g r∧P r
section
variable {α β:Type} {P:α→Prop} {Q:β→Prop}
theorem PEv.now {r:α} (h:P r):PEv P (fun _=>some r):=⟨r,Ev.now r,h⟩
theorem PEv.succ {g:Nat→Option α} (h:PEv P (fun k=>g (k+1))):PEv P g:=by
 obtain ⟨r,h,hp⟩:=h;exact ⟨r,Ev.step (fun _=>rfl) h,hp⟩
theorem PEv.ite {c:Prop} [Decidable c] {a b:Nat→Option α} (h1:c→PEv P a) (h2:¬ c→PEv P b):PEv P (fun k=>if c then a k else b k):=by
 by_cases h:c
 ·simpa only [if_pos h] using h1 h
 simpa only [if_neg h] using h2 h
theorem PEv.bind {g:Nat→Option α} {f:Nat→α→Option β} (h:PEv P g) (k:∀ a,P a→PEv Q (fun n=>f n a)):PEv Q (fun n=>(g n).bind (f n)):=by
 obtain ⟨a,ha,hp⟩:=h;obtain ⟨r,hr,hq⟩:=k a hp;exact ⟨r,Ev.bind ha hr,hq⟩
theorem PEv.bindC {x:Option α} {f:Nat→α→Option β} {a:α} (h:x=some a) (k:PEv Q (fun n=>f n a)):PEv Q (fun n=>x.bind (f n)):=by
 subst h;exact k
theorem PEv.mono {P' : α→Prop} {g:Nat→Option α} (h:PEv P g) (hp:∀ r,P r→P' r):PEv P' g:=by
 obtain ⟨r,h,h2⟩:=h;exact ⟨r,h,hp r h2⟩
end
def Any {α:Type} (_:α):Prop:=True
theorem any {α:Type} (a:α):Any a:=trivial
theorem aCb (l:List ByteArray) (s:ByteArray) (hl:l.length≤4000000000):PEv Any (fun k=>fD.f k l s):=by
 have h:∀ (n:Nat) (i:Int),0≤i→(l.length:Int) - i≤n→PEv Any (fun k=>fD.l0 k l s i):=by
  intro n
  induction n with
  | zero =>
   intro i h1 h2;refine PEv.succ ?_;simp only[fD.l0];exact PEv.ite (fun h=>by exfalso;omega) (fun _=>PEv.now (any _))
  | succ n ih =>
   intro i h1 h2;refine PEv.succ ?_;simp only[fD.l0];refine PEv.ite (fun h=>?_) (fun _=>PEv.now (any _));refine PEv.ite (fun _=>?_) (fun h=>by exfalso;omega);refine PEv.ite (fun _=>PEv.now (any _)) (fun _=>?_);rw[w64 bA bA];exact ih (i+1) bA bA
 exact h l.length 0 bA bA
def pO (n:Int) (r:List Int):Prop:=(∀ x∈r,0≤x∧x < n)∧r.Pairwise (· < ·)
theorem pO.snoc {n i:Int} {r:List Int} (h:pO i r) (hi:0≤i) (hn:i+1≤n):pO n (r++[i]):=by
 refine ⟨fun x hx=>?_,?_⟩
 ·rcases List.mem_append.1 hx with hx | hx
  ·have:=h.1 x hx;omega
  rw[List.mem_singleton] at hx;omega
 rw[List.pairwise_append];refine ⟨h.2,dV,fun a ha b hb=>?_⟩;rw[List.mem_singleton] at hb;have:=h.1 a ha;omega
theorem pO.up {n m:Int} {r:List Int} (h:pO n r) (hm:n≤m):pO m r:=⟨fun x hx=>by have:=h.1 x hx;omega,h.2⟩
theorem aCc (s:ByteArray) (hs:s.size≤1000000):PEv (fun r=>pO s.size r∧r.length≤s.size) (fun k=>eG.f k s):=by
 have h:∀ (n:Nat) (i:Int) (acc:List Int),0≤i→i≤s.size→(s.size:Int) - i≤n→pO i acc→(acc.length:Int)≤i→PEv (fun r=>pO s.size r∧r.length≤s.size) (fun k=>eG.l0 k s acc i):=by
  intro n
  induction n with
  | zero =>
   intro i acc h1 h3 h2 hc hl;refine PEv.succ ?_;simp only[eG.l0];exact PEv.ite (fun h=>by exfalso;omega) (fun _=>PEv.now ⟨hc.up bA,aM⟩)
  | succ n ih =>
   intro i acc h1 h3 h2 hc hl;refine PEv.succ ?_;simp only[eG.l0];refine PEv.ite (fun hi=>?_) (fun _=>PEv.now ⟨hc.up bA,aM⟩);refine PEv.ite (fun _=>?_) (fun h=>by exfalso;omega);rw[w64 (n:=i+1) bA bA];refine PEv.ite (fun _=>?_) (fun _=>ih (i+1) acc bA bA bA (hc.up bA) bA);refine PEv.ite (fun _=>?_) (fun h=>by exfalso;omega);have hc2:pO (i+1) (acc++[i]):=hc.snoc h1 (Int.le_refl _);have hl2:((acc++[i]).length:Int)≤i+1:=by simp;omega
   obtain ⟨y,hy⟩:∃ y,acc++[i]=y:=⟨_,rfl⟩
   rw[hy] at hc2 hl2 ⊢
   have hl1:∀ (m:Nat) (p:Int),i+1 < p→p≤s.size+1→(s.size:Int) - p≤m→PEv (fun r=>pO s.size r∧r.length≤s.size) (fun k=>eG.l1 k s y i p):=by
    intro m
    induction m with
    | zero =>
     intro p g1 g3 g2;refine PEv.succ ?_;simp only[eG.l1];refine PEv.ite (fun h=>by exfalso;omega) (fun _=>?_);rw[w64 bA bA];exact ih (i+1) y bA bA bA hc2 hl2
    | succ m ihm =>
     intro p g1 g3 g2;refine PEv.succ ?_;simp only[eG.l1];rw[w64 (n:=p+1) bA bA,w64 (n:=i+1) bA bA];refine PEv.ite (fun h=>?_) (fun _=>ih (i+1) y bA bA bA hc2 hl2);refine PEv.ite (fun _=>?_) (fun h=>by exfalso;omega);refine PEv.ite (fun _=>?_) (fun _=>ihm (p+1) bA bA bA);refine PEv.ite (fun _=>ih (p+1) y bA bA bA (hc2.up bA) bA) (fun _=>?_);refine PEv.ite (fun _=>?_) (fun h=>by exfalso;omega);refine PEv.ite (fun _=>?_) (fun h=>by exfalso;omega);exact PEv.ite (fun _=>ih (p+1) y bA bA bA (hc2.up bA) bA) (fun _=>ihm (p+1) bA bA bA)
   have hj:∀ x:Bool,PEv (fun r=>pO s.size r∧r.length≤s.size) (fun k=>eG.j1 k s y i x):=by
    intro x;refine PEv.succ ?_;simp only[eG.j1];rw[w64 (n:=i+1) bA bA,w64 (n:=i+2) bA bA];exact PEv.ite (fun _=>ih (i+1) y bA bA bA hc2 hl2) (fun _=>hl1 s.size (i+2) bA bA bA)
   refine PEv.bindC rfl ?_;refine PEv.ite (fun _=>hj _) (fun _=>?_);refine PEv.ite (fun _=>?_) (fun h=>by exfalso;omega);exact PEv.ite (fun _=>hj _) (fun h=>by exfalso;omega)
 exact h s.size 0 [] bA bA bA ⟨dV,dV⟩ bJ
theorem aJx {n:Int} {r:List Int} (h:pO n r) (i:Int) (h0:0≤i) (h1:i+1 < r.length):rd r i+1≤rd r (i+1):=by
 obtain ⟨m,rfl⟩:=Int.eq_ofNat_of_zero_le h0;have hm:m+1 < r.length:=by omega
 have:=List.pairwise_iff_getElem.1 h.2 m (m+1) bA hm bA;have e1:rd r (m:Int)=r[m]:=by unfold rd;simp[show m < r.length by omega]
 have e2:rd r ((m:Int)+1)=r[m+1]:=by
  have e3:((m:Int)+1)=((m+1:Nat):Int):=by omega
  rw[e3];unfold rd;simp[hm]
 rw[e1,e2];omega
theorem wY (s:ByteArray) (own:Bool) (hs:s.size≤900000):(Path.pathOf s own).size≤1000000:=by
 unfold Path.pathOf;rw[← eD,jQ];have:=Path.mText_length (L (if own then s else Lower.norm s))
 have h2:(L (if own then s else Lower.norm s)).length≤900000:=by
  rw[eD];cases own
  ·show (Lower.norm s).size≤_;rw[Lower.norm_size];exact hs
  exact hs
 omega
end Go.Proofs.YtlkoeeccebmjmaaGreatDoor.Total
