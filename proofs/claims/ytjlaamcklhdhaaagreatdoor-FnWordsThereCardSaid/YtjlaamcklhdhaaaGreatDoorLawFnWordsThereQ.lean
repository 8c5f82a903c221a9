/- Each word that is no identifier stands in the last part. Condition: none but the statement's own. -/
import Derived.Deep.QuietTactic
import Derived.BigQuiet
import Derived.Test.YtjlaamcklhdhaaaGreatDoorQ1
import Derived.Test.YtjlaamcklhdhaaaGreatDoorQ10
import Derived.Test.YtjlaamcklhdhaaaGreatDoorQ11
import Derived.Test.YtjlaamcklhdhaaaGreatDoorQ12
import Derived.Test.YtjlaamcklhdhaaaGreatDoorQ13
import Derived.Test.YtjlaamcklhdhaaaGreatDoorQ14
import Derived.Test.YtjlaamcklhdhaaaGreatDoorQ15
import Derived.Test.YtjlaamcklhdhaaaGreatDoorQ16
import Derived.Test.YtjlaamcklhdhaaaGreatDoorQ17
import Derived.Test.YtjlaamcklhdhaaaGreatDoorQ18
import Derived.Test.YtjlaamcklhdhaaaGreatDoorQ19
import Derived.Test.YtjlaamcklhdhaaaGreatDoorQ2
import Derived.Test.YtjlaamcklhdhaaaGreatDoorQ20
import Derived.Test.YtjlaamcklhdhaaaGreatDoorQ21
import Derived.Test.YtjlaamcklhdhaaaGreatDoorQ22
import Derived.Test.YtjlaamcklhdhaaaGreatDoorQ23
import Derived.Test.YtjlaamcklhdhaaaGreatDoorQ3
import Derived.Test.YtjlaamcklhdhaaaGreatDoorQ4
import Derived.Test.YtjlaamcklhdhaaaGreatDoorQ5
import Derived.Test.YtjlaamcklhdhaaaGreatDoorQ6
import Derived.Test.YtjlaamcklhdhaaaGreatDoorQ7
import Derived.Test.YtjlaamcklhdhaaaGreatDoorQ8
import Derived.Test.YtjlaamcklhdhaaaGreatDoorQ9
import Derived.Test.YtjlaamcklhdhaaaGreatDoorRAS
set_option linter.unusedSimpArgs false
set_option linter.unusedVariables false
namespace Go.Proofs.YtjlaamcklhdhaaaGreatDoor.fnWordsThere
open Go.ChangeShapes Go.WideShapes Go.ChangeAt Go.RowKit Go.WideMaps Go.Proofs.YtjlaamcklhdhaaaGreatDoorW.PrintWords Go.Proofs.YtjlaamcklhdhaaaGreatDoor.Base Go.Proofs.YtjlaamcklhdhaaaGreatDoor.Lower Go.Proofs.YtjlaamcklhdhaaaGreatDoor.Total Go.Proofs.YtjlaamcklhdhaaaGreatDoor.Path Go.Proofs.YtjlaamcklhdhaaaGreatDoor.PCore
open Go.Proofs.YtjlaamcklhdhaaaGreatDoor.Ext in
theorem inside_le {t l:List UInt8} (h:inside t l=true):t.length≤l.length:=by
 by_cases c:l.length < t.length
 ·rw[inside_short t l c] at h;cases h
 ·omega
section
variable {w:World} {st:SiteV} {vl vd vf vc:Value}
set_option maxRecDepth 100000 in
set_option maxHeartbeats 4000000 in
theorem walk (S:SiteArg w st vl vd vf vc) (comp s:ByteArray):Calls Tryz.prog 14 #[.agg #[vl,vd,vf,vc],.string comp,.string s] w fun e w'=>e = .returned (.bool true)∧Below w.heap.size w w':=by
 have HSA:=Aside0.mk S;obtain ⟨Al,cl,rfl,_,_⟩:=S.l;obtain ⟨Ad,cd,rfl,_,_⟩:=S.d;obtain ⟨Af,cf,rfl,_,_⟩:=S.f;obtain ⟨Ac,cc,rfl,_,_⟩:=S.c;clear S;have hB1:Below w.heap.size w (w.alloc (.cells #[.slice Al st.langs.length cl,.slice Ad st.dis.length cd,.slice Af st.fmts.length cf,.slice Ac st.cont.length cc] 25)):=(Below.refl _ _).alloc (Nat.le_refl _) _;have hR1:=Row.new w [.slice Al st.langs.length cl,.slice Ad st.dis.length cd,.slice Af st.fmts.length cf,.slice Ac st.cont.length cc] 25;have hs1:w.heap.size < (w.alloc (.cells #[.slice Al st.langs.length cl,.slice Ad st.dis.length cd,.slice Af st.fmts.length cf,.slice Ac st.cont.length cc] 25)).heap.size:=by simp
 go_enter Tryz.func14,Tryz.ntmps14;go_upto_region 1 with fail
 obtain ⟨w1,hw1⟩:∃ w1,w.alloc (.cells #[.slice Al st.langs.length cl,.slice Ad st.dis.length cd,.slice Af st.fmts.length cf,.slice Ac st.cont.length cc] 25)=w1:=⟨_,rfl⟩
 rw[hw1] at hB1 hR1 hs1 ⊢;clear hw1;have HB1:=Aside0.mk hB1;have HRS:=Aside0.mk hR1;have r0:=hR1.at 0 _ rfl;have r1:=hR1.at 1 _ rfl;have r2:=hR1.at 2 _ rfl;have r3:=hR1.at 3 _ rfl;have cz:=zzFits_calls (HSA.out.below hB1)
 obtain ⟨ft,hft⟩:∃ f,fitsS st=f:=⟨_,rfl⟩
 rw[hft] at cz;have HFT:=Aside0.mk hft
 obtain ⟨q1,hq1⟩:∃ q,decide ((2147483647:Int) < (comp.size:Int))=q:=⟨_,rfl⟩
 obtain ⟨q2,hq2⟩:∃ q,decide ((2147483647:Int) < (s.size:Int))=q:=⟨_,rfl⟩
 have HQ1:=Aside0.mk hq1;have HQ2:=Aside0.mk hq2;have hq1' : decide (2147483647 < comp.size)=q1:=by rw[← hq1];by_cases c:2147483647 < comp.size <;> simp[c] <;> omega
 have hq2' : decide (2147483647 < s.size)=q2:=by rw[← hq2];by_cases c:2147483647 < s.size <;> simp[c] <;> omega
 clear hB1 hR1 hft
 go_cut [23] from 11 to 23 (fun sx wx=>sx = .bool (!ft || (q1 || q2))∧Aside0 (Below w1.heap.size w1 wx))
 case first =>
  go_wp2_with fail
  refine cz.mono ?_;rintro e w2 ⟨rfl,hb2⟩;have HB2:=Aside0.mk hb2;clear hb2 cz;cases ft
  ·go_wp2_with fail
   go_meet
   case rel=>exact ⟨rfl,HB2⟩
  ·cases q1
   ·go_wp2_with fail
    go_meet
    case rel=>exact ⟨rfl,HB2⟩
   ·go_wp2_with fail
    go_meet
    case rel=>exact ⟨rfl,HB2⟩
 case rest =>
  obtain ⟨rfl,HB2⟩:=hcut
  obtain ⟨w2,rfl⟩:∃ x,x=wc:=⟨_,rfl⟩
  clear cz hq1 hq2 hq1' hq2' r0 r1 r2 r3;have HBA:=Aside0.mk (HB1.out.trans (HB2.out.mono HB1.out.size))
  obtain ⟨g,hg⟩:∃ g,(!ft || (q1 || q2))=g:=⟨_,rfl⟩
  rw[hg];have HG:=Aside0.mk hg;clear hg;cases g;rotate_left
  ·go_wp2_with fail
   go_ret;exact ⟨rfl,HBA.out⟩
  ·have hf:ft=true∧q1=false∧q2=false:=by have h9:=HG.out;revert h9;cases ft <;> cases q1 <;> cases q2 <;> simp
   obtain ⟨rfl,rfl,rfl⟩:=hf;have hcs:comp.size≤MM:=by have:=of_decide_eq_false HQ1.out;unfold MM;omega
   have hss:s.size≤MM:=by have:=of_decide_eq_false HQ2.out;unfold MM;omega
   have hRs:=HRS.out.below HB2.out hs1;have r0:=hRs.at 0 _ rfl;have r1:=hRs.at 1 _ rfl;have r2:=hRs.at 2 _ rfl;have r3:=hRs.at 3 _ rfl;obtain ⟨ok,HOK,ck⟩:=known_calls (HSA.out.below HBA.out) HFT.out comp s hcs hss;replace HOK:=Aside0.mk HOK;have HRS2:=Aside0.mk hRs;clear hRs hcs hss;go_wp2_with fail
   refine ck.mono ?_;rintro e w4 ⟨t,l1,l2,l3,v1,v2,v3,rfl,hs,ht,hb4⟩;have HSL:=Aside0.mk hs;have HT:=Aside0.mk ht;have HB4:=Aside0.mk hb4;obtain ⟨A1,c1,e1,_⟩:=HSL.out.1;obtain ⟨A2,c2,e2,_⟩:=HSL.out.2.1;obtain ⟨A3,c3,e3,_⟩:=HSL.out.2.2;clear ck hs ht hb4 r0 r1 r2 r3
   obtain ⟨C,hC⟩:∃ C:Array Value,toldC t v1 v2 v3=C:=⟨_,rfl⟩
   have hval:toldVal t v1 v2 v3 = .agg C:=by rw[← hC];rfl
   have HCS:=Aside0.mk (show C.size=31 by rw[← hC];rfl);have HON:=Aside0.mk (show C.all (·.oneCell')=true by rw[← hC,e1,e2,e3];exact toldC_one _ _ _ _ _ _ _ _ _ _);rw[hval];have HC:=Aside0.mk hC;clear hval e1 e2 e3 hC;have hRZ:=Row.new w4 toldZero 28;have HCE:=Aside0.mk (told_cells hRZ rfl HCS.out);have HBW:=Aside0.mk (told_world w4 C)
   go_upto_region 4 with (first | (refine told_store rfl _ _ rfl w4.heap.size C rfl rfl hRZ rfl HCS.out HON.out ?_) | fail)
   change Code.wp _ _ _ _ ((w4.alloc (.cells toldZero.toArray 28)).setCells w4.heap.size 0 C.toList)
   obtain ⟨W,hW⟩:∃ W,(w4.alloc (.cells toldZero.toArray 28)).setCells w4.heap.size 0 C.toList=W:=⟨_,rfl⟩
   rw[hW] at HCE HBW ⊢
   obtain ⟨bk,hbk⟩:∃ b,w4.heap.size=b:=⟨_,rfl⟩
   have HBK:=Aside0.mk hbk;rw[hbk] at HCE ⊢;clear hW hbk hRZ;have HBX:=Aside0.mk (below_step (below_step HBA.out HB4.out) HBW.out);have HRS3:=Aside0.mk ((HRS2.out.below HB4.out (Nat.lt_of_lt_of_le hs1 HB2.out.size)).below HBW.out (Nat.lt_of_lt_of_le (Nat.lt_of_lt_of_le hs1 HB2.out.size) HB4.out.size));cases ok
   ·go_wp2_with fail
    go_ret;exact ⟨rfl,HBX.out⟩
   ·obtain ⟨ht1,rfl,rfl,rfl⟩:=HT.out (by first | rfl | trivial);obtain ⟨OS,HASC,HASCC,hs400,hc2000,hPK⟩:=HOK.out (by first | rfl | trivial);have HPK:=Aside0.mk hPK;clear hPK
    obtain ⟨p,hp⟩:∃ p,mPath (envOf st) comp (norm s)=p:=⟨_,rfl⟩
    rw[hp] at ht1 HSL;subst ht1;have HP:=Aside0.mk hp;have hpo:=mPath_ok (envOf st) comp (norm s) (by rw[norm_size];omega);rw[hp] at hpo;have HPO:=Aside0.mk hpo;have HPN:=Aside0.mk (mPath_ne (envOf st) comp (norm s));rw[hp] at HPN;have k9:=HCE.out 9 (.string (nrm p.trim p.s)) (by rw[← HC.out];rfl);have hne:=HPN.out;clear hp hpo HT HOK;go_upto_if 37 with fail
    clear k9 hne
    obtain ⟨f_name,e_name⟩:∃ x,mName p=x:=⟨_,rfl⟩
    have k4:=HCE.out 4 (.string f_name) (by rw[← HC.out,← e_name];rfl);obtain ⟨A2,c2,e2,_⟩:=HSL.out.2.1
    obtain ⟨n2,hn2⟩:∃ n,(mIds p).length=n:=⟨_,rfl⟩
    have k22:=HCE.out 22 (.slice A2 n2 c2) (by rw[← HC.out,e2,← hn2];rfl);clear e2;obtain ⟨A3,c3,e3,_,hh3⟩:=HSL.out.2.2.below HBW.out
    obtain ⟨l3,hl3⟩:∃ l,mUnk p=l:=⟨_,rfl⟩
    obtain ⟨n3,hn3⟩:∃ n,l3.length=n:=⟨_,rfl⟩
    have k23:=HCE.out 23 (.slice A3 n3 c3) (by rw[← HC.out,e3,← hn3,← hl3];rfl);rw[hl3] at hh3;have HH3:=Aside0.mk hh3;clear e3 hh3;have F:=kUnk HPK.out HP.out;rw[hl3,e_name] at F;have z1:f_name.size≤1000000:=e_name▸sz_name HPO.out.1.toPathIn;have HU:=Aside0.mk F.1;have hle:n3≤1000000:=by rw[← hn3,← hl3];unfold mUnk;rw[List.length_map];exact HPO.out.1.toPathIn.ul
    have HN3:=Aside0.mk hn3
    have hlen:0 < n3→decide ((0:Int) < (n2:Int))=true:=fun h=>by
     have:=F.2 (fun h2=>by rw[h2] at hn3;rw[← hn3] at h;exact absurd h (by decide));rw[hn2] at this;exact decide_eq_true (by omega)
    have K4:=Aside0.mk k4;have K23:=Aside0.mk k23;have K22:=Aside0.mk k22;clear F e_name hl3 hn3 hn2;go_upto_region 7 with fail
    go_loopg [43] n3 (fun g i wr=>∃ k:Nat,k≤n3∧g=n3 - k∧i = .int .i64 k∧Aside0 (Below w.heap.size w wr)∧Aside0 (Below W.heap.size W wr))
    case atStart=>exact ⟨0,Nat.zero_le _,rfl,rfl,HBX,⟨Below.refl _ _⟩⟩
    case round =>
     obtain ⟨k,hk,hg,rfl,HBR,HVR⟩:=hrel;have k4':=cell_step K4.out HVR.out;have k23':=cell_step K23.out HVR.out;have k22':=cell_step K22.out HVR.out;clear k4 k22 k23
     by_cases hlt:k < n3
     ·obtain ⟨g0,o,rfl,_,hcell⟩:=HH3.out (by rw[HN3.out];omega);have hkl:k < l3.length:=by rw[HN3.out];exact hlt
      have hc:=cell_step (hcell k hkl) HVR.out;have hi:=HU.out _ (List.getElem_mem hkl)
      obtain ⟨x,hx⟩:∃ x,l3[k]=x:=⟨_,rfl⟩
      rw[hx] at hc hi;have zx:=inside_le hi;rw[L_length,L_length] at zx;have xh:=holds_in f_name x wr (by omega) (by omega) hi;clear hcell hx hi zx;go_wp2_with fail
      refine xh.mono ?_;rintro e wq ⟨rfl,hbq⟩;have HBq:=Aside0.mk (below_step HBR.out hbq);have HVq:=Aside0.mk (below_step HVR.out hbq);clear hbq xh;go_wp2_with fail
      go_roundg (n3 - (k+1))
      case rel=>exact ⟨k+1,by omega,rfl,by go_num,HBq,HVq⟩
      case measure=>omega
     ·have:k=n3:=by omega
      subst this
      cases c:((k:Int)==0) with
      | true =>
       go_wp2_with fail
       go_ret
       first
       | exact ⟨rfl,HBR.out⟩
       | exact ⟨congrArg (fun b=>Ending.returned (Value.bool b)) (by assumption),HBR.out⟩
      | false =>
       have h4:=hlen (by
        rcases Nat.eq_zero_or_pos k with h | h
        ·subst h;cases c
        ·exact h)
       have h5:decide (0 < n2)=true:=decide_eq_true (by have:=of_decide_eq_true h4;omega);go_wp2_with fail
       go_ret
       first
       | exact ⟨rfl,HBR.out⟩
       | exact ⟨congrArg (fun b=>Ending.returned (Value.bool b)) (by assumption),HBR.out⟩
end
set_option maxRecDepth 100000 in
theorem lifted (os:Os) (started:os.Started) (H:Type) (enc:TypeId×Value→H) :
 ReturnsInHanded {} Tryz.checked os 14 .any (fun w args=>(Rows.fnWordsThereSpec.pre enc Tryz.prog Tryz.f14 Rows.fnWordsThereRow.domain false w args∧laidMetH Tryz.prog Rows.fnWordsThereRow.laid w)∧sizedMet enc Tryz.prog Tryz.f14 (OpenSpec.ofChange Rows.fnWordsThereSpec) false w args)
  (Rows.fnWordsThereSpec.post enc Tryz.prog Tryz.f14 false true false false):=by
 refine returnsInHanded_of_change_and (C:=Tryz.checked) (X:=fun w _=>laidMetH Tryz.prog Rows.fnWordsThereRow.laid w) (fun _ _ _ hh h=>h.of_heap hh) RowKit.own started (by kernel_rfl) Tryz.func14
  (ChangeSpec.witness_shaped (enc:=enc) (C:=Tryz.checked) (os:=os) (X:=fun w _=>laidMetH Tryz.prog Rows.fnWordsThereRow.laid w) false (World.laidAll Tryz.prog os Rows.fnWordsThereRow.laid) #[.agg #[.slice none 0 0,.slice none 0 0,.slice none 0 0,.slice none 0 0],.string ByteArray.empty,.string ByteArray.empty] 8 (World.laidAll_os _ _ _)
   (World.shaped_of_ZipB (by kernel_rfl) (by kernel_rfl)) (by kernel_rfl) (by kernel_rfl) (by kernel_rfl)
   (by rw[MakeChecks.laidMetH_plain _ _ _ (by kernel_rfl)];exact laidMet_laidAll _ (by kernel_rfl) (by kernel_rfl))) ?_
 intro W base args ds gs before hval0 hW _ _ _ _;have hval:∀ (j:Nat) t v,Tryz.f14.params[j]? = some t→args[j]? = some v→Value.okWide Tryz.prog W .any base t v:=hval0;have hW':=hW;obtain ⟨p,q,hA0,hV,rfl,_,_⟩:=hW;have hA:DataW.TrodAll enc Tryz.prog W 0 (fun _=>true) true Tryz.f14.params.toList args.toList ds p:=hA0;rw[Tryz.params14] at hA hval;obtain ⟨v0,vs0,d0,ds0,p0,q0,hargs,rfl,rfl,h0,r0⟩:=trodAll_cons hA;obtain ⟨v1,vs1,d1,ds1,p1,q1,rfl,rfl,rfl,h1,r1⟩:=trodAll_cons r0;obtain ⟨v2,vs2,d2,ds2,p2,q2,rfl,rfl,rfl,h2,r2⟩:=trodAll_cons r1;obtain ⟨rfl,rfl,rfl⟩:=trodAll_nil r2;obtain rfl:args = #[v0,v1,v2]:=by cases args;simp_all
 obtain ⟨rfl,rfl⟩:=trodVars_none hV;have k0:=h0;have lt0:∀ x∈p0,x.block < W.heap.size:=by obtain ⟨m,hm⟩:=k0;exact DataW.trod_lt m _ _ _ hm
 obtain ⟨st0,vl0,vd0,vf0,vc0,rfl,S0⟩:=SiteRow.open_site (hval 0 25 v0 rfl rfl) h0;obtain ⟨a1,rfl,rfl,rfl,y1⟩:=Go.ChangeMaps.open_string Tryz.underlying9 (hval 1 9 v1 rfl rfl) h1;obtain ⟨a2,rfl,rfl,rfl,y2⟩:=Go.ChangeMaps.open_string Tryz.underlying9 (hval 2 9 v2 rfl rfl) h2;clear hA0 hval0;refine (walk (w:=W) S0 a1 a2).mono fun e W' ⟨he,bel⟩=>?_;subst he;exact ⟨_,rfl,_,_,_,[],_,[],hW',trodAll_mk1 (shut_bool Tryz.underlying4 _),(trodAll_cons_mk (Below.trod SiteRow.laidOut (by kernel_rfl) (of_decide_eq_true (by kernel_rfl)) k0 bel lt0) (trodAll_cons_mk (Go.ChangeMaps.shut_string Tryz.underlying9 y1) (trodAll_cons_mk (Go.ChangeMaps.shut_string Tryz.underlying9 y2) trodAll_mk0))),rfl,bel.frame _,fun h=>by cases h⟩
theorem said:Rows.FnWordsThereSaid :=
 OpenClaim.holds_of_wide 14 Tryz.f14 rfl rfl rfl rfl rfl rfl rfl ⟨rfl,rfl,rfl,rfl,rfl⟩ rfl rfl rfl rfl rfl (by kernel_rfl) Tryz.func14 (by kernel_rfl)
  (of_decide_eq_true (by kernel_rfl)) (by unfold Func.isWrapper;first | (rw[if_pos (by decide +kernel)];kernel_rfl) | (rw[if_neg (by decide +kernel)];exact ⟨rfl,rfl⟩))
  (fun os started H enc _=>lifted os started H enc)
theorem plain (f:FuncId) (fn:Func) (hf:Tryz.pinned.checked.prog.funcNamed "pub-trackway/laws.FnWordsThere" = some f) (hfn:Tryz.pinned.checked.prog.funcs[f]? = some fn) :
 false=Tryz.pinned.checked.prog.looks []∧∀ (j:Nat) t,fn.params[j]? = some t→Tryz.pinned.checked.prog.wantsStandIn t=false:=by
 obtain rfl:f=14:=Option.some.inj ((show Tryz.prog.funcNamed "pub-trackway/laws.FnWordsThere" = some 14 by kernel_rfl).symm.trans hf) |>.symm
 obtain rfl:fn=Tryz.f14:=(Option.some.inj (Tryz.func14.symm.trans hfn)).symm;refine ⟨by kernel_rfl,fun j t ht=>?_⟩;rw[Tryz.params14] at ht;have hm:t∈[25,9,9]:=by simpa using Array.mem_of_getElem? ht
 have hall:([25,9,9].all fun u=>!Tryz.prog.wantsStandIn u)=true:=by kernel_rfl
 exact (show Tryz.prog.wantsStandIn t=false by simpa using List.all_eq_true.1 hall t hm)
theorem card:Rows.FnWordsThereCardSaid :=
 Claim7.holds_tied_plain_at .later [] _ _ _ _ said (fun _ h=>by cases h) (by kernel_rfl) (fun _ h=>by cases h) fnWordsThere_row_tie rfl ⟨rfl,rfl⟩ (by kernel_rfl) rfl plain (by kernel_rfl)
end Go.Proofs.YtjlaamcklhdhaaaGreatDoor.fnWordsThere
namespace Go.Proofs.YtjlaamcklhdhaaaGreatDoor
theorem fnWordsThere_card:Rows.FnWordsThereCardSaid:=fnWordsThere.card
#print axioms fnWordsThere_card
end Go.Proofs.YtjlaamcklhdhaaaGreatDoor
