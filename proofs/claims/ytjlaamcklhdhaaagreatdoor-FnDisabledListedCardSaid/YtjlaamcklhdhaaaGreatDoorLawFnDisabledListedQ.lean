/- One of the identifiers of a path that is disabled is a disabled language; a path that is not has no language, several, or one that the site has. Condition: none but the statement's own. -/
import Derived.Deep.QuietTactic
import Derived.BigQuiet
import Derived.Test.YtjlaamcklhdhaaaGreatDoorQ1
import Derived.Test.YtjlaamcklhdhaaaGreatDoorQ10
import Derived.Test.YtjlaamcklhdhaaaGreatDoorQ11
import Derived.Test.YtjlaamcklhdhaaaGreatDoorQ12
import Derived.Test.YtjlaamcklhdhaaaGreatDoorQ13
import Derived.Test.YtjlaamcklhdhaaaGreatDoorQ14
import Derived.Test.YtjlaamcklhdhaaaGreatDoorQ15
import Derived.Test.YtjlaamcklhdhaaaGreatDoorQ16
import Derived.Test.YtjlaamcklhdhaaaGreatDoorQ17
import Derived.Test.YtjlaamcklhdhaaaGreatDoorQ18
import Derived.Test.YtjlaamcklhdhaaaGreatDoorQ19
import Derived.Test.YtjlaamcklhdhaaaGreatDoorQ2
import Derived.Test.YtjlaamcklhdhaaaGreatDoorQ20
import Derived.Test.YtjlaamcklhdhaaaGreatDoorQ21
import Derived.Test.YtjlaamcklhdhaaaGreatDoorQ22
import Derived.Test.YtjlaamcklhdhaaaGreatDoorQ23
import Derived.Test.YtjlaamcklhdhaaaGreatDoorQ3
import Derived.Test.YtjlaamcklhdhaaaGreatDoorQ4
import Derived.Test.YtjlaamcklhdhaaaGreatDoorQ5
import Derived.Test.YtjlaamcklhdhaaaGreatDoorQ6
import Derived.Test.YtjlaamcklhdhaaaGreatDoorQ7
import Derived.Test.YtjlaamcklhdhaaaGreatDoorQ8
import Derived.Test.YtjlaamcklhdhaaaGreatDoorQ9
import Derived.Test.YtjlaamcklhdhaaaGreatDoorRD1
set_option linter.unusedVariables false
set_option linter.unusedSimpArgs false
set_option linter.unusedSimpArgs false
set_option linter.unusedVariables false
namespace Go.Proofs.YtjlaamcklhdhaaaGreatDoor.fnDisabledListed
open Go.ChangeShapes Go.WideShapes Go.ChangeAt Go.RowKit Go.WideMaps Go.Proofs.YtjlaamcklhdhaaaGreatDoorW.PrintWords Go.Proofs.YtjlaamcklhdhaaaGreatDoor.Base Go.Proofs.YtjlaamcklhdhaaaGreatDoor.Lower Go.Proofs.YtjlaamcklhdhaaaGreatDoor.Total Go.Proofs.YtjlaamcklhdhaaaGreatDoor.Path Go.Proofs.YtjlaamcklhdhaaaGreatDoor.PCore
theorem any_step (f:ByteArray→Bool) (l:List ByteArray) (k:Nat) (h:k < l.length):(l.take (k+1)).any f=((l.take k).any f || f l[k]):=by
 rw[List.take_succ_eq_append_getElem h,List.any_append]
 simp
section
variable {w:World} {st:SiteV} {vl vd vf vc:Value}
set_option maxRecDepth 100000 in
set_option maxHeartbeats 4000000 in
theorem walk (S:SiteArg w st vl vd vf vc) (comp s:ByteArray):Calls Tryz.prog 7 #[.agg #[vl,vd,vf,vc],.string comp,.string s] w fun e w'=>e = .returned (.bool true)∧Below w.heap.size w w':=by
 have HSA:=Aside0.mk S;obtain ⟨Al,cl,rfl,_,_⟩:=S.l;obtain ⟨Ad,cd,rfl,_,_⟩:=S.d;obtain ⟨Af,cf,rfl,_,_⟩:=S.f;obtain ⟨Ac,cc,rfl,_,_⟩:=S.c;clear S;have hB1:Below w.heap.size w (w.alloc (.cells #[.slice Al st.langs.length cl,.slice Ad st.dis.length cd,.slice Af st.fmts.length cf,.slice Ac st.cont.length cc] 25)):=(Below.refl _ _).alloc (Nat.le_refl _) _;have hR1:=Row.new w [.slice Al st.langs.length cl,.slice Ad st.dis.length cd,.slice Af st.fmts.length cf,.slice Ac st.cont.length cc] 25;have hs1:w.heap.size < (w.alloc (.cells #[.slice Al st.langs.length cl,.slice Ad st.dis.length cd,.slice Af st.fmts.length cf,.slice Ac st.cont.length cc] 25)).heap.size:=by simp
 go_enter Tryz.func7,Tryz.ntmps7;go_upto_region 1 with fail
 obtain ⟨w1,hw1⟩:∃ w1,w.alloc (.cells #[.slice Al st.langs.length cl,.slice Ad st.dis.length cd,.slice Af st.fmts.length cf,.slice Ac st.cont.length cc] 25)=w1:=⟨_,rfl⟩
 rw[hw1] at hB1 hR1 hs1 ⊢;clear hw1;have HB1:=Aside0.mk hB1;have HRS:=Aside0.mk hR1;have r0:=hR1.at 0 _ rfl;have r1:=hR1.at 1 _ rfl;have r2:=hR1.at 2 _ rfl;have r3:=hR1.at 3 _ rfl;have cz:=zzFits_calls (HSA.out.below hB1)
 obtain ⟨ft,hft⟩:∃ f,fitsS st=f:=⟨_,rfl⟩
 rw[hft] at cz;have HFT:=Aside0.mk hft
 obtain ⟨q1,hq1⟩:∃ q,decide ((2147483647:Int) < (comp.size:Int))=q:=⟨_,rfl⟩
 obtain ⟨q2,hq2⟩:∃ q,decide ((2147483647:Int) < (s.size:Int))=q:=⟨_,rfl⟩
 have HQ1:=Aside0.mk hq1;have HQ2:=Aside0.mk hq2;have hq1' : decide (2147483647 < comp.size)=q1:=by rw[← hq1];by_cases c:2147483647 < comp.size <;> simp[c] <;> omega
 have hq2' : decide (2147483647 < s.size)=q2:=by rw[← hq2];by_cases c:2147483647 < s.size <;> simp[c] <;> omega
 clear hB1 hR1 hft
 go_cut [24] from 12 to 24 (fun sx wx=>sx = .bool (!ft || (q1 || q2))∧Aside0 (Below w1.heap.size w1 wx))
 case first =>
  go_wp2_with fail
  refine cz.mono ?_;rintro e w2 ⟨rfl,hb2⟩;have HB2:=Aside0.mk hb2;clear hb2 cz;cases ft
  ·go_wp2_with fail
   go_meet
   case rel=>exact ⟨rfl,HB2⟩
  ·cases q1
   ·go_wp2_with fail
    go_meet
    case rel=>exact ⟨rfl,HB2⟩
   ·go_wp2_with fail
    go_meet
    case rel=>exact ⟨rfl,HB2⟩
 case rest =>
  obtain ⟨rfl,HB2⟩:=hcut
  obtain ⟨w2,rfl⟩:∃ x,x=wc:=⟨_,rfl⟩
  clear cz hq1 hq2 hq1' hq2' r0 r1 r2 r3;have HBA:=Aside0.mk (HB1.out.trans (HB2.out.mono HB1.out.size))
  obtain ⟨g,hg⟩:∃ g,(!ft || (q1 || q2))=g:=⟨_,rfl⟩
  rw[hg];have HG:=Aside0.mk hg;clear hg;cases g;rotate_left
  ·go_wp2_with fail
   go_ret;exact ⟨rfl,HBA.out⟩
  ·have hf:ft=true∧q1=false∧q2=false:=by have h9:=HG.out;revert h9;cases ft <;> cases q1 <;> cases q2 <;> simp
   obtain ⟨rfl,rfl,rfl⟩:=hf;have hcs:comp.size≤MM:=by have:=of_decide_eq_false HQ1.out;unfold MM;omega
   have hss:s.size≤MM:=by have:=of_decide_eq_false HQ2.out;unfold MM;omega
   have hRs:=HRS.out.below HB2.out hs1;have r0:=hRs.at 0 _ rfl;have r1:=hRs.at 1 _ rfl;have r2:=hRs.at 2 _ rfl;have r3:=hRs.at 3 _ rfl;obtain ⟨ok,HOK,ck⟩:=known_calls (HSA.out.below HBA.out) HFT.out comp s hcs hss;replace HOK:=Aside0.mk HOK;have HRS2:=Aside0.mk hRs;clear hRs hcs hss;go_wp2_with fail
   refine ck.mono ?_;rintro e w4 ⟨t,l1,l2,l3,v1,v2,v3,rfl,hs,ht,hb4⟩;have HSL:=Aside0.mk hs;have HT:=Aside0.mk ht;have HB4:=Aside0.mk hb4;obtain ⟨A1,c1,e1,_⟩:=HSL.out.1;obtain ⟨A2,c2,e2,_⟩:=HSL.out.2.1;obtain ⟨A3,c3,e3,_⟩:=HSL.out.2.2;clear ck hs ht hb4 r0 r1 r2 r3
   obtain ⟨C,hC⟩:∃ C:Array Value,toldC t v1 v2 v3=C:=⟨_,rfl⟩
   have hval:toldVal t v1 v2 v3 = .agg C:=by rw[← hC];rfl
   have HCS:=Aside0.mk (show C.size=31 by rw[← hC];rfl);have HON:=Aside0.mk (show C.all (·.oneCell')=true by rw[← hC,e1,e2,e3];exact toldC_one _ _ _ _ _ _ _ _ _ _);rw[hval];have HC:=Aside0.mk hC;clear hval e1 e2 e3 hC;have hRZ:=Row.new w4 toldZero 28;have HCE:=Aside0.mk (told_cells hRZ rfl HCS.out);have HBW:=Aside0.mk (told_world w4 C)
   go_upto_region 4 with (first | (refine told_store rfl _ _ rfl w4.heap.size C rfl rfl hRZ rfl HCS.out HON.out ?_) | fail)
   change Code.wp _ _ _ _ ((w4.alloc (.cells toldZero.toArray 28)).setCells w4.heap.size 0 C.toList)
   obtain ⟨W,hW⟩:∃ W,(w4.alloc (.cells toldZero.toArray 28)).setCells w4.heap.size 0 C.toList=W:=⟨_,rfl⟩
   rw[hW] at HCE HBW ⊢
   obtain ⟨bk,hbk⟩:∃ b,w4.heap.size=b:=⟨_,rfl⟩
   have HBK:=Aside0.mk hbk;rw[hbk] at HCE ⊢;clear hW hbk hRZ;have HBX:=Aside0.mk (below_step (below_step HBA.out HB4.out) HBW.out);have HRS3:=Aside0.mk ((HRS2.out.below HB4.out (Nat.lt_of_lt_of_le hs1 HB2.out.size)).below HBW.out (Nat.lt_of_lt_of_le (Nat.lt_of_lt_of_le hs1 HB2.out.size) HB4.out.size));cases ok
   ·go_wp2_with fail
    go_ret;exact ⟨rfl,HBX.out⟩
   ·obtain ⟨ht1,rfl,rfl,rfl⟩:=HT.out (by first | rfl | trivial);obtain ⟨OS,HASC,HASCC,hs400,hc2000,hPK⟩:=HOK.out (by first | rfl | trivial);have HPK:=Aside0.mk hPK;clear hPK
    obtain ⟨p,hp⟩:∃ p,mPath (envOf st) comp (norm s)=p:=⟨_,rfl⟩
    rw[hp] at ht1 HSL;subst ht1;have HP:=Aside0.mk hp;have hpo:=mPath_ok (envOf st) comp (norm s) (by rw[norm_size];omega);rw[hp] at hpo;have HPO:=Aside0.mk hpo;have HPN:=Aside0.mk (mPath_ne (envOf st) comp (norm s));rw[hp] at HPN;have k9:=HCE.out 9 (.string (nrm p.trim p.s)) (by rw[← HC.out];rfl);have hne:=HPN.out;clear hp hpo HT HOK;go_upto_if 38 with fail
    clear k9 hne
    obtain ⟨f_lang,e_lang⟩:∃ x,mLang p=x:=⟨_,rfl⟩
    have k19:=HCE.out 19 (.string f_lang) (by rw[← HC.out,← e_lang];rfl)
    obtain ⟨f_disabled,e_disabled⟩:∃ x,p.dis=x:=⟨_,rfl⟩
    have k24:=HCE.out 24 (.bool f_disabled) (by rw[← HC.out,← e_disabled];rfl);obtain ⟨A1,c1,e1,_⟩:=HSL.out.1
    obtain ⟨n1,hn1⟩:∃ n,(mLangs p).length=n:=⟨_,rfl⟩
    have k21:=HCE.out 21 (.slice A1 n1 c1) (by rw[← HC.out,e1,← hn1];rfl);clear e1;obtain ⟨A2,c2,e2,_,hh2⟩:=HSL.out.2.1.below HBW.out
    obtain ⟨l2,hl2⟩:∃ l,mIds p=l:=⟨_,rfl⟩
    obtain ⟨n2,hn2⟩:∃ n,l2.length=n:=⟨_,rfl⟩
    have k22:=HCE.out 22 (.slice A2 n2 c2) (by rw[← HC.out,e2,← hn2,← hl2];rfl);rw[hl2] at hh2;have HH2:=Aside0.mk hh2;clear e2 hh2;obtain ⟨_,_,f3,f4⟩:=kLang HPK.out HP.out;rw[e_lang,e_disabled] at f3;rw[e_disabled,hl2] at f4;clear hn1 e_lang e_disabled;cases f_disabled
    ·replace f3:=f3 rfl;clear f4
     cases c0:(f_lang.toList==[]) with
     | true =>
      go_wp2_with fail
      go_ret
      first
      | exact ⟨rfl,HBX.out⟩
      | exact ⟨congrArg (fun b=>Ending.returned (Value.bool b)) (by assumption),HBX.out⟩
     | false =>
      cases c1:decide ((1:Int) < (n1:Int)) with
      | true =>
       have c1' : decide (1 < n1)=true:=decide_eq_true (by have:=of_decide_eq_true c1;omega);go_wp2_with fail
       go_ret
       first
       | exact ⟨rfl,HBX.out⟩
       | exact ⟨congrArg (fun b=>Ending.returned (Value.bool b)) (by assumption),HBX.out⟩
      | false =>
       have c1' : decide (1 < n1)=false:=decide_eq_false (by have:=of_decide_eq_false c1;omega)
       have f5:listed st.langs f_lang=true:=by
        rcases f3 with h | h
        ·rw[h] at c0;cases c0
        ·exact h
       have SA:=HSA.out.below HBX.out;have r0:=HRS3.out.at 0 _ rfl;have x1:=listed_calls SA.l SA.ll f_lang;rw[f5] at x1;clear f3 f5 SA;go_wp2_with fail
       refine x1.mono ?_;rintro e w5 ⟨rfl,hb5⟩;have HB5:=Aside0.mk (below_step HBX.out hb5);clear hb5 x1 r0;go_wp2_with fail
       go_ret
       first
       | exact ⟨rfl,HB5.out⟩
       | exact ⟨congrArg (fun b=>Ending.returned (Value.bool b)) (by assumption),HB5.out⟩
    ·have hany:l2.any (fun x=>listed st.dis x)=true:=by
      obtain ⟨x,h1,h2⟩:=f4 rfl;exact List.any_eq_true.2 ⟨x,h1,h2⟩
     have HAN:=Aside0.mk hany;have hle:n2≤1000000:=by rw[← hn2,← hl2];unfold mIds;rw[List.length_map];exact HPO.out.1.toPathIn.kl
     have HN2:=Aside0.mk hn2;have K22:=Aside0.mk k22;clear f3 f4 hany hn2 hl2 k19 k21;go_upto_region 10 with fail
     clear k24
     go_loopg [9,63] n2 (fun g c i wr=>∃ (k:Nat) (b:Bool),k≤n2∧g=n2 - k∧c = .bool b∧i = .int .i64 k∧Aside0 ((l2.take k).any (fun x=>listed st.dis x)=b)∧Aside0 (Below w.heap.size w wr)∧Aside0 (Below W.heap.size W wr))
     case atStart=>exact ⟨0,false,Nat.zero_le _,rfl,rfl,rfl,⟨by simp⟩,HBX,⟨Below.refl _ _⟩⟩
     case round =>
      obtain ⟨k,b,hk,hg,rfl,rfl,HANY,HBR,HVR⟩:=hrel;have k22':=cell_step K22.out HVR.out;clear k22
      by_cases hlt:k < n2
      ·obtain ⟨g0,o,rfl,_,hcell⟩:=HH2.out (by rw[HN2.out];omega);have hkl:k < l2.length:=by rw[HN2.out];exact hlt
       have hc:=cell_step (hcell k hkl) HVR.out;have HST:=Aside0.mk (any_step (fun x=>listed st.dis x) l2 k hkl)
       obtain ⟨x,hx⟩:∃ x,l2[k]=x:=⟨_,rfl⟩
       rw[hx] at hc HST;rw[HANY.out] at HST;clear hcell hx;cases b
       ·have HRR:=Aside0.mk (HRS3.out.below HVR.out (HRS3.out.lt (by simp)));have r1:=HRR.out.at 1 _ rfl;have SA:=HSA.out.below HBR.out;have x2:=listed_calls SA.d SA.dl x
        obtain ⟨bx,hbx⟩:∃ b,listed st.dis x=b:=⟨_,rfl⟩
        rw[hbx] at x2 HST;clear SA hbx;go_wp2_with fail
        refine x2.mono ?_;rintro e wq ⟨rfl,hbq⟩;have HBq:=Aside0.mk (below_step HBR.out hbq);have HVq:=Aside0.mk (below_step HVR.out hbq);clear hbq x2 r1;go_wp2_with fail
        go_roundg (n2 - (k+1))
        case rel=>exact ⟨k+1,bx,by omega,rfl,rfl,by go_num,⟨HST.out⟩,HBq,HVq⟩
        case measure=>omega
       ·go_wp2_with fail
        go_roundg (n2 - (k+1))
        case rel=>exact ⟨k+1,true,by omega,rfl,rfl,by go_num,⟨HST.out⟩,HBR,HVR⟩
        case measure=>omega
      ·have:k=n2:=by omega
       subst this
       have hb:b=true:=by
        rw[← HANY.out,List.take_of_length_le (by rw[HN2.out];exact Nat.le_refl _)];exact HAN.out
       subst hb;go_wp2_with fail
       go_ret
       first
       | exact ⟨rfl,HBR.out⟩
       | exact ⟨congrArg (fun b=>Ending.returned (Value.bool b)) (by assumption),HBR.out⟩
end
set_option maxRecDepth 100000 in
theorem lifted (os:Os) (started:os.Started) (H:Type) (enc:TypeId×Value→H) :
 ReturnsInHanded {} Tryz.checked os 7 .any (fun w args=>(Rows.fnDisabledListedSpec.pre enc Tryz.prog Tryz.f7 Rows.fnDisabledListedRow.domain false w args∧laidMetH Tryz.prog Rows.fnDisabledListedRow.laid w)∧sizedMet enc Tryz.prog Tryz.f7 (OpenSpec.ofChange Rows.fnDisabledListedSpec) false w args)
  (Rows.fnDisabledListedSpec.post enc Tryz.prog Tryz.f7 false true false false):=by
 refine returnsInHanded_of_change_and (C:=Tryz.checked) (X:=fun w _=>laidMetH Tryz.prog Rows.fnDisabledListedRow.laid w) (fun _ _ _ hh h=>h.of_heap hh) RowKit.own started (by kernel_rfl) Tryz.func7
  (ChangeSpec.witness_shaped (enc:=enc) (C:=Tryz.checked) (os:=os) (X:=fun w _=>laidMetH Tryz.prog Rows.fnDisabledListedRow.laid w) false (World.laidAll Tryz.prog os Rows.fnDisabledListedRow.laid) #[.agg #[.slice none 0 0,.slice none 0 0,.slice none 0 0,.slice none 0 0],.string ByteArray.empty,.string ByteArray.empty] 8 (World.laidAll_os _ _ _)
   (World.shaped_of_ZipB (by kernel_rfl) (by kernel_rfl)) (by kernel_rfl) (by kernel_rfl) (by kernel_rfl)
   (by rw[MakeChecks.laidMetH_plain _ _ _ (by kernel_rfl)];exact laidMet_laidAll _ (by kernel_rfl) (by kernel_rfl))) ?_
 intro W base args ds gs before hval0 hW _ _ _ _;have hval:∀ (j:Nat) t v,Tryz.f7.params[j]? = some t→args[j]? = some v→Value.okWide Tryz.prog W .any base t v:=hval0;have hW':=hW;obtain ⟨p,q,hA0,hV,rfl,_,_⟩:=hW;have hA:DataW.TrodAll enc Tryz.prog W 0 (fun _=>true) true Tryz.f7.params.toList args.toList ds p:=hA0;rw[Tryz.params7] at hA hval;obtain ⟨v0,vs0,d0,ds0,p0,q0,hargs,rfl,rfl,h0,r0⟩:=trodAll_cons hA;obtain ⟨v1,vs1,d1,ds1,p1,q1,rfl,rfl,rfl,h1,r1⟩:=trodAll_cons r0;obtain ⟨v2,vs2,d2,ds2,p2,q2,rfl,rfl,rfl,h2,r2⟩:=trodAll_cons r1;obtain ⟨rfl,rfl,rfl⟩:=trodAll_nil r2;obtain rfl:args = #[v0,v1,v2]:=by cases args;simp_all
 obtain ⟨rfl,rfl⟩:=trodVars_none hV;have k0:=h0;have lt0:∀ x∈p0,x.block < W.heap.size:=by obtain ⟨m,hm⟩:=k0;exact DataW.trod_lt m _ _ _ hm
 obtain ⟨st0,vl0,vd0,vf0,vc0,rfl,S0⟩:=SiteRow.open_site (hval 0 25 v0 rfl rfl) h0;obtain ⟨a1,rfl,rfl,rfl,y1⟩:=Go.ChangeMaps.open_string Tryz.underlying9 (hval 1 9 v1 rfl rfl) h1;obtain ⟨a2,rfl,rfl,rfl,y2⟩:=Go.ChangeMaps.open_string Tryz.underlying9 (hval 2 9 v2 rfl rfl) h2;clear hA0 hval0;refine (walk (w:=W) S0 a1 a2).mono fun e W' ⟨he,bel⟩=>?_;subst he;exact ⟨_,rfl,_,_,_,[],_,[],hW',trodAll_mk1 (shut_bool Tryz.underlying4 _),(trodAll_cons_mk (Below.trod SiteRow.laidOut (by kernel_rfl) (of_decide_eq_true (by kernel_rfl)) k0 bel lt0) (trodAll_cons_mk (Go.ChangeMaps.shut_string Tryz.underlying9 y1) (trodAll_cons_mk (Go.ChangeMaps.shut_string Tryz.underlying9 y2) trodAll_mk0))),rfl,bel.frame _,fun h=>by cases h⟩
theorem said:Rows.FnDisabledListedSaid :=
 OpenClaim.holds_of_wide 7 Tryz.f7 rfl rfl rfl rfl rfl rfl rfl ⟨rfl,rfl,rfl,rfl,rfl⟩ rfl rfl rfl rfl rfl (by kernel_rfl) Tryz.func7 (by kernel_rfl)
  (of_decide_eq_true (by kernel_rfl)) (by unfold Func.isWrapper;first | (rw[if_pos (by decide +kernel)];kernel_rfl) | (rw[if_neg (by decide +kernel)];exact ⟨rfl,rfl⟩))
  (fun os started H enc _=>lifted os started H enc)
theorem plain (f:FuncId) (fn:Func) (hf:Tryz.pinned.checked.prog.funcNamed "pub-trackway/laws.FnDisabledListed" = some f) (hfn:Tryz.pinned.checked.prog.funcs[f]? = some fn) :
 false=Tryz.pinned.checked.prog.looks []∧∀ (j:Nat) t,fn.params[j]? = some t→Tryz.pinned.checked.prog.wantsStandIn t=false:=by
 obtain rfl:f=7:=Option.some.inj ((show Tryz.prog.funcNamed "pub-trackway/laws.FnDisabledListed" = some 7 by kernel_rfl).symm.trans hf) |>.symm
 obtain rfl:fn=Tryz.f7:=(Option.some.inj (Tryz.func7.symm.trans hfn)).symm;refine ⟨by kernel_rfl,fun j t ht=>?_⟩;rw[Tryz.params7] at ht;have hm:t∈[25,9,9]:=by simpa using Array.mem_of_getElem? ht
 have hall:([25,9,9].all fun u=>!Tryz.prog.wantsStandIn u)=true:=by kernel_rfl
 exact (show Tryz.prog.wantsStandIn t=false by simpa using List.all_eq_true.1 hall t hm)
theorem card:Rows.FnDisabledListedCardSaid :=
 Claim7.holds_tied_plain_at .later [] _ _ _ _ said (fun _ h=>by cases h) (by kernel_rfl) (fun _ h=>by cases h) fnDisabledListed_row_tie rfl ⟨rfl,rfl⟩ (by kernel_rfl) rfl plain (by kernel_rfl)
end Go.Proofs.YtjlaamcklhdhaaaGreatDoor.fnDisabledListed
namespace Go.Proofs.YtjlaamcklhdhaaaGreatDoor
theorem fnDisabledListed_card:Rows.FnDisabledListedCardSaid:=fnDisabledListed.card
#print axioms fnDisabledListed_card
end Go.Proofs.YtjlaamcklhdhaaaGreatDoor
